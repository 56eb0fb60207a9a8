import PyProof.Rows.All
import Wide.All
import OpenK.AllK
import Wide.FinOn
import KE.KIsBytes
import KE.BytesMake
import KE.KxBytes
import KE.KDictIter
import Wide.Txt2
import KE.KBytesWalk
import KE.KTypeName
import KE.KxPercent
import OpenK.KNot
import PyProof.StrWalks
import PyProof.DictWalks
import KE.KBytesCut
import PySem.Challenge.RW_dm0221_05
set_option Elab.async false
set_option linter.all false
set_option genInjectivity false
set_option genSizeOf false
set_option bootstrap.genMatcherCode false
section
open PySem PySem.W PyProof.Rows
namespace Mine
set_option linter.unusedVariables false
/- a set's table: its places rise -/
noncomputable def Rise (xs : Array Nat) : Prop := xs.toList.Pairwise (· < ·)
structure BelowIs (xs : Array Nat) (j r : Nat) : Prop where
  le : r ≤ xs.size
  lo : ∀ i (h : i < xs.size), i < r → xs[i] < j
  hi : ∀ i (h : i < xs.size), r ≤ i → j ≤ xs[i]
theorem rise_empty : Rise #[] := List.Pairwise.nil
/- the slots that a search meets -/
/-- what is kept of a table -/
structure Tab (ld : Bool) (t : SetTable) : Prop where
  rise : Rise t.place
  led : t.led = ld
theorem Tab.fresh (a b : Nat) (ld : Bool) : Tab ld (.fresh a b ld) := ⟨rise_empty, rfl⟩
end Mine
end
section
open PySem PySem.W PyProof.Rows
namespace Mine
set_option linter.unusedVariables false
/- rising rows of ints -/
section
variable {prog : Program} {w : World} {A : Around} {E : Value → Shared → Prop} {s : Shared}
end
end Mine
end
section
open PySem PySem.W PyProof.Rows PySem.Calls
namespace Mine
set_option linter.unusedVariables false
set_option maxRecDepth 100000
/-- a set that may be gone over: b tells that its places count -/
structure SetIt (b : Bool) (es : Array (Int × Value)) (t : SetTable) : Prop where
  fits : t.fits es.size = true
  rise : Rise t.place
  plain : t.plain = true
  led : t.led = b
section
variable {prog : Program} {w : World} {A : Around} {E : Value → Shared → Prop} {s : Shared} {a I : Addr} {o : Obj} {es : Array (Int × Value)} {ep i slot : Nat} {t : SetTable}
theorem setByText {Q : Bool → Shared → Prop} (h : Q (w.params.followText "set-order") s) : wpAny (model prog w) A setsByText Q E s := by
  unfold setsByText
  exact wpAny_bind (wpAny_askSetting (wpAny_pure h))
end
end Mine
end
section
open PySem PySem.W PyProof.Rows
namespace Mine
set_option linter.unusedVariables false
set_option maxRecDepth 100000
/- small sets: ints from 0 to 4, put in one after the other -/
/-- the table of such a set -/
noncomputable def Tof (ld : Bool) (xs : List Int) : SetTable := { mask := if xs.length ≤ 4 then 7 else 31, place := (xs.map Int.toNat).toArray, dummies := #[], finger := 0, led := ld, moves := if xs.length ≤ 4 then 0 else 1, plain := true }
noncomputable def subs : List (List Int) := [[], [0], [1], [0, 1], [2], [0, 2], [1, 2], [0, 1, 2], [3], [0, 3], [1, 3], [0, 1, 3], [2, 3], [0, 2, 3], [1, 2, 3], [0, 1, 2, 3], [4], [0, 4], [1, 4], [0, 1, 4], [2, 4], [0, 2, 4], [1, 2, 4], [0, 1, 2, 4], [3, 4], [0, 3, 4], [1, 3, 4], [0, 1, 3, 4], [2, 3, 4], [0, 2, 3, 4], [1, 2, 3, 4], [0, 1, 2, 3, 4]]
noncomputable def keyOf (e : Int × Value) : Option (Int × Int) := match e.2 with | .int i _ => some (i, e.1) | _ => none
structure SmS (ld : Bool) (es : Array (Int × Value)) (t : SetTable) (xs : List Int) : Prop where
  sub : xs ∈ subs
  tab : t = Tof ld xs
  keys : es.toList.map keyOf = xs.map fun i => some (i, hashInt i)
section
variable {prog : Program} {w : World} {A : Around} {E : Value → Shared → Prop} {s : Shared}
end
end Mine
end
section
open PySem PySem.W PyProof.Rows
set_option linter.unusedVariables false
set_option linter.unusedSectionVars false
set_option maxRecDepth 100000
namespace Mine
/- tables of ints from 0 to 31 never give way -/
noncomputable def masks : List Nat := [7, 15, 31, 63, 127, 255]
theorem nodup_sub {α : Type} [DecidableEq α] : ∀ {l l' : List α}, l.Nodup → (∀ x ∈ l, x ∈ l') → l.length ≤ l'.length
  | [], _, _, _ => Nat.zero_le _
  | x :: l, l', n, h => by
    rw [List.nodup_cons] at n
    have hx := h x List.mem_cons_self
    have := nodup_sub (l' := l'.erase x) n.2 fun y hy => (List.mem_erase_of_ne (fun e : y = x => n.1 (e ▸ hy))).mpr (h y (List.mem_cons_of_mem _ hy))
    rw [List.length_erase_of_mem hx] at this
    have : 0 < l'.length := List.length_pos_of_mem hx
    rw [List.length_cons]; omega
structure Good (t : SetTable) : Prop where
  plain : t.plain = true
  mask : t.mask ∈ masks
  room : t.fill * 5 < t.mask * 3
/- all laid anew -/
structure Lays (m : Nat) (owner : Array (Option Nat)) (k : Nat) : Prop where
  size : owner.size = m + 1
  perm : ((List.range (m + 1)).filterMap fun j => owner.getD j none).Perm (List.range k)
end Mine
end
section
open PySem PySem.W PyProof.Rows
set_option linter.unusedVariables false
set_option linter.unusedSectionVars false
set_option maxRecDepth 100000
namespace Mine
noncomputable def intE (e : Int × Value) : Int := match e.2 with | .int i _ => i | _ => 0
/-- a set of ints from 0 to 31, whose table has not given way -/
structure SetG (ld : Bool) (es : Array (Int × Value)) (t : SetTable) (xs : List Int) : Prop where
  el : ∀ e ∈ es.toList, ∃ i tk, e = (hashInt i, Value.int i tk)
  pm : (es.toList.map intE).Perm xs
  srt : xs.Pairwise (· < ·)
  dom : ∀ i ∈ xs, 0 ≤ i ∧ i < 32
  tab : Tab ld t
  siz : t.place.size = es.size
  good : Good t
theorem lt_nodup {xs : List Int} (h : xs.Pairwise (· < ·)) : xs.Nodup := h.imp fun h e => by omega
theorem small_len {xs : List Int} (h : xs.Pairwise (· < ·)) (d : ∀ i ∈ xs, 0 ≤ i ∧ i < 32) : xs.length ≤ 32 := by
  have := nodup_sub (l := xs) (l' := (List.range 32).map (fun (n : Nat) => (n : Int))) (lt_nodup h) fun x hx => by
    have := d x hx
    exact List.mem_map.mpr ⟨x.toNat, List.mem_range.mpr (by omega), by omega⟩
  simpa using this
section
variable {ld : Bool} {es : Array (Int × Value)} {t : SetTable} {xs : List Int}
theorem SetG.size (S : SetG ld es t xs) : es.size = xs.length := by
  have := S.pm.length_eq
  simpa using this
theorem SetG.le (S : SetG ld es t xs) : xs.length ≤ 32 := small_len S.srt S.dom
theorem SetG.scan (S : SetG ld es t xs) : es.size < scanBound := by rw [S.size, show scanBound = 4096 from rfl]; have := S.le; omega
theorem Good.fits (g : Good t) {n : Nat} (h : t.place.size = n) : t.fits n = true := by
  have := g.room
  have h2 : t.fill ≤ t.mask := by omega
  unfold SetTable.fits
  simp [h, h2]
theorem SetG.fits (S : SetG ld es t xs) : t.fits es.size = true := S.good.fits S.siz
theorem SetG.elems {prog : Program} {w : World} (S : SetG ld es t xs) : ElemsOf (PySem.intKind prog w) es.toList := fun e he => by
  obtain ⟨i, tk, rfl⟩ := S.el e he
  exact ⟨⟨i, by simp [PySem.intKind, Value.isInt], rfl⟩, rfl⟩
theorem good_fresh (a b : Nat) (ld : Bool) : Good (.fresh a b ld) := ⟨rfl, (by decide : 7 ∈ masks), (by decide : 0 * 5 < 7 * 3)⟩
theorem SetG.empty (a b : Nat) (ld : Bool) : SetG ld #[] (.fresh a b ld) [] := ⟨fun e he => by simp at he, List.Perm.refl _, .nil, fun i hi => by simp at hi, Tab.fresh a b ld, rfl, good_fresh a b ld⟩
end
section
variable {prog : Program} {w : World} {A : Around} {E : Value → Shared → Prop} {s : Shared}
theorem hgw {b : Bool} (hb : b = false) {Q : Unit → Shared → Prop} (h : Q () s) : wpAny (model prog w) A (match b with | true => rule "set.scan.the-table-gave-way" | false => pure ()) Q E s := by subst hb; exact wpAny_pure h
/-- an int is put in -/
noncomputable def one1 (n : Nat) (ld : Bool) : Bool :=
  let r := layNew (.fresh 0 0 ld) #[] (hashInt (n : Nat)) .none
  r.1 == #[(hashInt (n : Nat), Value.none)] && r.2.1.plain && r.2.1.led == ld && r.2.1.mask == 7 && r.2.1.place.size == 1 && r.2.1.fill == 1 && !r.2.2.2
theorem one_all : ∀ n, n < 32 → ∀ ld, one1 n ld = true := by decide +kernel
theorem ins0 {α : Type} (p : Nat) (x : α) : SetTable.insertAt (#[] : Array α) p x = #[x] := by simp [SetTable.insertAt]
theorem lay_one {i : Int} (hi : 0 ≤ i ∧ i < 32) (ld : Bool) (x : Value) : ∃ t1 wd, layNew (.fresh 0 0 ld) #[] (hashInt i) x = (#[(hashInt i, x)], t1, wd, false) ∧ t1.plain = true ∧ t1.led = ld ∧ t1.mask = 7 ∧ t1.place.size = 1 ∧ t1.fill = 1 := by
  have h1 : ((i.toNat : Nat) : Int) = i := by omega
  have := one_all i.toNat (by omega) ld
  unfold one1 at this
  rw [h1] at this
  unfold layNew at this ⊢
  cases h : SetTable.freeSlot (.fresh 0 0 ld) (hashInt i) with
  | none => rw [h] at this; simp at this
  | some r =>
    rw [h] at this
    simp only [ins0, Bool.and_eq_true, beq_iff_eq, Bool.not_eq_true'] at this ⊢
    obtain ⟨⟨⟨⟨⟨⟨_, a2⟩, a3⟩, a4⟩, a5⟩, a6⟩, a7⟩ := this
    exact ⟨_, r.2, by rw [show ∀ z : Int × Value, (#[z] : Array (Int × Value)).size = (#[(hashInt i, Value.none)] : Array (Int × Value)).size from fun _ => rfl, a7], a2, a3, a4, a5, a6⟩
/-- an int is put into an empty set -/
theorem setAddG {prog : Program} {w : World} {A : Around} {E : Value → Shared → Prop} {s : Shared} {a : Addr} {o : Obj} {ep : Nat} {ld : Bool} {i : Int} {tk : Tok} {Q : Bool → Shared → Prop} (ho : s.heap.get? a = some o) (hd : o.data = .set #[] ep (.fresh 0 0 ld)) (S : SetG ld #[] (.fresh 0 0 ld) []) (hi : 0 ≤ i ∧ i < 32)
    (h : ∀ h' es' ep' t', SetG ld es' t' [i] → h'.get? a = some { o with data := .set es' ep' t' } → Heap.SameBut a s.heap h' → Q true { s with heap := h' }) :
    wpAny (model prog w) A (setAddHashed a (.int i tk) (hashInt i)) Q E s := by
  have hf := S.fits
  have hkey : (PySem.intKind prog w).is i (.int i tk) = true := by simp [PySem.intKind, Value.isInt]
  have hel : ElemsOf (PySem.intKind prog w) (#[] : Array (Int × Value)).toList := S.elems
  unfold setAddHashed setAddHashedIn
  refine wpAny_holding (wpAny_bind (wpAny_setState_of ho hd hf ?_))
  dsimp only
  rw [byScan_of (knd := PySem.intKind prog w) (by rfl) S.scan hel]
  simp only [↓reduceIte]
  unfold setAddByScan
  refine wpAny_bind ?_
  refine wpAny_bind (wpAny_rule ?_)
  refine wpAny_bind (wpAny_setScan_of (knd := PySem.intKind prog w) (k := i) hkey ho hd hf hel ?_)
  rw [show List.findIdx? (fun e : Int × Value => (PySem.intKind prog w).is i e.2) (#[] : Array (Int × Value)).toList = none from rfl]
  dsimp only
  obtain ⟨t1, wd, e, b1, b2, b3, b4, b5⟩ := lay_one hi ld (.int i tk)
  have hT1 : Tab ld t1 := ⟨by
    obtain ⟨⟨l⟩, hl⟩ : ∃ p, p = t1.place := ⟨_, rfl⟩
    unfold Rise
    rw [← hl] at b4 ⊢
    rcases l with _ | ⟨x, _ | ⟨y, l⟩⟩
    · exact List.Pairwise.nil
    · exact List.pairwise_singleton _ _
    · simp at b4, b2⟩
  rw [e]
  refine wpAny_bind (hgw rfl ?_)
  dsimp only
  rw [if_pos b1]
  rw [hashByValue_scannable 8 (by rfl)]
  refine wpAny_bind (wpAny_pure ?_)
  simp only [show plainKind (Value.int i tk) = true from rfl, if_true]
  refine wpAny_bind (wpAny_storeSet_of ho hd ?_ (show 1 ≤ sizeLine by rw [sizeLine_eq]; omega))
  have hg : (s.heap.update a (Obj.putSet #[(hashInt i, .int i tk)] t1)).get? a = some { o with data := .set #[(hashInt i, .int i tk)] (ep + 1) t1 } := by
    have := Heap.get?_update_self (Obj.putSet #[(hashInt i, Value.int i tk)] t1) ho (by rw [putSet_of _ t1 hd]; rfl)
    rw [putSet_of _ t1 hd] at this; exact this
  rw [if_neg (by simp [SetTable.tooFull, b3, b5])]
  exact wpAny_pure (wpAny_pure (h _ _ _ t1 ⟨fun e he => ⟨i, tk, List.mem_singleton.mp he⟩, List.Perm.refl _, List.pairwise_singleton _ _, fun j hj => by rw [List.mem_singleton.mp hj]; exact hi, hT1, b4, ⟨b1, b3 ▸ (by decide : 7 ∈ masks), by rw [b5, b3]; omega⟩⟩ hg (Heap.SameBut.update s.heap a _)))
end
end Mine
end
section
open PySem PySem.W PyProof.Rows
set_option linter.unusedVariables false
set_option linter.unusedSectionVars false
set_option maxRecDepth 100000
namespace Mine
abbrev ldW (w : World) : Bool := !w.params.followText "set-order"
noncomputable def setName (fz : Bool) : String := if fz = true then "frozenset" else "set"
/-- a set's object -/
noncomputable def IsS (h : Heap) (a : Addr) (fz ld : Bool) (xs : List Int) : Prop := ∃ o es ep t, h.get? a = some o ∧ o.cls = .type (setName fz) ∧ o.dict = none ∧ o.data = .set es ep t ∧ SetG ld es t xs
/- plain: rows of ints that rise -/
section
variable {prog : Program} {w : World} {A : Around} {E : Value → Shared → Prop} {s : Shared} {a : Addr} {o : Obj} {es : Array (Int × Value)} {ep : Nat} {t : SetTable} {xs ys : List Int}
end
end Mine
end
section
open PySem PySem.W PyProof.Rows
set_option linter.unusedVariables false
set_option linter.unusedSectionVars false
set_option maxRecDepth 100000
namespace Mine
section
variable {prog : Program} {w : World} {A : Around} {E : Value → Shared → Prop} {s : Shared} {a : Addr} {o : Obj} {es : Array (Int × Value)} {ep : Nat} {t : SetTable} {xs ys : List Int}
end
end Mine
end
section
open PySem PySem.W PyProof.Rows
set_option linter.unusedVariables false
set_option linter.unusedSectionVars false
set_option maxRecDepth 100000
namespace Mine
noncomputable def setObj (T : String) (ld : Bool) : Obj := { cls := .type T, dict := none, data := .set #[] 0 (.fresh 0 0 ld) }
section
variable {prog : Program} {w : World} {A : Around} {E : Value → Shared → Prop} {s : Shared} {a : Addr} {xs ys : List Int}
theorem newSet_T {T : String} {Q : Value → Shared → Prop} (h : Q (.ref s.heap.objs.size) { s with heap := s.heap.push (setObj T (ldW w)) }) : wpAny (model prog w) A (newSet (.type T)) Q E s := by
  unfold newSet
  refine wpAny_bind (setByText ?_)
  exact wpAny_bind (wpAny_alloc (wpAny_pure h))
/- a list -/
end
end Mine
end
section
open PySem PySem.W PyProof.Rows
set_option linter.unusedVariables false
set_option linter.unusedSectionVars false
set_option maxRecDepth 100000
namespace Mine
section
variable {prog : Program} {w : World} {A : Around} {E : Value → Shared → Prop} {s : Shared} {a : Addr} {xs ys : List Int}
end
end Mine
end
section
open PySem PySem.W PyProof.Rows
set_option linter.unusedVariables false
set_option linter.unusedSectionVars false
set_option maxRecDepth 100000
namespace Mine
section
variable {prog : Program} {w : World} {A : Around} {E : Value → Shared → Prop} {s : Shared} {a : Addr} {xs ys : List Int}
end
end Mine
end
section
open PySem PySem.W PyProof.Rows
set_option linter.unusedVariables false
set_option linter.unusedSectionVars false
set_option maxRecDepth 100000
namespace Mine
section
variable {prog : Program} {w : World} {A : Around} {E : Value → Shared → Prop} {s : Shared} {a b : Addr} {xs ys : List Int}
end
end Mine
end
section
open PySem PySem.W PyProof.Rows
set_option linter.unusedVariables false
set_option linter.unusedSectionVars false
set_option maxRecDepth 100000
namespace Mine
section
variable {prog : Program} {w : World} {A : Around} {E : Value → Shared → Prop} {s : Shared} {a b : Addr} {xs ys : List Int}
end
end Mine
end
section
open PySem PySem.W PyProof.Rows PySem.Calls
set_option linter.unusedVariables false
set_option linter.unusedSectionVars false
set_option maxRecDepth 100000
namespace Mine
section
variable {prog : Program} {w : World} {A : Around} {E : Value → Shared → Prop} {s : Shared} {a I : Addr} {o : Obj} {es : Array (Int × Value)} {ep i slot : Nat} {t : SetTable} {xs ys : List Int}
end
end Mine
end
section
open PySem PySem.W PyProof.Rows PySem.Calls
set_option linter.unusedVariables false
set_option linter.unusedSectionVars false
set_option maxRecDepth 100000
namespace Mine
section
variable {prog : Program} {w : World} {A : Around} {E : Value → Shared → Prop} {s : Shared} {a I : Addr} {o : Obj} {es : Array (Int × Value)} {ep i slot : Nat} {t : SetTable} {xs ys : List Int}
end
end Mine
end
section
open PySem PySem.W PyProof.Rows PySem.Calls
set_option linter.unusedVariables false
set_option linter.unusedSectionVars false
set_option maxRecDepth 100000
namespace Mine
section
variable {prog : Program} {w : World} {A : Around} {E : Value → Shared → Prop} {s : Shared} {a : Addr} {xs : List Int}
end
end Mine
end
section
open PySem PySem.W PyProof.Rows PySem.Calls
namespace Mine
set_option linter.unusedVariables false
set_option maxRecDepth 100000
/- a dict that is gone over, its keys unknown -/
section
variable {prog : Program} {w : World} {A : Around} {E : Value → Shared → Prop} {s : Shared} {d I : Addr} {es : Array DictEntry} {ep i : Nat}
/- a dict of int keys is filled -/
end
end Mine
end
section
open PySem PySem.W PyProof.Rows
namespace Mine

/-- kinds of iterators -/
inductive IK where
  | list | tuple | range
deriving DecidableEq, Inhabited

/-- plain values -/
inductive AV where
  | none
  | bool (b : Bool)
  | int (i : Int)
  | float (x : UInt64)
  | str (s : Str)
  | bytes (b : Array UInt8)
  | type (n : String)
  | range (a b s : Int)
  | tup (xs : List AV)
  | lst (xs : List AV)
  | set (fz ld : Bool) (xs : List Int)
  | ptr (n : Nat)
  | itr (k : IK) (xs : List AV)
  | fn (id : String)
  | dict (n : Nat)
  | sm (ld : Bool) (n : Nat)
  | bag (xs : List Int)
  | any
deriving Inhabited

/-- what can turn -/
inductive MO where
  | lst (xs : List AV)
  | itr (k : IK) (xs : List AV)
  | set (ld : Bool) (xs : List Int)
deriving Inhabited

/-- what is seen -/
structure Vw where
  r : Addr → Value → Data → Prop
  m : Nat → Option Addr
structure Vw.Le (R R' : Vw) : Prop where
  r : ∀ a c d, R.r a c d → R'.r a c d
  m : ∀ n a, R.m n = some a → R'.m n = some a
theorem Vw.Le.trans {R R' R'' : Vw} (a : R.Le R') (b : R'.Le R'') : R.Le R'' := ⟨fun _ _ _ h => b.r _ _ _ (a.r _ _ _ h), fun _ _ h => b.m _ _ (a.m _ _ h)⟩

mutual
noncomputable def Rep (R : Vw) : Value → AV → Prop
  | v, .none => v = .none
  | v, .bool b => v = .bool b
  | v, .int i => ∃ t, v = .int i t
  | v, .float x => ∃ t, v = .float x t
  | v, .str s => ∃ t, v = .str s t
  | v, .bytes b => ∃ t, v = .bytes b t
  | v, .type n => v = .type n
  | v, .fn n => v = .builtin n
  | _, .any => True
  | v, .dict n => ∃ a es ep, v = .ref a ∧ R.r a (.type "dict") (.dict es ep) ∧ es.size = n ∧ (a == sysModules) = false
  | v, .sm ld n => ∃ a es ep t, v = .ref a ∧ R.r a (.type "set") (.set es ep t) ∧ es.size = n ∧ SetIt ld es t
  | v, .ptr n => ∃ a, R.m n = some a ∧ v = .ref a
  | _, .itr _ _ => False
  | v, .range a b s => ∃ r ta tb ts, v = .ref r ∧ R.r r (.type "range") (.fields #[.int a ta, .int b tb, .int s ts])
  | v, .set fz ld xs => ∃ a es ep t, v = .ref a ∧ R.r a (.type (setName fz)) (.set es ep t) ∧ SetG ld es t xs
  | v, .bag xs => ∃ (ns : List Int) (a : Addr) (vs : List Value) (n : Nat), ns.Perm xs ∧ ns.length ≤ 1048576 ∧ v = .ref a ∧ R.r a (.type "list") (.seq (List.toArray vs) n) ∧ IntsAre vs ns
  | v, .tup xs => xs.length ≤ 1048576 ∧ ∃ a vs n, v = .ref a ∧ R.r a (.type "tuple") (.seq (List.toArray vs) n) ∧ RepL R vs xs
  | v, .lst xs => xs.length ≤ 1048576 ∧ ∃ a vs n, v = .ref a ∧ R.r a (.type "list") (.seq (List.toArray vs) n) ∧ RepL R vs xs
noncomputable def RepL (R : Vw) : List Value → List AV → Prop
  | [], [] => True
  | v :: vs, x :: xs => Rep R v x ∧ RepL R vs xs
  | [], _ :: _ => False
  | _ :: _, [] => False
end

mutual
theorem Rep.mono {R R' : Vw} (h : R.Le R') : ∀ {x : AV} {v : Value}, Rep R v x → Rep R' v x
  | .none, _, r => by simpa [Rep] using r
  | .bool _, _, r => by simpa [Rep] using r
  | .int _, _, r => by simpa [Rep] using r
  | .float _, _, r => by simpa [Rep] using r
  | .str _, _, r => by simpa [Rep] using r
  | .bytes _, _, r => by simpa [Rep] using r
  | .type _, _, r => by simpa [Rep] using r
  | .fn _, _, r => by simpa [Rep] using r
  | .any, _, _ => by simp [Rep]
  | .dict _, _, r => by
    simp only [Rep] at r ⊢
    obtain ⟨a, es, ep, e, k, q⟩ := r
    exact ⟨a, es, ep, e, h.r _ _ _ k, q⟩
  | .sm _ _, _, r => by
    simp only [Rep] at r ⊢
    obtain ⟨a, es, ep, t, e, k, q⟩ := r
    exact ⟨a, es, ep, t, e, h.r _ _ _ k, q⟩
  | .itr _ _, _, r => by simp [Rep] at r
  | .ptr _, _, r => by
    simp only [Rep] at r ⊢
    obtain ⟨a, e, q⟩ := r
    exact ⟨a, h.m _ _ e, q⟩
  | .range _ _ _, _, r => by
    simp only [Rep] at r ⊢
    obtain ⟨r, ta, tb, ts, e, k⟩ := r
    exact ⟨r, ta, tb, ts, e, h.r _ _ _ k⟩
  | .set _ _ _, _, r => by
    simp only [Rep] at r ⊢
    obtain ⟨a, es, ep, t, e, k, q⟩ := r
    exact ⟨a, es, ep, t, e, h.r _ _ _ k, q⟩
  | .bag _, _, r => by
    simp only [Rep] at r ⊢
    obtain ⟨ns, a, vs, n, p, z, e, k, q⟩ := r
    exact ⟨ns, a, vs, n, p, z, e, h.r _ _ _ k, q⟩
  | .tup xs, _, r => by
    simp only [Rep] at r ⊢
    obtain ⟨z, a, vs, n, e, k, l⟩ := r
    exact ⟨z, a, vs, n, e, h.r _ _ _ k, RepL.mono h l⟩
  | .lst xs, _, r => by
    simp only [Rep] at r ⊢
    obtain ⟨z, a, vs, n, e, k, l⟩ := r
    exact ⟨z, a, vs, n, e, h.r _ _ _ k, RepL.mono h l⟩
theorem RepL.mono {R R' : Vw} (h : R.Le R') : ∀ {xs : List AV} {vs : List Value}, RepL R vs xs → RepL R' vs xs
  | [], [], _ => by simp [RepL]
  | [], _ :: _, r => by simp [RepL] at r
  | _ :: _, [], r => by simp [RepL] at r
  | x :: xs, v :: vs, r => by
    simp only [RepL] at r ⊢
    exact ⟨Rep.mono h r.1, RepL.mono h r.2⟩
end

theorem RepL.length {R : Vw} : ∀ {xs : List AV} {vs : List Value}, RepL R vs xs → vs.length = xs.length
  | [], [], _ => rfl
  | [], _ :: _, r => by simp [RepL] at r
  | _ :: _, [], r => by simp [RepL] at r
  | x :: xs, v :: vs, r => by
    simp only [RepL] at r
    simp [RepL.length r.2]
theorem RepL.get {R : Vw} : ∀ {xs : List AV} {vs : List Value} {i : Nat} {x : AV}, RepL R vs xs → xs[i]? = some x → ∃ v, vs[i]? = some v ∧ Rep R v x
  | [], _, _, _, _, h => by simp at h
  | _ :: _, [], _, _, r, _ => by simp [RepL] at r
  | x :: xs, v :: vs, i, y, r, h => by
    simp only [RepL] at r
    cases i with
    | zero => simp at h; subst h; exact ⟨v, by simp, r.1⟩
    | succ i => simp at h ⊢; exact RepL.get r.2 h
theorem RepL.append {R : Vw} : ∀ {xs ys : List AV} {vs ws : List Value}, RepL R vs xs → RepL R ws ys → RepL R (vs ++ ws) (xs ++ ys)
  | [], _, [], _, _, r => by simpa using r
  | [], _, _ :: _, _, r, _ => by simp [RepL] at r
  | _ :: _, _, [], _, r, _ => by simp [RepL] at r
  | x :: xs, ys, v :: vs, ws, r, q => by
    simp only [RepL, List.cons_append] at r ⊢
    exact ⟨r.1, RepL.append r.2 q⟩
theorem RepL.drop {R : Vw} : ∀ {xs : List AV} {vs : List Value} (n : Nat), RepL R vs xs → RepL R (vs.drop n) (xs.drop n)
  | _, _, 0, r => by simpa using r
  | [], [], _ + 1, _ => by simp [RepL]
  | [], _ :: _, _, r => by simp [RepL] at r
  | _ :: _, [], _, r => by simp [RepL] at r
  | x :: xs, v :: vs, n + 1, r => by
    simp only [RepL] at r
    simpa using RepL.drop n r.2
/-- what is hidden, and the things that can turn, by number -/
structure Hd where
  p : Addr → Prop
  m : Nat → Option Addr
  o : Nat → Option Addr
noncomputable def Hd.add (H : Hd) (q : Addr → Prop) : Hd := ⟨fun b => H.p b ∨ q b, H.m, H.o⟩

noncomputable def okC (c : Value) : Prop := c = .type "list" ∨ c = .type "tuple" ∨ c = .type "range" ∨ c = .type "set" ∨ c = .type "frozenset" ∨ c = .type "dict"
noncomputable def vis (h : Heap) (H : Hd) : Vw := ⟨fun a c d => ¬ H.p a ∧ ∃ o, h.get? a = some o ∧ o.cls = c ∧ o.data = d ∧ o.dict = none ∧ okC c ∧ ((∃ fs, d = .fields fs) → o.slots = #[]), H.m⟩
/-- a list's object -/
noncomputable def IsL (h : Heap) (a : Addr) (vs : List Value) : Prop := ∃ o n, h.get? a = some o ∧ o.cls = .type "list" ∧ o.data = .seq (List.toArray vs) n ∧ o.dict = none
theorem IsL.isList {h : Heap} {a : Addr} {vs : List Value} (x : IsL h a vs) : h.IsList a (List.toArray vs) := let ⟨o, n, e, c, d, _⟩ := x; ⟨o, e, c, n, d⟩
theorem IsL.at {h h' : Heap} {a : Addr} {vs : List Value} (x : IsL h a vs) (k : ∀ o, h.get? a = some o → ∃ sl, h'.get? a = some { o with slots := sl }) : IsL h' a vs := let ⟨o, n, e, c, d, f⟩ := x; let ⟨_, q⟩ := k o e; ⟨_, n, q, c, d, f⟩
theorem IsL.at' {h h' : Heap} {a : Addr} {vs : List Value} (x : IsL h a vs) (k : ∀ o, h.get? a = some o → h'.get? a = some o) : IsL h' a vs := let ⟨o, n, e, c, d, f⟩ := x; ⟨o, n, k o e, c, d, f⟩
noncomputable def IK.cls : IK → String
  | .list => "list_iterator" | .tuple => "tuple_iterator" | .range => "range_iterator"
/-- an iterator's object, with what it goes over -/
noncomputable def IsI (h : Heap) (R : Vw) (a : Addr) (k : IK) (xs : List AV) : Prop := ∃ o, h.get? a = some o ∧ o.cls = .type k.cls ∧ match k with
  | .list => (xs = [] ∧ ∃ t, o.data = .fields #[.none, .int t 0]) ∨ ∃ l vs n i, o.data = .fields #[.ref l, .int (i : Nat) 0] ∧ R.r l (.type "list") (.seq (List.toArray vs) n) ∧ vs.length ≤ 1048576 ∧ RepL R (vs.drop i) xs
  | .tuple => (xs = [] ∧ ∃ t, o.data = .fields #[.none, .int t 0]) ∨ ∃ l vs n i, o.data = .fields #[.ref l, .int (i : Nat) 0] ∧ R.r l (.type "tuple") (.seq (List.toArray vs) n) ∧ vs.length ≤ 1048576 ∧ RepL R (vs.drop i) xs
  | .range => ∃ cur left st, IsRangeIter h a cur left st ∧ 0 ≤ left ∧ left ≤ 1048576 ∧ xs = (List.range left.toNat).map fun (i : Nat) => AV.int (cur + i * st)
noncomputable def RepM (h : Heap) (R : Vw) (a : Addr) : MO → Prop
  | .lst xs => xs.length ≤ 1048576 ∧ ∃ vs, IsL h a vs ∧ RepL R vs xs
  | .itr k xs => IsI h R a k xs
  | .set ld xs => IsS h a false ld xs

/-- kept, frames up to their slots -/
noncomputable def Kh (F : Addr → Prop) (h h' : Heap) : Prop := ∀ b o, h.get? b = some o → ((¬ F b ∨ ∃ fs, o.data = .fields fs) → h'.get? b = some o) ∧ ∃ sl, h'.get? b = some { o with slots := sl }
/-- kept, but for what is written -/
noncomputable def Kv (F W : Addr → Prop) (h h' : Heap) : Prop := ∀ b o, ¬ W b → h.get? b = some o → ((¬ F b ∨ ∃ fs, o.data = .fields fs) → h'.get? b = some o) ∧ ∃ sl, h'.get? b = some { o with slots := sl }

theorem Kh.of_keeps {F : Addr → Prop} {h h' : Heap} (k : ∀ b o, h.get? b = some o → h'.get? b = some o) : Kh F h h' := fun b o e => ⟨fun _ => k b o e, o.slots, k b o e⟩
theorem Kh.refl (F : Addr → Prop) (h : Heap) : Kh F h h := Kh.of_keeps fun _ _ e => e
theorem Kh.trans {F : Addr → Prop} {h₁ h₂ h₃ : Heap} (x : Kh F h₁ h₂) (y : Kh F h₂ h₃) : Kh F h₁ h₃ := fun b o e =>
  ⟨fun n => (y b o ((x b o e).1 n)).1 n, by obtain ⟨sl, e₂⟩ := (x b o e).2; obtain ⟨sl', e₃⟩ := (y b _ e₂).2; exact ⟨sl', e₃⟩⟩
theorem Kh.ns {F : Addr → Prop} {h h' : Heap} (x : Kh F h h') {a : Addr} {m : Str → Option Value} (n : h.Ns a m) : h'.Ns a m := by
  obtain ⟨o, es, ep, e, d, r⟩ := n
  obtain ⟨sl, q⟩ := (x a o e).2
  exact ⟨_, es, ep, q, d, r⟩
theorem Kh.cell {F : Addr → Prop} {h h' : Heap} (x : Kh F h h') {a : Addr} {v : Option Value} (n : h.IsCell a v) : h'.IsCell a v := by
  obtain ⟨o, e, d⟩ := n
  obtain ⟨sl, q⟩ := (x a o e).2
  exact ⟨_, q, d⟩
theorem Kh.isL {F : Addr → Prop} {h h' : Heap} (x : Kh F h h') {a : Addr} {v : List Value} (n : IsL h a v) : IsL h' a v := n.at fun o e => (x a o e).2
theorem Kv.refl (F W : Addr → Prop) (h : Heap) : Kv F W h h := fun _ o _ e => ⟨fun _ => e, o.slots, e⟩
theorem Kv.trans {F W : Addr → Prop} {h₁ h₂ h₃ : Heap} (x : Kv F W h₁ h₂) (y : Kv F W h₂ h₃) : Kv F W h₁ h₃ := fun b o w e =>
  ⟨fun n => (y b o w ((x b o w e).1 n)).1 n, by obtain ⟨sl, e₂⟩ := (x b o w e).2; obtain ⟨sl', e₃⟩ := (y b _ w e₂).2; exact ⟨sl', e₃⟩⟩
theorem Kh.kv {F W : Addr → Prop} {h h' : Heap} (k : Kh F h h') : Kv F W h h' := fun b o _ e => k b o e
theorem Kv.kh {F W : Addr → Prop} {h h' : Heap} (k : Kv F W h h') (n : ∀ b o, h.get? b = some o → ¬ W b) : Kh F h h' := fun b o e => k b o (n b o e) e
theorem Kv.mono {F W W' : Addr → Prop} {h h' : Heap} (k : Kv F W h h') (w : ∀ b, W b → W' b) : Kv F W' h h' := fun b o n e => k b o (fun q => n (w b q)) e
theorem Kv.vis {F W : Addr → Prop} {H : Hd} {h h' : Heap} (x : Kv F W h h') (w : ∀ b, W b → H.p b) : (vis h H).Le (Mine.vis h' H) := ⟨by
  rintro a c d ⟨n, o, e, r1, r2, r3, r4, r5⟩
  by_cases hd : ∃ fs, d = .fields fs
  · exact ⟨n, o, (x a o (fun k => n (w a k)) e).1 (.inr (by rw [r2]; exact hd)), r1, r2, r3, r4, r5⟩
  · obtain ⟨sl, q⟩ := (x a o (fun k => n (w a k)) e).2
    exact ⟨n, _, q, r1, r2, r3, r4, fun z => absurd z hd⟩, fun _ _ e => e⟩
theorem Kv.of_sameBut {F W : Addr → Prop} {h h' : Heap} {a : Addr} (x : Heap.SameBut a h h') (w : W a) : Kv F W h h' := fun b o n e => by
  have : h'.get? b = some o := (x.2 b (fun q => n (q ▸ w))).trans e
  exact ⟨fun _ => this, o.slots, this⟩
theorem Kv.of_but {F W : Addr → Prop} {h h' : Heap} {a : Addr} (x : ∀ b o, b ≠ a → h.get? b = some o → h'.get? b = some o) (w : W a) : Kv F W h h' := fun b o n e => by
  have := x b o (fun q => n (q ▸ w)) e
  exact ⟨fun _ => this, o.slots, this⟩
theorem Kh.vis {F : Addr → Prop} {H : Hd} {h h' : Heap} (x : Kh F h h') : (vis h H).Le (Mine.vis h' H) := (x.kv (W := fun _ => False)).vis fun _ z => z.elim
theorem vis_hide {H H' : Hd} {h : Heap} (k : ∀ b, H.p b → H'.p b) (m : ∀ n a, H'.m n = some a → H.m n = some a) : (vis h H').Le (vis h H) := ⟨fun _ _ _ x => ⟨fun q => x.1 (k _ q), x.2⟩, m⟩

/-- iterators, sets and lists stay -/
theorem IsI.kv {F W : Addr → Prop} {h h' : Heap} {R R' : Vw} {a : Addr} {k : IK} {xs : List AV} (x : IsI h R a k xs) (kv : Kv F W h h') (hw : ¬ W a) (le : R.Le R') : IsI h' R' a k xs := by
  obtain ⟨o, e, c, r⟩ := x
  have fl : (∃ fs, o.data = .fields fs) → h'.get? a = some o := fun z => (kv a o hw e).1 (.inr z)
  cases k with
  | list =>
    rcases r with ⟨rfl, t, d⟩ | ⟨l, vs, n, i, d, v, z, q⟩
    · exact ⟨o, fl ⟨_, d⟩, c, .inl ⟨rfl, t, d⟩⟩
    · exact ⟨o, fl ⟨_, d⟩, c, .inr ⟨l, vs, n, i, d, le.r _ _ _ v, z, RepL.mono le q⟩⟩
  | tuple =>
    rcases r with ⟨rfl, t, d⟩ | ⟨l, vs, n, i, d, v, z, q⟩
    · exact ⟨o, fl ⟨_, d⟩, c, .inl ⟨rfl, t, d⟩⟩
    · exact ⟨o, fl ⟨_, d⟩, c, .inr ⟨l, vs, n, i, d, le.r _ _ _ v, z, RepL.mono le q⟩⟩
  | range =>
    obtain ⟨cur, left, st, it, z1, z2, q⟩ := r
    have e2 : h.get? a = _ := it
    rw [e] at e2
    cases e2
    exact ⟨_, fl ⟨_, rfl⟩, c, cur, left, st, fl ⟨_, rfl⟩, z1, z2, q⟩
theorem IsS.kv {F W : Addr → Prop} {h h' : Heap} {a : Addr} {fz ld : Bool} {xs : List Int} (x : IsS h a fz ld xs) (kv : Kv F W h h') (hw : ¬ W a) : IsS h' a fz ld xs := by
  obtain ⟨o, es, ep, t, e, c, dn, d, r⟩ := x
  obtain ⟨sl, q⟩ := (kv a o hw e).2
  exact ⟨_, es, ep, t, q, c, dn, d, r⟩
theorem RepM.kv {F W : Addr → Prop} {h h' : Heap} {R R' : Vw} {a : Addr} (kv : Kv F W h h') (hw : ¬ W a) (le : R.Le R') : ∀ {mo : MO}, RepM h R a mo → RepM h' R' a mo
  | .lst _, ⟨z, vs, l, r⟩ => ⟨z, vs, l.at fun o e => (kv a o hw e).2, RepL.mono le r⟩
  | .itr _ _, r => IsI.kv r kv hw le
  | .set _ _, r => IsS.kv r kv hw
/-- what can turn is no frame's part -/
theorem RepM.data {h : Heap} {R : Vw} {a : Addr} : ∀ {mo : MO}, RepM h R a mo → ∃ o, h.get? a = some o ∧ (∀ es ep, o.data ≠ .dict es ep) ∧ (∀ v, o.data ≠ .cell v) ∧ (∀ f, o.data ≠ .func f)
  | .lst _, ⟨_, _, ⟨o, n, e, _, d, _⟩, _⟩ => ⟨o, e, fun _ _ z => by (rw [d] at z; cases z), fun _ z => by (rw [d] at z; cases z), fun _ z => by (rw [d] at z; cases z)⟩
  | .set _ _, ⟨o, es, ep, t, e, _, _, d, _⟩ => ⟨o, e, fun _ _ z => by (rw [d] at z; cases z), fun _ z => by (rw [d] at z; cases z), fun _ z => by (rw [d] at z; cases z)⟩
  | .itr k _, r => by
    obtain ⟨o, e, _, r⟩ := r
    have : ∃ fs, o.data = .fields fs := by
      cases k with
      | list => rcases r with ⟨_, t, d⟩ | ⟨l, vs, n, i, d, _⟩ <;> exact ⟨_, d⟩
      | tuple => rcases r with ⟨_, t, d⟩ | ⟨l, vs, n, i, d, _⟩ <;> exact ⟨_, d⟩
      | range =>
        obtain ⟨cur, left, st, it, _⟩ := r
        have e2 : h.get? a = _ := it
        rw [e] at e2; cases e2
        exact ⟨_, rfl⟩
    obtain ⟨fs, d⟩ := this
    exact ⟨o, e, fun _ _ z => by (rw [d] at z; cases z), fun _ z => by (rw [d] at z; cases z), fun _ z => by (rw [d] at z; cases z)⟩

/-- what the law's run stands upon -/
structure Cx where
  prog : Program
  w : World
  h0 : Heap
  mg : Str → Option Value
  mb : Str → Option Value
  g : h0.Ns mainGlobals mg
  b : h0.Ns builtinsNs mb
  builtins : ∀ x : Str, x ≠ "__name__" → mb x = bootBuiltins x
  nolimit : h0.NoLimit

abbrev Cx.M (c : Cx) : Model := model c.prog c.w

/-- the frames' own addresses -/
noncomputable def FrA (A : Around) (b : Addr) : Prop := ∃ l, A.frames = some l ∧ b ∈ l.filterMap (·.frame)

/-- one state after another, nothing turned -/
noncomputable def Kp (A : Around) (s s' : Shared) : Prop := ∃ h' tk, s' = { s with heap := h', toks := tk } ∧ Kh (FrA A) s.heap h'
theorem Kp.refl (A : Around) (s : Shared) : Kp A s s := ⟨s.heap, s.toks, rfl, Kh.refl _ _⟩
theorem Kp.trans {A : Around} {s₁ s₂ s₃ : Shared} (x : Kp A s₁ s₂) (y : Kp A s₂ s₃) : Kp A s₁ s₃ := by
  obtain ⟨h, t, rfl, k⟩ := x
  obtain ⟨h', t', rfl, k'⟩ := y
  exact ⟨h', t', rfl, k.trans k'⟩
theorem Kp.kh {A : Around} {s s' : Shared} (x : Kp A s s') : Kh (FrA A) s.heap s'.heap := by
  obtain ⟨h, t, rfl, k⟩ := x
  exact k
theorem Kp.of {A : Around} {s : Shared} {h' : Heap} {tk : Nat} (k : ∀ b o, s.heap.get? b = some o → h'.get? b = some o) : Kp A s { s with heap := h', toks := tk } := ⟨h', tk, rfl, Kh.of_keeps k⟩
theorem Kp.toks {A : Around} {s : Shared} {tk : Nat} : Kp A s { s with toks := tk } := ⟨s.heap, tk, rfl, Kh.refl _ _⟩
/-- how a frame began: its heap, what was hidden, what of it may be written -/
structure FE where
  h : Heap
  H : Hd
  w : Addr → Prop

/-- a slot: a value, or a list that the frame alone holds -/
inductive Ent where
  | val (v : AV)
  | own (xs : List AV)
deriving Inhabited
noncomputable def RepE (h : Heap) (H : Hd) (i : Nat) (v : Value) : Ent → Prop
  | .val av => Rep (vis h H) v av
  | .own xs => xs.length ≤ 1048576 ∧ ∃ a vs, v = .ref a ∧ H.o i = some a ∧ IsL h a vs ∧ RepL (vis h H) vs xs
theorem RepE.mono {h h' : Heap} {H H' : Hd} {i : Nat} {v : Value} (le : (vis h H).Le (vis h' H')) (ho : ∀ a, H.o i = some a → H'.o i = some a) (hl : ∀ a vs, H.o i = some a → IsL h a vs → IsL h' a vs) : ∀ {t : Ent}, RepE h H i v t → RepE h' H' i v t
  | .val _, r => Rep.mono le r
  | .own _, ⟨z, a, vs, e, o, l, r⟩ => ⟨z, a, vs, e, ho a o, hl a vs o l, RepL.mono le r⟩

/-- a frame's state: slots, what can turn, from where on it may be written, how many there were -/
structure Fs where
  ρ : List (Option Ent)
  σ : List (Option MO)
  lo : Nat
  n0 : Nat

noncomputable def NV (h : Heap) (env : Env) (x : Str) (v : Value) : Prop :=
  (env.kindOf x = some .local ∧ ∃ m, h.Ns env.locals m ∧ m x = some v) ∨ (env.kindOf x = some .cell ∧ ∃ cc, env.cells.lookup x = some cc ∧ h.IsCell cc (some v))

theorem Ns_uniq {h : Heap} {a : Addr} {m m' : Str → Option Value} (x : h.Ns a m) (y : h.Ns a m') : m = m' := by
  obtain ⟨o, es, ep, e, d, _, r⟩ := x
  obtain ⟨o', es', ep', e', d', _, r'⟩ := y
  rw [e] at e'; cases e'
  rw [d] at d'; cases d'
  funext n
  rw [← r n, ← r' n]
theorem NV.kh {F : Addr → Prop} {h h' : Heap} {env : Env} {x : Str} {v : Value} (k : Kh F h h') (a : NV h env x v) : NV h' env x v := by
  rcases a with ⟨kk, m, n, e⟩ | ⟨kk, cc, n, e⟩
  · exact .inl ⟨kk, m, k.ns n, e⟩
  · exact .inr ⟨kk, cc, n, k.cell e⟩

/-- the things that can turn stand in the heap -/
structure Sto (σ : List (Option MO)) (H : Hd) (h : Heap) : Prop where
  at' : ∀ n mo, σ[n]? = some (some mo) → ∃ a, H.m n = some a ∧ RepM h (vis h H) a mo
  inj : ∀ n n' a, H.m n = some a → H.m n' = some a → n = n'
  lt : ∀ n a, H.m n = some a → n < σ.length
  hid : ∀ n a mo, σ[n]? = some (some mo) → H.m n = some a → H.p a
  al : ∀ n a, H.m n = some a → ∃ o, h.get? a = some o
  tot : ∀ n a, H.m n = some a → ∃ mo, σ[n]? = some (some mo)
theorem Sto.kh {F : Addr → Prop} {σ : List (Option MO)} {H : Hd} {h h' : Heap} (S : Sto σ H h) (k : Kh F h h') : Sto σ H h' :=
  ⟨fun n mo e => let ⟨a, q, r⟩ := S.at' n mo e; ⟨a, q, r.kv (k.kv (W := fun _ => False)) id k.vis⟩, S.inj, S.lt, S.hid, fun n a e => let ⟨_, q⟩ := S.al n a e; let ⟨_, q'⟩ := (k a _ q).2; ⟨_, q'⟩, S.tot⟩

/-- a frame -/
structure Fm (c : Cx) (F : Addr → Prop) (names : List Str) (env : Env) (st : Fs) (fe : FE) (H : Hd) (h : Heap) : Prop where
  keep : Kv F fe.w fe.h h
  wsub : ∀ b, fe.w b → fe.H.p b
  base : c.h0.StaysIn fe.h
  baseF : ∀ b, F b → c.h0.get? b = none
  basew : ∀ b, fe.w b → c.h0.get? b = none
  hle : ∀ b, fe.H.p b → H.p b
  mle : ∀ n a, fe.H.m n = some a → H.m n = some a
  mold : ∀ n a, n < st.n0 → H.m n = some a → fe.H.m n = some a
  mnew : ∀ n a, st.n0 ≤ n → H.m n = some a → fe.h.get? a = none
  mw : ∀ n a mo, n < st.n0 → st.lo ≤ n → st.σ[n]? = some (some mo) → H.m n = some a → fe.w a
  hlt : ∀ b, H.p b → ∃ o, h.get? b = some o
  felt : ∀ b, fe.H.p b → ∃ o, fe.h.get? b = some o
  wlt : ∀ b, fe.w b → ∃ o, fe.h.get? b = some o
  kind : env.scope.kind = .function
  glob : env.globals = mainGlobals
  bi : env.builtins = builtinsNs
  code : ∃ cd o vs, env.code = .ref cd ∧ c.h0.get? cd = some o ∧ o.data = .fields vs
  ns : ∃ m, h.Ns env.locals m
  hl : H.p env.locals
  lnew : fe.h.get? env.locals = none
  hc : ∀ x cc, env.kindOf x = some .cell → env.cells.lookup x = some cc → H.p cc ∧ fe.h.get? cc = none
  cl : ∀ x, env.kindOf x = some .cell → ∃ cc v, env.cells.lookup x = some cc ∧ h.IsCell cc v
  capart : ∀ x y cc, env.cells.lookup x = some cc → env.cells.lookup y = some cc → x = y
  vals : ∀ (i : Nat) x t, names[i]? = some x → st.ρ[i]? = some (some t) → ∃ v, NV h env x v ∧ RepE h H i v t
  own : ∀ i a, H.o i = some a → H.p a ∧ fe.h.get? a = none ∧ (∀ n, H.m n ≠ some a) ∧ ∃ vs, IsL h a vs
  oinj : ∀ i j a, H.o i = some a → H.o j = some a → i = j
  sto : Sto st.σ H h
  mh0 : ∀ n a, H.m n = some a → c.h0.get? a = none
  n0le : st.n0 ≤ st.σ.length

theorem Kv.nw {F W : Addr → Prop} {h h' : Heap} (k : Kv F W h h') (n : ∀ b, W b → ∃ o, h'.get? b = some o) {b : Addr} {o : Obj} (e : h.get? b = some o) : ∃ o', h'.get? b = some o' := by
  by_cases w : W b
  · exact n b w
  · obtain ⟨sl, q⟩ := (k b o w e).2; exact ⟨_, q⟩
theorem none_back {F : Addr → Prop} {h h' : Heap} (k : Kh F h h') {b : Addr} (e : h'.get? b = none) : h.get? b = none := by
  cases q : h.get? b with
  | none => rfl
  | some o => obtain ⟨sl, r⟩ := (k b o q).2; rw [e] at r; cases r

theorem Fm.step {c : Cx} {F : Addr → Prop} {names : List Str} {env : Env} {st : Fs} {fe : FE} {H : Hd} {h h' : Heap} (X : Fm c F names env st fe H h) (k : Kh F h h') : Fm c F names env st fe H h' where
  keep := X.keep.trans k.kv
  wsub := X.wsub
  base := X.base
  baseF := X.baseF
  basew := X.basew
  hle := X.hle
  mle := X.mle
  mold := X.mold
  mnew := X.mnew
  mw := X.mw
  hlt := fun b q => let ⟨o, e⟩ := X.hlt b q; let ⟨sl, e'⟩ := (k b o e).2; ⟨_, e'⟩
  felt := X.felt
  wlt := X.wlt
  kind := X.kind
  glob := X.glob
  bi := X.bi
  code := X.code
  ns := let ⟨m, n⟩ := X.ns; ⟨m, k.ns n⟩
  hl := X.hl
  lnew := X.lnew
  hc := X.hc
  cl := fun x q => let ⟨cc, v, e, n⟩ := X.cl x q; ⟨cc, v, e, k.cell n⟩
  capart := X.capart
  vals := fun i x t a b => let ⟨v, n, r⟩ := X.vals i x t a b; ⟨v, n.kh k, r.mono k.vis (fun _ e => e) fun a vs _ l => k.isL l⟩
  own := fun i a e => let ⟨p, q, r, vs, l⟩ := X.own i a e; ⟨p, q, r, vs, k.isL l⟩
  oinj := X.oinj
  sto := X.sto.kh k
  mh0 := X.mh0
  n0le := X.n0le
end Mine
end
section
open PySem PySem.W PyProof.Rows
namespace Mine

/-- the exceptions that are served -/
inductive EX where
  | zde | ofe | te | ve | ae
  | tm (m : Str)
deriving DecidableEq, Inhabited
noncomputable def EX.name : EX → String
  | zde => "ZeroDivisionError" | ofe => "OverflowError" | te => "TypeError" | ve => "ValueError" | ae => "AttributeError" | tm _ => "TypeError"
/-- what is told of the words that an exception bears -/
noncomputable def EX.arg (h h' : Heap) (a0 : Value) : EX → Prop
  | tm m => ∃ t u, a0 = .ref t ∧ h.get? t = none ∧ h'.TupAt t [.str m u]
  | _ => True

inductive Res where
  | ok (v : AV)
  | exc (cls : EX)
  | stuck
deriving Inhabited

structure Rm (c : Cx) (q : Bool) (k : Nat) (A : Around) (h : Heap) : Prop where
  depth : A.depth + k < recursionLimit
  units : A.units + 8 * k < cLine
  hand : q = true → A.handled = none
  frames : ∃ l, A.frames = some l ∧ h.FunFrames c.h0 l

/-- frames' tables stay tables -/
noncomputable def Nf (h h' : Heap) : Prop := ∀ b o, h.get? b = some o → (∀ vs, o.data ≠ .fields vs) → ∃ o', h'.get? b = some o' ∧ ∀ vs, o'.data ≠ .fields vs
theorem Kh.nf {F : Addr → Prop} {h h' : Heap} (k : Kh F h h') : Nf h h' := fun b o e n => by
  obtain ⟨sl, q⟩ := (k b o e).2
  exact ⟨_, q, n⟩
theorem Nf.trans {h₁ h₂ h₃ : Heap} (x : Nf h₁ h₂) (y : Nf h₂ h₃) : Nf h₁ h₃ := fun b o e n => let ⟨o', e', n'⟩ := x b o e n; y b o' e' n'
theorem Nf.frames {h h' base : Heap} (k : Nf h h') : ∀ {l : List Env}, h.FunFrames base l → h'.FunFrames base l
  | [], _ => trivial
  | _ :: _, ⟨hk, ⟨L, o, hf, hn, ho, hd⟩, hr⟩ => by
    obtain ⟨o', e', n'⟩ := k L o ho hd
    exact ⟨hk, ⟨L, o', hf, hn, e', n'⟩, Nf.frames k hr⟩
theorem Rm.nf {c : Cx} {q : Bool} {k : Nat} {A : Around} {h h' : Heap} (X : Rm c q k A h) (n : Nf h h') : Rm c q k A h' :=
  ⟨X.depth, X.units, X.hand, let ⟨l, a, b⟩ := X.frames; ⟨l, a, n.frames b⟩⟩
theorem Rm.kp {c : Cx} {q : Bool} {k : Nat} {A : Around} {s s' : Shared} (X : Rm c q k A s.heap) (n : Kp A s s') : Rm c q k A s'.heap := X.nf n.kh.nf
theorem Fm.kp {c : Cx} {A : Around} {names : List Str} {env : Env} {st : Fs} {fe : FE} {H : Hd} {s s' : Shared} (X : Fm c (FrA A) names env st fe H s.heap) (k : Kp A s s') : Fm c (FrA A) names env st fe H s'.heap := X.step k.kh

noncomputable def EX.plain : EX → Bool
  | .tm _ => false
  | _ => true
theorem EX.arg.of_plain {h h' : Heap} {a0 : Value} : ∀ {x : EX}, x.plain = true → x.arg h h' a0
  | .tm _, z => by cases z
  | .zde, _ | .ofe, _ | .te, _ | .ve, _ | .ae, _ => trivial
theorem EX.arg.base {h h₁ h' : Heap} {a0 : Value} (k : ∀ b, h₁.get? b = none → h.get? b = none) : ∀ {x : EX}, x.arg h₁ h' a0 → x.arg h h' a0
  | .tm _, ⟨t, u, e, n, r⟩ => ⟨t, u, e, k _ n, r⟩
  | .zde, _ | .ofe, _ | .te, _ | .ve, _ | .ae, _ => trivial
/-- an exception that has come up from s to s' -/
noncomputable def Xp (A : Around) (s s' : Shared) (x : Value) (cls : EX) : Prop :=
  ∃ e a0, x = .ref e ∧ Kp A s s' ∧ s.heap.get? e = none ∧ cls.arg s.heap s'.heap a0 ∧
    ((∃ ob vs, s'.heap.get? e = some ob ∧ ob.cls = .type cls.name ∧ ob.data = .fields vs ∧ vs[0]? = some a0 ∧ vs[1]? = some .none) ∨ s'.heap.TracedW s.heap e (.type cls.name) a0)

noncomputable def Post (q : Bool) (A : Around) (H : Hd) (r : Res) (s : Shared) (Q : Value → Shared → Prop) (E : Value → Shared → Prop) : Prop :=
  match r with
  | .ok av => ∀ v s', Kp A s s' → Rep (vis s'.heap H) v av → Q v s'
  | .exc cls => q = true ∧ ∀ x s', Xp A s s' x cls → E x s'
  | .stuck => False

/-- hidden things live -/
noncomputable def Live (H : Hd) (h : Heap) : Prop := ∀ b, H.p b → ∃ o, h.get? b = some o
theorem Live.kp {A : Around} {H : Hd} {s s' : Shared} (L : Live H s.heap) (k : Kp A s s') : Live H s'.heap := fun b q => by
  obtain ⟨o, e⟩ := L b q
  obtain ⟨sl, r⟩ := (k.kh b o e).2
  exact ⟨_, r⟩
theorem Live.fresh {H : Hd} {h : Heap} (L : Live H h) : ¬ H.p h.objs.size := fun q => by
  obtain ⟨o, e⟩ := L _ q
  exact absurd (Heap.lt_size e) (Nat.lt_irrefl _)
theorem RepL.kp {A : Around} {H : Hd} {s s' : Shared} {v : List Value} {x : List AV} (r : RepL (vis s.heap H) v x) (k : Kp A s s') : RepL (vis s'.heap H) v x := RepL.mono k.kh.vis r

/-- a tree that comes to r -/
noncomputable def Tr (c : Cx) (q : Bool) (A : Around) (H : Hd) (t : Sem Value) (r : Res) (s : Shared) : Prop := ∀ Q E, Post q A H r s Q E → wpAny c.M A t Q E s
/-- a test that comes to b -/
noncomputable def TrB (c : Cx) (A : Around) (t : Sem Bool) (b : Bool) (s : Shared) : Prop := ∀ Q E, (∀ s', Kp A s s' → Q b s') → wpAny c.M A t Q E s

/-- the thing itself may be hidden -/
noncomputable def RepO (h : Heap) (H : Hd) (v : Value) : AV → Prop
  | .lst xs => xs.length ≤ 1048576 ∧ ∃ a vs, v = .ref a ∧ IsL h a vs ∧ RepL (vis h H) vs xs
  | .itr k xs => ∃ a, v = .ref a ∧ IsI h (vis h H) a k xs
  | .set fz ld xs => ∃ a, v = .ref a ∧ IsS h a fz ld xs
  | x => Rep (vis h H) v x
theorem RepO.of {h : Heap} {H : Hd} {v : Value} : ∀ {x : AV}, Rep (vis h H) v x → RepO h H v x
  | .lst xs, r => by
    simp only [Rep] at r
    obtain ⟨z, a, vs, n, e, ⟨_, o, q, k, d, f, _⟩, l⟩ := r
    exact ⟨z, a, vs, e, ⟨o, n, q, k, d, f⟩, l⟩
  | .set fz ld xs, r => by
    simp only [Rep] at r
    obtain ⟨a, es, ep, t, e, ⟨_, o, q, k, d, f, _⟩, l⟩ := r
    exact ⟨a, e, o, es, ep, t, q, k, f, d, l⟩
  | .itr _ _, r => by simp [Rep] at r
  | .none, r | .bool _, r | .int _, r | .float _, r | .str _, r | .bytes _, r | .type _, r | .range _ _ _, r | .tup _, r | .ptr _, r | .fn _, r | .dict _, r | .sm _ _, r | .bag _, r | .any, r => r
/-- what stands behind a number -/
noncomputable def deref (σ : List (Option MO)) : AV → AV
  | .ptr n => match σ[n]? with
    | some (some (.lst xs)) => .lst xs
    | some (some (.itr k xs)) => .itr k xs
    | some (some (.set ld xs)) => .set false ld xs
    | _ => .ptr n
  | x => x
theorem RepO.deref {h : Heap} {H : Hd} {σ : List (Option MO)} {v : Value} {x : AV} (S : Sto σ H h) (r : Rep (vis h H) v x) : RepO h H v (deref σ x) := by
  cases x with
  | ptr n =>
    simp only [Rep] at r
    obtain ⟨a, e, rfl⟩ := id r
    have ed : Mine.deref σ (.ptr n) = match σ[n]? with
      | some (some (.lst xs)) => .lst xs
      | some (some (.itr k xs)) => .itr k xs
      | some (some (.set ld xs)) => .set false ld xs
      | _ => .ptr n := rfl
    rw [ed]
    split
    · rename_i xs hs
      obtain ⟨b, q, z, vs, l, rr⟩ := S.at' _ _ hs
      have q' : H.m n = some a := e
      rw [q] at q'; cases q'
      exact ⟨z, _, vs, rfl, l, rr⟩
    · rename_i k xs hs
      obtain ⟨b, q, l⟩ := S.at' _ _ hs
      have q' : H.m n = some a := e
      rw [q] at q'; cases q'
      exact ⟨_, rfl, l⟩
    · rename_i ld xs hs
      obtain ⟨b, q, l⟩ := S.at' _ _ hs
      have q' : H.m n = some a := e
      rw [q] at q'; cases q'
      exact ⟨_, rfl, l⟩
    · exact RepO.of (x := .ptr n) (by simp only [Rep]; exact r)
  | _ => exact RepO.of r
noncomputable def Res.deref (σ : List (Option MO)) : Res → Res
  | .ok v => .ok (Mine.deref σ v)
  | r => r

theorem Tr.stuck {c : Cx} {q : Bool} {A : Around} {H : Hd} {t : Sem Value} {s : Shared} : Tr c q A H t .stuck s := fun _ _ P => P.elim
theorem NV.load {M : Model} {A : Around} {E : Value → Shared → Prop} {s : Shared} {env : Env} {x : Str} {v : Value} {Q : Value → Shared → Prop} (hk : env.scope.kind = .function) (n : NV s.heap env x v) (h : Q v s) : wpAny M A (loadName env x) Q E s := by
  rcases n with ⟨k, m, n, e⟩ | ⟨k, cc, n, e⟩
  · exact wpAny_loadName_local hk k n e h
  · exact wpAny_loadName_cell hk k n e h

section
variable {c : Cx} {q : Bool} {k : Nat} {A : Around} {s : Shared} {H : Hd}

theorem tr_const_int {env : Env} {i : Int} {kk pos} : Tr c q A H (eval (.Constant (.int i) kk pos) env) (.ok (.int i)) s := fun _ _ P => wpAny_Constant_int (P _ _ Kp.toks ⟨_, rfl⟩)
theorem tr_const_bool {env : Env} {b : Bool} {kk pos} : Tr c q A H (eval (.Constant (.bool b) kk pos) env) (.ok (.bool b)) s := fun _ _ P => wpAny_Constant_bool (P _ _ (Kp.refl _ _) rfl)
theorem tr_const_none {env : Env} {kk pos} : Tr c q A H (eval (.Constant .none kk pos) env) (.ok .none) s := fun _ _ P => wpAny_Constant_none (P _ _ (Kp.refl _ _) rfl)
theorem tr_const_str {env : Env} {x : Str} {kk pos} : Tr c q A H (eval (.Constant (.str x) kk pos) env) (.ok (.str x)) s := fun _ _ P => wpAny_Constant_str (P _ _ Kp.toks ⟨_, rfl⟩)

end
theorem rep_fresh_list {H : Hd} {s : Shared} {vs : List Value} {xs : List AV} (hL : Live H s.heap) (hz : xs.length ≤ 1048576) (r : RepL (vis s.heap H) vs xs) :
    Rep (vis (s.heap.push { cls := .type "list", data := .seq vs.toArray }) H) (.ref s.heap.objs.size) (.lst xs) := by
  simp only [Rep]
  exact ⟨hz, _, vs, _, rfl, ⟨hL.fresh, _, Heap.get?_push_size _ rfl, rfl, rfl, rfl, .inl rfl, fun _ => rfl⟩, RepL.mono (Kh.of_keeps (F := fun _ => False) fun b o e => Heap.get?_push_of_some _ e).vis r⟩
theorem rep_fresh_tup {H : Hd} {s : Shared} {vs : List Value} {xs : List AV} (hL : Live H s.heap) (hz : xs.length ≤ 1048576) (r : RepL (vis s.heap H) vs xs) :
    Rep (vis (s.heap.push { cls := .type "tuple", data := .seq vs.toArray }) H) (.ref s.heap.objs.size) (.tup xs) := by
  simp only [Rep]
  exact ⟨hz, _, vs, _, rfl, ⟨hL.fresh, _, Heap.get?_push_size _ rfl, rfl, rfl, rfl, .inr (.inl rfl), fun _ => rfl⟩, RepL.mono (Kh.of_keeps (F := fun _ => False) fun b o e => Heap.get?_push_of_some _ e).vis r⟩
theorem Kp.push {A : Around} {s : Shared} (o : Obj) : Kp A s { s with heap := s.heap.push o } := ⟨_, _, rfl, Kh.of_keeps fun _ _ e => Heap.get?_push_of_some _ e⟩
theorem line_ok {n : Nat} (h : n ≤ 1048576) : n ≤ sizeLine := by rw [show sizeLine = 16777216 from by decide]; omega
section
variable {c : Cx} {q : Bool} {A : Around} {s : Shared} {H : Hd}
theorem is_of {op : CmpOp} {va vb : Value} {b : Bool} (h : ∀ {E : Value → Shared → Prop} (Q' : Bool → Shared → Prop), Q' b s → wpAny c.M A (isSame va vb) Q' E s) (hop : op = .Is ∨ op = .IsNot) : Tr c q A H (compareOp op va vb) (.ok (.bool (if op = .Is then b else !b))) s := fun Q E P => by
  rcases hop with rfl | rfl
  · exact wpAny_bind (h _ (wpAny_pure (P _ _ (Kp.refl _ _) rfl)))
  · exact wpAny_bind (h _ (wpAny_pure (P _ _ (Kp.refl _ _) rfl)))
end
/-- cheap looks at a name -/
theorem not_lifetime {id : String} (h : ("lifetime.".toList.isPrefixOf id.toList) = false) : id.startsWith "lifetime." = false := by
  rw [String.startsWith_string_eq_false_iff]
  intro hp
  rw [← List.isPrefixOf_iff_prefix] at hp
  rw [hp] at h; cases h
theorem plain_of {id : String} (h1 : ("lifetime.".toList.isPrefixOf id.toList) = false) (h2 : heavyIds.contains id = false) (h3 : guardIds.contains id = false) : plainId id = true := by
  unfold plainId; rw [not_lifetime h1, h2, h3]; rfl
end Mine
end
section
open PySem PySem.W PyProof.Rows
namespace Mine
set_option maxRecDepth 100000

section
variable {c : Cx} {q : Bool} {k : Nat} {A : Around} {s : Shared} {H : Hd} {Q : Value → Shared → Prop} {E : Value → Shared → Prop}
theorem post_int {i : Int} (P : Post q A H (.ok (.int i)) s Q E) : (Made.int i).post Q s := P _ _ Kp.toks ⟨_, rfl⟩
theorem post_float {i : UInt64} (P : Post q A H (.ok (.float i)) s Q E) : (Made.float i).post Q s := P _ _ Kp.toks ⟨_, rfl⟩
theorem post_bool {b : Bool} (P : Post q A H (.ok (.bool b)) s Q E) : Q (.bool b) s := P _ _ (Kp.refl _ _) rfl
theorem post_raise {cls : EX} (hm : Rm c q k A s.heap) (P : Post q A H (.exc cls) s Q E) {Q' : Value → Shared → Prop} (hp : cls.plain = true := by rfl) : raisesNew cls.name A (wants Q' E) s := by
  refine ⟨hm.hand P.1, fun h' tk e n => ?_⟩
  obtain ⟨ob, t, h1, h2, h3⟩ := n.there
  exact P.2 _ _ ⟨e, t, rfl, Kp.of n.keeps, n.new, EX.arg.of_plain hp, .inl ⟨ob, _, h1, h2, h3, rfl, rfl⟩⟩
end

noncomputable def mulOk (a b : Int) : Bool := !(decide (Builtin.Int.intBits a > shortFactorBits) && decide (Builtin.Int.intBits b > shortFactorBits) && Builtin.Int.intTooBig (Builtin.Int.intBits a + Builtin.Int.intBits b))
theorem mulOk_iff {a b : Int} : mulOk a b = true ↔ IntMulOk a b := by
  unfold mulOk IntMulOk
  cases (decide (Builtin.Int.intBits a > shortFactorBits) && decide (Builtin.Int.intBits b > shortFactorBits) && Builtin.Int.intTooBig (Builtin.Int.intBits a + Builtin.Int.intBits b)) <;> simp

noncomputable def frac (a b : Int) : UInt64 := Float64.ofFrac (decide (a < 0) != decide (b < 0)) a.natAbs b.natAbs

noncomputable def intBin (op : Operator) (a b : Int) : Res := match op with
  | .Add => .ok (.int (a + b))
  | .Sub => .ok (.int (a - b))
  | .Mult => if mulOk a b = true then .ok (.int (a * b)) else .stuck
  | .FloorDiv => if (b == 0) = true then .exc .zde else if Builtin.divisionGoesByPylong a b = true then .stuck else .ok (.int (a.fdiv b))
  | .Mod => if (b == 0) = true then .exc .zde else .ok (.int (a.fmod b))
  | .Div => if (b == 0) = true then .exc .zde else if Float64.isInf (frac a b) = true then .exc .ofe else .ok (.float (frac a b))
  | .Pow => if b ≥ 0 then (if (b == 0) = true then .ok (.int 1) else if (a == 0 || a == 1) = true then .ok (.int a) else if (a == -1) = true then .ok (.int (if (b % 2 == 0) = true then 1 else -1))
      else if Builtin.Int.intTooBig (((Builtin.Int.intBits a : Nat) : Int) * b) = true then .stuck else .ok (.int (a ^ b.toNat))) else .stuck
  | _ => .stuck
section
variable {c : Cx} {q : Bool} {k : Nat} {A : Around} {s : Shared} {H : Hd}

theorem intBin_ok {op : Operator} {a b : Int} {t u : Tok} (hm : Rm c q k A s.heap) : Tr c q A H (binaryOp op (.int a t) (.int b u)) (intBin op a b) s := by
  intro Q E P
  cases op <;> simp only [intBin] at P <;> try exact P.elim
  · exact AutoIntOps.add_0 (post_int P)
  · exact AutoIntOps.sub_0 (post_int P)
  · split at P
    · rename_i h; exact AutoIntOps.mul_0 (post_int P) (mulOk_iff.mp h)
    · exact P.elim
  · refine AutoIntOpsIf.truediv ?_
    by_cases h : (b == 0) = true
    · rw [if_pos h] at P ⊢; exact post_raise hm P
    · rw [if_neg h] at P ⊢
      by_cases h2 : Float64.isInf (frac a b) = true
      · rw [if_pos h2] at P; rw [if_pos (by exact h2)]; exact post_raise hm P
      · rw [if_neg h2] at P; rw [if_neg (by exact h2)]; exact post_float P
  · refine AutoIntOpsIf.mod ?_
    split at P
    · rename_i h; rw [if_pos h]; exact post_raise hm P
    · rename_i h; rw [if_neg h]; exact post_int P
  · refine AutoIntOpsIf.pow ?_
    split at P
    · rename_i h; rw [if_pos h]
      split at P
      · rename_i h; rw [if_pos h]; exact post_int P
      · rename_i h; rw [if_neg h]
        split at P
        · rename_i h; rw [if_pos h]; exact post_int P
        · rename_i h; rw [if_neg h]
          split at P
          · rename_i h; rw [if_pos h]; exact post_int P
          · rename_i h; rw [if_neg h]
            split at P
            · exact P.elim
            · rename_i h; rw [if_neg h]; exact post_int P
    · exact P.elim
  · refine AutoIntOpsIf.floordiv ?_
    split at P
    · rename_i h; rw [if_pos h]; exact post_raise hm P
    · rename_i h; rw [if_neg h]
      split at P
      · exact P.elim
      · rename_i h; rw [if_neg h]; exact post_int P

end

/- in place: Div alone -/
section
variable {c : Cx} {q : Bool} {k : Nat} {A : Around} {s : Shared} {H : Hd}
end

/- comparing -/
noncomputable def intCmp (op : CmpOp) (a b : Int) : Option Bool := match op with
  | .Eq => some (a == b)
  | .NotEq => some (a != b)
  | .Lt => some (decide (a < b))
  | .LtE => some (decide (a ≤ b))
  | .Gt => some (decide (a > b))
  | .GtE => some (decide (a ≥ b))
  | _ => none
section
variable {c : Cx} {q : Bool} {k : Nat} {A : Around} {s : Shared} {H : Hd}
theorem intCmp_ok {op : CmpOp} {a b : Int} {t u : Tok} {r : Bool} (h : intCmp op a b = some r) : Tr c q A H (compareOp op (.int a t) (.int b u)) (.ok (.bool r)) s := by
  intro Q E P
  cases op <;> simp only [intCmp, Option.some.injEq, reduceCtorEq] at h <;> subst h
  · exact PySem.P.eq_int (post_bool P)
  · exact PySem.P.ne_int (post_bool P)
  · exact PySem.P.lt_int (post_bool P)
  · exact PySem.P.le_int (post_bool P)
  · exact PySem.P.gt_int (post_bool P)
  · exact PySem.P.ge_int (post_bool P)
end
end Mine
end
section
open PySem PySem.W PyProof.Rows
namespace Mine
set_option maxRecDepth 100000

section
variable {M : Model} {A : Around} {E : Value → Shared → Prop} {s : Shared} {a b : Value} {T U nm idl idr : String}
end
section
variable {prog : Program} {w : World} {A : Around} {E : Value → Shared → Prop} {s : Shared}
end
section
variable {c : Cx} {q : Bool} {k : Nat} {A : Around} {s : Shared} {H : Hd}
/- a set and an int -/
/- an int and a bool -/
end
end Mine
end
section
open PySem PySem.W PyProof.Rows
namespace Mine
set_option maxRecDepth 100000

noncomputable def asPart : AV → Option (Option Int)
  | .none => some none
  | .int i => some (some i)
  | _ => none
theorem asPart_ok {R : Vw} {v : Value} {x : AV} {p : Option Int} (h : asPart x = some p) (r : Rep R v x) : IsPart v p := by
  cases x <;> simp only [asPart, reduceCtorEq, Option.some.injEq] at h
  · subst h; simp only [Rep] at r; subst r; exact .none
  · subst h; simp only [Rep] at r; obtain ⟨t, rfl⟩ := r; exact .int _ _

noncomputable def pickL (xs : List AV) (lo hi st : Option Int) : List AV :=
  (sliceRange (sliceBounds lo hi st xs.length).1 (sliceBounds lo hi st xs.length).2.1 (sliceBounds lo hi st xs.length).2.2).filterMap (xs[·]?)

theorem RepL.pick {R : Vw} {vs : List Value} {xs : List AV} (r : RepL R vs xs) : ∀ is : List Nat, RepL R (is.filterMap (vs[·]?)) (is.filterMap (xs[·]?))
  | [] => by simp [RepL]
  | i :: is => by
    cases hx : xs[i]? with
    | none =>
      have hv : vs[i]? = none := by rw [List.getElem?_eq_none_iff] at hx ⊢; rw [r.length]; exact hx
      simp only [List.filterMap_cons, hx, hv]
      exact RepL.pick r is
    | some x =>
      obtain ⟨v, hv, q⟩ := r.get hx
      simp only [List.filterMap_cons, hx, hv, RepL]
      exact ⟨q, RepL.pick r is⟩

theorem IsL.typeIs {s : Shared} {a : Addr} {vs : List Value} (x : IsL s.heap a vs) : s.TypeIs (.ref a) "list" := x.isList.typeIs

noncomputable def ints? : List AV → Option (List Int)
  | [] => some []
  | .int i :: r => (ints? r).map (i :: ·)
  | _ :: _ => none

theorem ints_items {R : Vw} : ∀ {xs : List AV} {vs : List Value} {ns : List Int}, ints? xs = some ns → RepL R vs xs → ∃ ps : List (Int × Tok), vs.toArray = intItems ps.toArray ∧ ps.map (·.1) = ns
  | [], [], ns, h, _ => by simp [ints?] at h; subst h; exact ⟨[], by simp [intItems], rfl⟩
  | [], _ :: _, _, _, r => by simp [RepL] at r
  | _ :: _, [], _, _, r => by simp [RepL] at r
  | x :: xs, v :: vs, ns, h, r => by
    simp only [RepL] at r
    cases x <;> simp only [ints?, reduceCtorEq, Option.map_eq_some_iff] at h
    rename_i i
    obtain ⟨ms, h, rfl⟩ := h
    obtain ⟨ps, e1, e2⟩ := ints_items h r.2
    obtain ⟨r1, _⟩ := r
    simp only [Rep] at r1
    obtain ⟨t, rfl⟩ := r1
    refine ⟨(i, t) :: ps, ?_, by simp [e2]⟩
    have e3 : vs = ps.map fun p => Value.int p.1 p.2 := by have := congrArg Array.toList e1; simpa [intItems] using this
    rw [e3]; simp [intItems]

/-- the greatest of a row -/
noncomputable def maxI : List Int → Option Int
  | [] => none
  | [a] => some a
  | a :: r => (maxI r).map fun m => if m > a then m else a
theorem maxI_of {m : Int} : ∀ {l : List Int}, m ∈ l → (∀ x ∈ l, x ≤ m) → maxI l = some m
  | [], h, _ => by cases h
  | [a], h, _ => by simp at h; subst h; rfl
  | a :: b :: r, h, k => by
    show (maxI (b :: r)).map _ = _
    by_cases hb : m ∈ b :: r
    · rw [maxI_of hb fun x hx => k x (List.mem_cons_of_mem _ hx)]
      have := k a (List.mem_cons_self ..)
      show some (if m > a then m else a) = some m
      split <;> congr 1 <;> omega
    · have ha : m = a := (List.mem_cons.mp h).resolve_right hb
      subst ha
      have : ∃ y, maxI (b :: r) = some y ∧ y ≤ m := by
        have : ∀ l : List Int, l ≠ [] → ∃ y, maxI l = some y ∧ y ∈ l := by
          intro l
          induction l with
          | nil => intro h; exact absurd rfl h
          | cons a l ih =>
            intro _
            cases l with
            | nil => exact ⟨a, rfl, by simp⟩
            | cons b l =>
              obtain ⟨y, e, h⟩ := ih (by simp)
              refine ⟨if y > a then y else a, by show (maxI (b :: l)).map _ = _; rw [e]; rfl, ?_⟩
              split
              · exact List.mem_cons_of_mem _ h
              · exact List.mem_cons_self ..
        obtain ⟨y, e, h⟩ := this (b :: r) (by simp)
        exact ⟨y, e, k y (List.mem_cons_of_mem _ h)⟩
      obtain ⟨y, e, hy⟩ := this
      rw [e]
      show some (if y > m then y else m) = some m
      rw [if_neg (by omega)]
theorem numAt_list (ps : List (Int × Tok)) (i : Nat) (h : i < ps.length) : numAt ps.toArray i = (ps[i]).1 := by simp [numAt, h]

section
variable {c : Cx} {q : Bool} {k : Nat} {A : Around} {s : Shared} {H : Hd}
theorem best_max {ps : List (Int × Tok)} {v : Value} (hne : 0 < ps.length) (h : (intItems ps.toArray)[argBest (fun i j => decide (numAt ps.toArray i > numAt ps.toArray j)) (ps.toArray.size - 1)]? = some v) :
    ∃ m t, v = .int m t ∧ maxI (ps.map (·.1)) = some m := by
  obtain ⟨h1, h2⟩ := argBest_gt (numAt ps.toArray) (ps.toArray.size - 1)
  generalize argBest (fun i j => decide (numAt ps.toArray i > numAt ps.toArray j)) (ps.toArray.size - 1) = b at h h1 h2
  simp only [List.size_toArray] at h1 h2
  have hb : b < ps.length := by omega
  refine ⟨(ps[b]).1, (ps[b]).2, ?_, maxI_of (List.mem_map.mpr ⟨ps[b], List.getElem_mem _, rfl⟩) fun x hx => ?_⟩
  · simp [intItems, hb] at h; exact h.symm
  · obtain ⟨p, hp, rfl⟩ := List.mem_map.mp hx
    obtain ⟨j, hj, rfl⟩ := List.mem_iff_getElem.mp hp
    have := h2 j (by omega)
    rw [numAt_list ps j hj, numAt_list ps b hb] at this
    exact this
/-- two lists behind each other -/
theorem lists_add {l b : Addr} {vs ws : List Value} {xs ys : List AV} (hL : Live H s.heap) (hl : IsL s.heap l vs) (hb : IsL s.heap b ws) (hx : RepL (vis s.heap H) vs xs) (hy : RepL (vis s.heap H) ws ys) (hz : xs.length + ys.length ≤ 1048576) :
    Tr c q A H (binaryOp .Add (.ref l) (.ref b)) (.ok (.lst (xs ++ ys))) s := by
  intro Q E P
  obtain ⟨⟨cls, dd, data, sl⟩, n, ho, hc, hd, _⟩ := id hl
  obtain ⟨⟨cls2, dd2, data2, sl2⟩, n2, ho2, hc2, hd2, _⟩ := id hb
  simp only at hc hd hc2 hd2
  subst hc hd hc2 hd2
  have e : vs.toArray ++ ws.toArray = (vs ++ ws).toArray := by simp
  refine concat_meets ⟨_, ho, rfl⟩ ⟨_, ho2, rfl⟩ noFill_list_add seq_list_add PySem.F.slot_list_add PySem.F.entry_list_add (PySem.F.args_list_add_2 _ _) (list_addW l b vs.toArray ws.toArray n n2 dd dd2 sl sl2 (by simp [hx.length, hy.length]; exact line_ok hz)) ⟨ho, ho2, ?_⟩
  rw [e]
  exact P _ _ (Kp.push _) (rep_fresh_list hL (by simpa using hz) (hx.append hy))

noncomputable def idxL (xs : List AV) (i : Int) : Res :=
  if 0 ≤ i then (match xs[i.toNat]? with | some x => .ok x | none => .stuck) else if -(xs.length : Int) ≤ i then (match xs[(i + xs.length).toNat]? with | some x => .ok x | none => .stuck) else .stuck
theorem idxL_ok {l : Addr} {vs : List Value} {xs : List AV} {i : Int} {t : Tok} (hl : IsL s.heap l vs) (hz : xs.length ≤ 1048576) (r : RepL (vis s.heap H) vs xs) : Tr c q A H (getItem (.ref l) (.int i t)) (idxL xs i) s := by
  intro Q E P
  unfold idxL at P
  by_cases h0 : 0 ≤ i
  · rw [if_pos h0] at P
    cases hx : xs[i.toNat]? with
    | none => rw [hx] at P; exact P.elim
    | some x =>
      rw [hx] at P
      obtain ⟨v, hv, rv⟩ := r.get hx
      have : i.toNat < xs.length := by obtain ⟨h, _⟩ := List.getElem?_eq_some_iff.mp hx; exact h
      exact wpAny_getItem_list hl.isList h0 (by omega) (x := v) (by simpa using hv) (P _ _ (Kp.refl _ _) rv)
  · rw [if_neg h0] at P
    by_cases h1 : -(xs.length : Int) ≤ i
    · rw [if_pos h1] at P
      cases hx : xs[(i + xs.length).toNat]? with
      | none => rw [hx] at P; exact P.elim
      | some x =>
        rw [hx] at P
        obtain ⟨v, hv, rv⟩ := r.get hx
        exact wpAny_getItem_list_neg hl.isList (by omega) (by simpa [r.length] using h1) (by omega) (x := v) (by simpa [r.length] using hv) (P _ _ (Kp.refl _ _) rv)
    · rw [if_neg h1] at P; exact P.elim

noncomputable def sliceL (xs : List AV) (a b z : AV) : Res := match asPart a, asPart b, asPart z with
  | some lo, some hi, some st => if st = some 0 then .stuck else .ok (.lst (pickL xs lo hi st))
  | _, _, _ => .stuck
theorem sliceL_ok {l r : Addr} {vs : List Value} {xs : List AV} {x y z : AV} {ux uy uz : Value} (hL : Live H s.heap) (hl : IsL s.heap l vs) (hz : xs.length ≤ 1048576) (rr : RepL (vis s.heap H) vs xs) (h1 : Rep (vis s.heap H) ux x) (h2 : Rep (vis s.heap H) uy y) (h3 : Rep (vis s.heap H) uz z)
    (hr : s.heap.get? r = some { cls := .type "slice", data := .fields #[ux, uy, uz] }) : Tr c q A H (getItem (.ref l) (.ref r)) (sliceL xs x y z) s := by
  intro Q E P
  unfold sliceL at P
  cases e1 : asPart x with
  | none => rw [e1] at P; exact P.elim
  | some lo =>
    cases e2 : asPart y with
    | none => rw [e1, e2] at P; exact P.elim
    | some hi =>
      cases e3 : asPart z with
      | none => rw [e1, e2, e3] at P; exact P.elim
      | some st =>
        rw [e1, e2, e3] at P
        simp only at P
        by_cases h0 : st = some 0
        · rw [if_pos h0] at P; exact P.elim
        · rw [if_neg h0] at P
          refine wpAny_getItem_list_slice hl.isList ⟨_, hr, rfl, rfl⟩ (asPart_ok e1 h1) (asPart_ok e2 h2) (asPart_ok e3 h3) h0 ?_ (by simp [rr.length]; exact line_ok hz)
          have e : slicePick vs.toArray lo hi st = ((sliceRange (sliceBounds lo hi st xs.length).1 (sliceBounds lo hi st xs.length).2.1 (sliceBounds lo hi st xs.length).2.2).filterMap (vs[·]?)).toArray := by
            unfold slicePick; simp [rr.length]
          have hsz := slicePick_size_le vs.toArray lo hi st
          rw [e]
          rw [e] at hsz
          have rp := rr.pick (sliceRange (sliceBounds lo hi st xs.length).1 (sliceBounds lo hi st xs.length).2.1 (sliceBounds lo hi st xs.length).2.2)
          refine P _ _ (Kp.push _) (rep_fresh_list hL ?_ rp)
          have := rp.length
          simp only [List.size_toArray, rr.length] at hsz
          show (List.filterMap _ _).length ≤ _
          rw [← this]; omega
end
end Mine
end
section
open PySem PySem.W PyProof.Rows
namespace Mine
open SeqAt
set_option maxRecDepth 100000

theorem no_some {α : Type} {P : Prop} {x : α} (h : (Option.none : Option α) = some x) : P := nomatch h
theorem no_true {P : Prop} (h : false = true) : P := nomatch h
noncomputable def AV.lst? : AV → Option (List AV) | .lst x => some x | _ => Option.none
noncomputable def AV.tup? : AV → Option (List AV) | .tup x => some x | _ => Option.none
noncomputable def AV.str? : AV → Option Str | .str x => some x | _ => Option.none
noncomputable def AV.bytes? : AV → Option (Array UInt8) | .bytes x => some x | _ => Option.none
noncomputable def AV.int? : AV → Option Int | .int x => some x | _ => Option.none
noncomputable def AV.type? : AV → Option String | .type x => some x | _ => Option.none
noncomputable def AV.none? : AV → Bool | .none => true | _ => false
theorem lst?_eq {a : AV} {x} : (h : a.lst? = some x) → a = .lst x := match a with | .lst _ => fun h => congrArg AV.lst (Option.some.inj h) | .none | .bool _ | .int _ | .float _ | .str _ | .bytes _ | .type _ | .range _ _ _ | .tup _ | .set _ _ _ | .ptr _ | .itr _ _ | .fn _ | .dict _ | .sm _ _ | .bag _ | .any => no_some
theorem tup?_eq {a : AV} {x} : (h : a.tup? = some x) → a = .tup x := match a with | .tup _ => fun h => congrArg AV.tup (Option.some.inj h) | .none | .bool _ | .int _ | .float _ | .str _ | .bytes _ | .type _ | .range _ _ _ | .lst _ | .set _ _ _ | .ptr _ | .itr _ _ | .fn _ | .dict _ | .sm _ _ | .bag _ | .any => no_some
theorem str?_eq {a : AV} {x} : (h : a.str? = some x) → a = .str x := match a with | .str _ => fun h => congrArg AV.str (Option.some.inj h) | .none | .bool _ | .int _ | .float _ | .bytes _ | .type _ | .range _ _ _ | .tup _ | .lst _ | .set _ _ _ | .ptr _ | .itr _ _ | .fn _ | .dict _ | .sm _ _ | .bag _ | .any => no_some
theorem bytes?_eq {a : AV} {x} : (h : a.bytes? = some x) → a = .bytes x := match a with | .bytes _ => fun h => congrArg AV.bytes (Option.some.inj h) | .none | .bool _ | .int _ | .float _ | .str _ | .type _ | .range _ _ _ | .tup _ | .lst _ | .set _ _ _ | .ptr _ | .itr _ _ | .fn _ | .dict _ | .sm _ _ | .bag _ | .any => no_some
theorem int?_eq {a : AV} {x} : (h : a.int? = some x) → a = .int x := match a with | .int _ => fun h => congrArg AV.int (Option.some.inj h) | .none | .bool _ | .float _ | .str _ | .bytes _ | .type _ | .range _ _ _ | .tup _ | .lst _ | .set _ _ _ | .ptr _ | .itr _ _ | .fn _ | .dict _ | .sm _ _ | .bag _ | .any => no_some
theorem type?_eq {a : AV} {x} : (h : a.type? = some x) → a = .type x := match a with | .type _ => fun h => congrArg AV.type (Option.some.inj h) | .none | .bool _ | .int _ | .float _ | .str _ | .bytes _ | .range _ _ _ | .tup _ | .lst _ | .set _ _ _ | .ptr _ | .itr _ _ | .fn _ | .dict _ | .sm _ _ | .bag _ | .any => no_some
theorem none?_eq {a : AV} : (h : a.none? = true) → a = .none := match a with | .none => fun _ => rfl | .bool _ | .int _ | .float _ | .str _ | .bytes _ | .type _ | .range _ _ _ | .tup _ | .lst _ | .set _ _ _ | .ptr _ | .itr _ _ | .fn _ | .dict _ | .sm _ _ | .bag _ | .any => no_true
noncomputable def two {α β : Type} (f : AV → Option α) (a b : AV) (g : α → α → β) (e : β) : β := match f a with
  | some x => (match f b with
    | some y => g x y
    | none => e)
  | none => e
theorem two_cases {α β : Type} {f : AV → Option α} {a b : AV} {g : α → α → β} {e : β} {P : β → Prop} (h1 : ∀ x y, f a = some x → f b = some y → P (g x y)) (h2 : P e) : P (two f a b g e) := by
  unfold two
  cases ha : f a with
  | none => exact h2
  | some x => cases hb : f b with
    | none => exact h2
    | some y => exact h1 x y ha hb
noncomputable def AV.bool? : AV → Option Bool | .bool x => some x | _ => Option.none
theorem bool?_eq {a : AV} {x} : (h : a.bool? = some x) → a = .bool x := match a with | .bool _ => fun h => congrArg AV.bool (Option.some.inj h) | .none | .int _ | .float _ | .str _ | .bytes _ | .type _ | .range _ _ _ | .tup _ | .lst _ | .set _ _ _ | .ptr _ | .itr _ _ | .fn _ | .dict _ | .sm _ _ | .bag _ | .any => no_some
/- equality -/
noncomputable def eqO (x y : AV) : Option Bool := two AV.str? x y (fun a b => some (a == b)) (two AV.bytes? x y (fun a b => some (a.toList == b.toList)) none)
noncomputable def eqS (x y : AV) : Option Bool := two AV.int? x y (fun a b => some (a == b)) (two AV.bool? x y (fun a b => some (a == b)) (if (x.none? && y.none?) = true then some true else eqO x y))
noncomputable def allZ (f : AV → AV → Option Bool) : List AV → List AV → Option Bool
  | x :: xs, y :: ys => match f x y with
    | some a => (allZ f xs ys).map (a && ·)
    | none => none
  | _, _ => some true
noncomputable def eqL (f : AV → AV → Option Bool) (xs ys : List AV) : Option Bool := if xs.length = ys.length then allZ f xs ys else some false
noncomputable def eqT (f : AV → AV → Option Bool) (xs ys : List AV) : Option Bool := (allZ f xs ys).map (· && xs.length == ys.length)
/-- items: classes by their names -/
noncomputable def itm (f : AV → AV → Option Bool) (x y : AV) : Option Bool := two AV.type? x y (fun a b => if a = b then some true else none) (f x y)
noncomputable def eqN : Nat → AV → AV → Option Bool
  | 0, x, y => eqS x y
  | n + 1, x, y => two AV.lst? x y (eqL (itm (eqN n))) (two AV.tup? x y (eqT (itm (eqN n))) (eqS x y))
structure EqB (A : Around) (s : Shared) (va vb : Value) (b : Bool) : Prop where
  rc : RcAt A s va vb b
  ne : RcNeAt A s va vb (!b)
  eq : EqAt A s va vb b
theorem EqAt.bytes_bytes {A : Around} {s : Shared} (a : Array UInt8) (t : Tok) (b : Array UInt8) (u : Tok) : EqAt A s (.bytes a t) (.bytes b u) (a.toList == b.toList) := fun prog w E Q h => by
  unfold eqBool
  refine wpAny_holding ?_
  refine wpAny_ite_split (fun hab => ?_) (fun _ => ?_)
  · have e : a = b := by have := eq_of_beq hab; injection this
    subst e
    exact wpAny_bind (wpAny_rule (wpAny_pure (by simpa using h)))
  · exact wpAny_bind ((eq_bytes (wpAny_truthy_bool h) : wpAny _ _ (compareOp .Eq _ _) _ _ _))
theorem EqAt.none_none {A : Around} {s : Shared} : EqAt A s .none .none true := EqAt.same _
theorem eqO_ok {A : Around} {s : Shared} {H : Hd} {x y : AV} {va vb : Value} {b : Bool} (h : eqO x y = some b) (ra : RepO s.heap H va x) (rb : RepO s.heap H vb y) : EqB A s va vb b := by
  revert h
  refine two_cases (P := fun r => r = some b → EqB A s va vb b) (fun a c ea ec h => ?_) (two_cases (P := fun r => r = some b → EqB A s va vb b) (fun a c ea ec h => ?_) nofun)
  · rw [str?_eq ea] at ra; rw [str?_eq ec] at rb
    obtain ⟨t, rfl⟩ := ra; obtain ⟨u, rfl⟩ := rb
    cases h; exact ⟨RcAt.str_str _ _ _ _, RcNeAt.str_str _ _ _ _, EqAt.str_str _ _ _ _⟩
  · rw [bytes?_eq ea] at ra; rw [bytes?_eq ec] at rb
    obtain ⟨t, rfl⟩ := ra; obtain ⟨u, rfl⟩ := rb
    cases h
    exact ⟨fun prog w E Q h => (eq_bytes h : wpAny _ _ (compareOp .Eq _ _) _ _ _), fun prog w E Q h => (ne_bytes h : wpAny _ _ (compareOp .NotEq _ _) _ _ _), EqAt.bytes_bytes _ _ _ _⟩
theorem eqS_ok {A : Around} {s : Shared} {H : Hd} {x y : AV} {va vb : Value} {b : Bool} (h : eqS x y = some b) (ra : RepO s.heap H va x) (rb : RepO s.heap H vb y) : EqB A s va vb b := by
  revert h
  refine two_cases (P := fun r => r = some b → EqB A s va vb b) (fun a c ea ec h => ?_) (two_cases (P := fun r => r = some b → EqB A s va vb b) (fun a c ea ec h => ?_) fun h => ?_)
  · rw [int?_eq ea] at ra; rw [int?_eq ec] at rb
    obtain ⟨t, rfl⟩ := ra; obtain ⟨u, rfl⟩ := rb
    cases h; exact ⟨RcAt.int_int _ _ _ _, RcNeAt.int_int _ _ _ _, EqAt.int_int _ _ _ _⟩
  · rw [bool?_eq ea] at ra; rw [bool?_eq ec] at rb
    cases ra; cases rb
    cases h; exact ⟨RcAt.bool_bool _ _, RcNeAt.bool_bool _ _, EqAt.bool_bool _ _⟩
  · split at h
    · rename_i hn
      have hn := Bool.and_eq_true_iff.mp hn
      rw [none?_eq hn.1] at ra; rw [none?_eq hn.2] at rb
      cases ra; cases rb
      cases h; exact ⟨RcAt.none_none, RcNeAt.none_none, EqAt.none_none⟩
    · exact eqO_ok h ra rb
theorem allZ_some {f : AV → AV → Option Bool} : ∀ {xs ys : List AV} {b : Bool}, allZ f xs ys = some b → ∃ e : Nat → Bool, (∀ (j : Nat) x y, xs[j]? = some x → ys[j]? = some y → f x y = some (e j)) ∧ b = (List.range (min xs.length ys.length)).all e
  | [], ys, b, h => by
    simp only [allZ, Option.some.injEq] at h
    exact ⟨fun _ => true, fun j x y hx => by simp at hx, by simp [← h]⟩
  | x :: xs, [], b, h => by
    simp only [allZ, Option.some.injEq] at h
    exact ⟨fun _ => true, fun j x y _ hy => by simp at hy, by simp [← h]⟩
  | x :: xs, y :: ys, b, h => by
    simp only [allZ] at h
    split at h
    · rename_i a ha
      simp only [Option.map_eq_some_iff] at h
      obtain ⟨c, hc, rfl⟩ := h
      obtain ⟨e, he, hb⟩ := allZ_some hc
      refine ⟨fun j => match j with | 0 => a | j + 1 => e j, fun j x' y' hx hy => ?_, ?_⟩
      · cases j with
        | zero => simp at hx hy; subst hx; subst hy; exact ha
        | succ j => simp at hx hy; exact he j x' y' hx hy
      · rw [hb, List.length_cons, List.length_cons, Nat.succ_min_succ, List.range_succ_eq_map, List.all_cons, List.all_map]; rfl
    · cases h
theorem vis_fun {h : Heap} {H : Hd} {a : Addr} {c c' : Value} {d d' : Data} (x : (vis h H).r a c d) (y : (vis h H).r a c' d') : c = c' ∧ d = d' := by
  obtain ⟨_, o, e, rfl, rfl, _⟩ := x
  obtain ⟨_, o', e', rfl, rfl, _⟩ := y
  rw [e] at e'; cases e'
  exact ⟨rfl, rfl⟩
theorem eqO_same {h : Heap} {H : Hd} {x y : AV} {v : Value} {b : Bool} (e : eqO x y = some b) (ra : Rep (vis h H) v x) (rb : Rep (vis h H) v y) : b = true := by
  revert e
  refine two_cases (P := fun r => r = some b → b = true) (fun a c ea ec e => ?_) (two_cases (P := fun r => r = some b → b = true) (fun a c ea ec e => ?_) nofun)
  · rw [str?_eq ea] at ra; rw [str?_eq ec] at rb
    obtain ⟨t, rfl⟩ := ra; obtain ⟨u, e2⟩ := rb; cases e2; cases e; exact beq_self_eq_true _
  · rw [bytes?_eq ea] at ra; rw [bytes?_eq ec] at rb
    obtain ⟨t, rfl⟩ := ra; obtain ⟨u, e2⟩ := rb; cases e2; cases e; exact beq_self_eq_true _
theorem eqS_same {h : Heap} {H : Hd} {x y : AV} {v : Value} {b : Bool} (e : eqS x y = some b) (ra : Rep (vis h H) v x) (rb : Rep (vis h H) v y) : b = true := by
  revert e
  refine two_cases (P := fun r => r = some b → b = true) (fun a c ea ec e => ?_) (two_cases (P := fun r => r = some b → b = true) (fun a c ea ec e => ?_) fun e => ?_)
  · rw [int?_eq ea] at ra; rw [int?_eq ec] at rb
    obtain ⟨t, rfl⟩ := ra; obtain ⟨u, e2⟩ := rb; cases e2; cases e; exact beq_self_eq_true _
  · rw [bool?_eq ea] at ra; rw [bool?_eq ec] at rb
    cases ra; cases rb; cases e; exact beq_self_eq_true _
  · split at e
    · cases e; rfl
    · exact eqO_same e ra rb
theorem allZ_same {h : Heap} {H : Hd} {f : AV → AV → Option Bool} (hf : ∀ x y v b, f x y = some b → Rep (vis h H) v x → Rep (vis h H) v y → b = true) : ∀ {xs ys : List AV} {vs : List Value} {b : Bool}, allZ f xs ys = some b → RepL (vis h H) vs xs → RepL (vis h H) vs ys → b = true
  | [], _, _, b, e, _, _ => by simp only [allZ, Option.some.injEq] at e; exact e.symm
  | _ :: _, [], _, b, e, _, _ => by simp only [allZ, Option.some.injEq] at e; exact e.symm
  | x :: xs, y :: ys, [], b, e, r, _ => by simp [RepL] at r
  | x :: xs, y :: ys, v :: vs, b, e, r, r' => by
    simp only [RepL] at r r'
    simp only [allZ] at e
    split at e
    · rename_i a ha
      simp only [Option.map_eq_some_iff] at e
      obtain ⟨c, hc, rfl⟩ := e
      rw [hf x y v a ha r.1 r'.1, allZ_same hf hc r.2 r'.2]; rfl
    · cases e
theorem eqL_same {h : Heap} {H : Hd} {f : AV → AV → Option Bool} (hf : ∀ x y v b, f x y = some b → Rep (vis h H) v x → Rep (vis h H) v y → b = true) {xs ys : List AV} {v : Value} {b : Bool} (e : eqL f xs ys = some b) (ra : Rep (vis h H) v (.lst xs)) (rb : Rep (vis h H) v (.lst ys)) : b = true := by
  simp only [Rep] at ra rb
  obtain ⟨_, a, vs, k, rfl, r1, l1⟩ := ra
  obtain ⟨_, a', vs', k', ea, r2, l2⟩ := rb
  cases ea
  have := (vis_fun r1 r2).2
  simp only [Data.seq.injEq] at this
  have hv : vs = vs' := congrArg Array.toList this.1
  subst hv
  rw [eqL, if_pos (l1.length.symm.trans l2.length)] at e
  exact allZ_same hf e l1 l2
theorem eqT_same {h : Heap} {H : Hd} {f : AV → AV → Option Bool} (hf : ∀ x y v b, f x y = some b → Rep (vis h H) v x → Rep (vis h H) v y → b = true) {xs ys : List AV} {v : Value} {b : Bool} (e : eqT f xs ys = some b) (ra : Rep (vis h H) v (.tup xs)) (rb : Rep (vis h H) v (.tup ys)) : b = true := by
  simp only [Rep] at ra rb
  obtain ⟨_, a, vs, k, rfl, r1, l1⟩ := ra
  obtain ⟨_, a', vs', k', ea, r2, l2⟩ := rb
  cases ea
  have := (vis_fun r1 r2).2
  simp only [Data.seq.injEq] at this
  have hv : vs = vs' := congrArg Array.toList this.1
  subst hv
  obtain ⟨c, hc, rfl⟩ := Option.map_eq_some_iff.mp e
  rw [allZ_same hf hc l1 l2, l1.length.symm.trans l2.length, Bool.true_and]; exact beq_self_eq_true _
theorem itm_same {h : Heap} {H : Hd} {f : AV → AV → Option Bool} (hf : ∀ x y v b, f x y = some b → Rep (vis h H) v x → Rep (vis h H) v y → b = true) : ∀ x y v b, itm f x y = some b → Rep (vis h H) v x → Rep (vis h H) v y → b = true := fun x y v b e ra rb => by
  revert e
  refine two_cases (P := fun r => r = some b → b = true) (fun a c _ _ e => ?_) fun e => hf x y v b e ra rb
  split at e
  · cases e; rfl
  · cases e
theorem eqN_same {h : Heap} {H : Hd} : ∀ (n : Nat) (x y : AV) (v : Value) (b : Bool), eqN n x y = some b → Rep (vis h H) v x → Rep (vis h H) v y → b = true
  | 0, x, y, v, b, e, ra, rb => eqS_same e ra rb
  | n + 1, x, y, v, b, e, ra, rb => by
    revert e
    refine two_cases (P := fun r => r = some b → b = true) (fun a c ea ec e => ?_) (two_cases (P := fun r => r = some b → b = true) (fun a c ea ec e => ?_) fun e => eqS_same e ra rb)
    · rw [lst?_eq ea] at ra; rw [lst?_eq ec] at rb
      exact eqL_same (itm_same (eqN_same n)) e ra rb
    · rw [tup?_eq ea] at ra; rw [tup?_eq ec] at rb
      exact eqT_same (itm_same (eqN_same n)) e ra rb
/-- what is known of the items of two rows -/
noncomputable def EqF (A : Around) (s : Shared) (H : Hd) (f : AV → AV → Option Bool) : Prop := ∀ x y va vb b, f x y = some b → Rep (vis s.heap H) va x → Rep (vis s.heap H) vb y → EqAt A s va vb b
theorem eq_items {A : Around} {s : Shared} {H : Hd} {f : AV → AV → Option Bool} (hf : EqF A s H f) {xs ys : List AV} {vs ws : List Value} (rl : RepL (vis s.heap H) vs xs) (rl' : RepL (vis s.heap H) ws ys) {e : Nat → Bool} (he : ∀ (j : Nat) x y, xs[j]? = some x → ys[j]? = some y → f x y = some (e j)) :
    ∀ j (h1 : j < vs.toArray.size) (h2 : j < ws.toArray.size), EqAt A s vs.toArray[j] ws.toArray[j] (e j) := fun j h1 h2 => by
  have h1' : j < vs.length := h1
  have h2' : j < ws.length := h2
  have e1 : xs[j]? = some (xs[j]'(by rw [← rl.length]; exact h1')) := List.getElem?_eq_getElem _
  have e2 : ys[j]? = some (ys[j]'(by rw [← rl'.length]; exact h2')) := List.getElem?_eq_getElem _
  obtain ⟨v, hv, rv⟩ := rl.get e1
  obtain ⟨v', hv', rv'⟩ := rl'.get e2
  rw [List.getElem?_eq_getElem h1'] at hv
  rw [List.getElem?_eq_getElem h2'] at hv'
  cases hv; cases hv'
  exact hf _ _ _ _ _ (he j _ _ e1 e2) rv rv'
abbrev EqR (A : Around) (s : Shared) (H : Hd) (x y : AV) (va vb : Value) (b : Bool) : Prop := RcAt A s va vb b ∧ RcNeAt A s va vb (!b) ∧ (Rep (vis s.heap H) va x → Rep (vis s.heap H) vb y → EqAt A s va vb b)
theorem eq_refs {A : Around} {s : Shared} {H : Hd} {x y : AV} {l l' : Addr} {b : Bool} (same : ∀ v, Rep (vis s.heap H) v x → Rep (vis s.heap H) v y → b = true) (g1 : RcAt A s (.ref l) (.ref l') b) (g2 : RcNeAt A s (.ref l) (.ref l') (!b)) : EqR A s H x y (.ref l) (.ref l') b := by
  refine ⟨g1, g2, fun r r' => ?_⟩
  by_cases hll : l = l'
  · subst hll
    rw [same _ r r']
    exact EqAt.same _
  · exact EqAt.of_refs hll g1
theorem eqL_ok {A : Around} {s : Shared} {H : Hd} {f : AV → AV → Option Bool} (hu : A.units < cLine) (hf : EqF A.in1 s H f) (hs : ∀ x y v b, f x y = some b → Rep (vis s.heap H) v x → Rep (vis s.heap H) v y → b = true) {xs ys : List AV} {va vb : Value} {b : Bool} (h : eqL f xs ys = some b) (ra : RepO s.heap H va (.lst xs)) (rb : RepO s.heap H vb (.lst ys)) : EqR A s H (.lst xs) (.lst ys) va vb b := by
  have same : ∀ v, Rep (vis s.heap H) v (.lst xs) → Rep (vis s.heap H) v (.lst ys) → b = true := fun v r r' => eqL_same hs h r r'
  obtain ⟨_, l, vs, rfl, hl, rl⟩ := ra
  obtain ⟨_, l', ws, rfl, hl', rl'⟩ := rb
  have n1 := rl.length
  have n2 := rl'.length
  unfold eqL at h
  split at h
  · rename_i hlen
    have hsz : vs.toArray.size = ws.toArray.size := (n1.trans hlen).trans n2.symm
    obtain ⟨e, he, rfl⟩ := allZ_some h
    have hm : min xs.length ys.length = vs.toArray.size := by rw [← hlen, Nat.min_self]; exact n1.symm
    rw [hm] at same ⊢
    have hE := eq_items hf rl rl' he
    exact eq_refs same (RcAt.lists hl.isList hl'.isList hsz hu hE) (RcNeAt.lists hl.isList hl'.isList hsz hu hE)
  · rename_i hlen
    cases h
    have hsz : (vs.toArray.size != ws.toArray.size) = true := bne_iff_ne.mpr fun z => hlen ((n1.symm.trans z).trans n2)
    exact eq_refs same (RcAt.lists_lengths hl.isList hl'.isList hsz hu) (RcNeAt.lists_lengths hl.isList hl'.isList hsz hu)
theorem eqT_ok {A : Around} {s : Shared} {H : Hd} {f : AV → AV → Option Bool} (hu : A.units < cLine) (hf : EqF A.in1 s H f) (hs : ∀ x y v b, f x y = some b → Rep (vis s.heap H) v x → Rep (vis s.heap H) v y → b = true) {xs ys : List AV} {va vb : Value} {b : Bool} (h : eqT f xs ys = some b) (ra : RepO s.heap H va (.tup xs)) (rb : RepO s.heap H vb (.tup ys)) : EqR A s H (.tup xs) (.tup ys) va vb b := by
  have same : ∀ v, Rep (vis s.heap H) v (.tup xs) → Rep (vis s.heap H) v (.tup ys) → b = true := fun v r r' => eqT_same hs h r r'
  have ra : Rep (vis s.heap H) va (.tup xs) := ra
  have rb : Rep (vis s.heap H) vb (.tup ys) := rb
  simp only [Rep] at ra rb
  obtain ⟨_, l, vs, k, rfl, ⟨_, o, e1, e2, e3, _⟩, rl⟩ := ra
  obtain ⟨_, l', ws, k', rfl, ⟨_, o', e1', e2', e3', _⟩, rl'⟩ := rb
  have hl : s.heap.IsTuple l vs.toArray := ⟨o, e1, e2, k, e3⟩
  have hl' : s.heap.IsTuple l' ws.toArray := ⟨o', e1', e2', k', e3'⟩
  obtain ⟨c, hc, rfl⟩ := Option.map_eq_some_iff.mp h
  obtain ⟨e, he, rfl⟩ := allZ_some hc
  have m1 : xs.length = vs.toArray.size := rl.length.symm
  have m2 : ys.length = ws.toArray.size := rl'.length.symm
  rw [m1, m2] at same ⊢
  have hE := eq_items hf rl rl' he
  exact eq_refs same (RcAt.tuples hl hl' hu hE) (RcNeAt.tuples hl hl' hu hE)
theorem itm_ok {A : Around} {s : Shared} {H : Hd} {f : AV → AV → Option Bool} (hf : EqF A s H f) : EqF A s H (itm f) := fun x y va vb b e ra rb => by
  revert e
  refine two_cases (P := fun r => r = some b → EqAt A s va vb b) (fun a c ea ec e => ?_) fun e => hf x y va vb b e ra rb
  rw [type?_eq ea] at ra; rw [type?_eq ec] at rb
  cases ra; cases rb
  split at e
  · rename_i h; cases e; subst h; exact EqAt.same _
  · cases e
theorem eqN_ok {s : Shared} {H : Hd} : ∀ (n : Nat) {A : Around} {x y : AV} {va vb : Value} {b : Bool}, A.units + n < cLine → eqN n x y = some b → RepO s.heap H va x → RepO s.heap H vb y → EqR A s H x y va vb b
  | 0, A, x, y, va, vb, b, _, h, ra, rb => let ⟨h1, h2, h3⟩ := eqS_ok (A := A) h ra rb; ⟨h1, h2, fun _ _ => h3⟩
  | n + 1, A, x, y, va, vb, b, hu, h, ra, rb => by
    have hf : EqF A.in1 s H (itm (eqN n)) := itm_ok fun x y va vb b e r r' => (eqN_ok n (A := A.in1) (by show A.units + 1 + n < cLine; omega) e (.of r) (.of r')).2.2 r r'
    have hu1 : A.units < cLine := by omega
    revert h
    refine two_cases (P := fun r => r = some b → EqR A s H x y va vb b) (fun a c ea ec h => ?_) (two_cases (P := fun r => r = some b → EqR A s H x y va vb b) (fun a c ea ec h => ?_) fun h => ?_)
    · have ea := lst?_eq ea; have ec := lst?_eq ec
      subst ea; subst ec
      exact eqL_ok hu1 hf (itm_same (eqN_same n)) h ra rb
    · have ea := tup?_eq ea; have ec := tup?_eq ec
      subst ea; subst ec
      exact eqT_ok hu1 hf (itm_same (eqN_same n)) h ra rb
    · obtain ⟨h1, h2, h3⟩ := eqS_ok (A := A) h ra rb
      exact ⟨h1, h2, fun _ _ => h3⟩
noncomputable def eqCmp (op : CmpOp) (x y : AV) : Option Bool := match op with
  | .Eq => eqN 3 x y
  | .NotEq => (eqN 3 x y).map (!·)
  | _ => none
theorem eqCmp_ok {c : Cx} {q : Bool} {k : Nat} {A : Around} {s : Shared} {H : Hd} {op : CmpOp} {x y : AV} {va vb : Value} {r : Bool} (hm : Rm c q (k + 1) A s.heap) (h : eqCmp op x y = some r) (ra : RepO s.heap H va x) (rb : RepO s.heap H vb y) : Tr c q A H (compareOp op va vb) (.ok (.bool r)) s := by
  have hu : A.units + 3 < cLine := by have := hm.units; omega
  cases op <;> simp only [eqCmp, reduceCtorEq] at h
  · exact fun Q E P => (eqN_ok 3 hu h ra rb).1 _ _ _ _ (P _ _ (Kp.refl _ _) rfl)
  · simp only [Option.map_eq_some_iff] at h
    obtain ⟨b, h, rfl⟩ := h
    exact fun Q E P => (eqN_ok 3 hu h ra rb).2.1 _ _ _ _ (P _ _ (Kp.refl _ _) rfl)

/- order -/
noncomputable def lexI : List Int → List Int → Ordering
  | [], [] => .eq
  | [], _ :: _ => .lt
  | _ :: _, [] => .gt
  | a :: as, b :: bs => if a = b then lexI as bs else if a < b then .lt else .gt
noncomputable def ordB (op : CmpOp) (o : Ordering) : Bool := match op with
  | .Lt => o == .lt
  | .LtE => o != .gt
  | .Gt => o == .gt
  | _ => o != .lt
theorem ints_at : ∀ {vs : List Value} {ns : List Int} {i : Nat}, IntsAre vs ns → i < ns.length → ∃ n t, vs[i]? = some (.int n t) ∧ ns[i]? = some n ∧ ns.drop i = n :: ns.drop (i + 1)
  | _, _, _, .nil, h => by simp at h
  | _, _, 0, .cons n t _, _ => ⟨n, t, rfl, rfl, rfl⟩
  | _, _, i + 1, .cons n t r, h => by
    obtain ⟨m, u, h1, h2, h3⟩ := ints_at (i := i) r (by simpa using h)
    exact ⟨m, u, by simpa using h1, by simpa using h2, by simpa using h3⟩
theorem ints_len : ∀ {vs : List Value} {ns : List Int}, IntsAre vs ns → vs.length = ns.length
  | _, _, .nil => rfl
  | _, _, .cons _ _ r => by simp [ints_len r]
end Mine
end
section
open PySem PySem.W PyProof.Rows
namespace Mine
open SeqAt
set_option maxRecDepth 100000
theorem lexI_drop {ns ms : List Int} {i : Nat} (h1 : i < ns.length) (h2 : ms.length ≤ i) : lexI (ns.drop i) (ms.drop i) = .gt := by
  rw [List.drop_eq_getElem_cons h1, List.drop_of_length_le h2]; rfl
theorem lexI_end {ns ms : List Int} {i : Nat} (h1 : ns.length ≤ i) (h2 : i < ms.length) : lexI (ns.drop i) (ms.drop i) = .lt := by
  rw [List.drop_eq_getElem_cons h2, List.drop_of_length_le h1]; rfl
theorem lexI_both {ns ms : List Int} {i : Nat} (h1 : ns.length ≤ i) (h2 : ms.length ≤ i) : lexI (ns.drop i) (ms.drop i) = .eq := by
  rw [List.drop_of_length_le h1, List.drop_of_length_le h2]; rfl
theorem lexI_step {n m : Int} {ns ms : List Int} (h : (n == m) = true) : lexI (n :: ns) (m :: ms) = lexI ns ms := by
  simp only [lexI]; rw [if_pos (eq_of_beq h)]
theorem lexI_ne {n m : Int} {ns ms : List Int} (h : (n == m) = false) : lexI (n :: ns) (m :: ms) = if n < m then .lt else .gt := by
  simp only [lexI]; rw [if_neg (by simpa using h)]
theorem rc_int_lt {prog : Program} {w : World} {A : Around} {E : Value → Shared → Prop} {s : Shared} {a b : Int} {t u : Tok} {Q : Value → Shared → Prop} (h : Q (.bool (decide (a < b))) s) : wpAny (model prog w) A (richCompare .Lt (.int a t) (.int b u)) Q E s := PySem.P.lt_int h
theorem lt_loop (l b : Addr) (vs ws : List Value) (ns ms : List Int) (n n2 : Nat) (dd dd2 : Option Addr) (sl sl2 : Array (Option Value)) (hi : IntsAre vs ns) (hj : IntsAre ws ms) (k : Nat) :
    ∀ i : Nat, ns.length - i = k → i ≤ ns.length → i ≤ ms.length → Meets (Builtin.«list.__eq__.loop» ⟨[.ref l, .ref b, rawInt i, rawInt 0], []⟩)
      (fun _ R s => s.heap.get? l = some { cls := .type "list", dict := dd, data := .seq vs.toArray n, slots := sl } ∧ s.heap.get? b = some { cls := .type "list", dict := dd2, data := .seq ws.toArray n2, slots := sl2 } ∧
        R (.ok (.ret (.bool (ordB .Lt (lexI (ns.drop i) (ms.drop i)))))) s) := by
  have z1 : vs.toArray.size = ns.length := by simp [ints_len hi]
  have z2 : ws.toArray.size = ms.length := by simp [ints_len hj]
  induction k with
  | zero =>
    intro i hk h1 h2 prog w A R s h
    obtain ⟨hp, g, d, tk, os⟩ := s; obtain ⟨hl, hb, h⟩ := h
    wp_walk using AutoSeq1.wpAny_loadPart' hl, AutoSeq1.wpAny_loadPart' hb
    have hi1 : vs.toArray[((i : Nat) : Int).toNat]? = none := by simp; rw [ints_len hi]; omega
    rw [hi1]
    wp_walk using AutoSeq1.wpAny_loadPart' hl, AutoSeq1.wpAny_loadPart' hb
    show R (.ok (.ret (.bool (decide (vs.toArray.size < ws.toArray.size))))) _
    have e : ordB .Lt (lexI (ns.drop i) (ms.drop i)) = decide (vs.toArray.size < ws.toArray.size) := by
      rw [z1, z2]
      by_cases hm : i < ms.length
      · rw [lexI_end (by omega) hm]
        have : decide (ns.length < ms.length) = true := by simp; omega
        rw [this]; rfl
      · rw [lexI_both (by omega) (by omega)]
        have : decide (ns.length < ms.length) = false := by simp; omega
        rw [this]; rfl
    rw [e] at h
    exact h
  | succ k ih =>
    intro i hk h1 h2 prog w A R s h
    obtain ⟨hp, g, d, tk, os⟩ := s; obtain ⟨hl, hb, h⟩ := h
    wp_walk using AutoSeq1.wpAny_loadPart' hl, AutoSeq1.wpAny_loadPart' hb
    have hlt : i < ns.length := by omega
    obtain ⟨a, t, ea, ea2, ea3⟩ := ints_at hi hlt
    have hi1 : vs.toArray[((i : Nat) : Int).toNat]? = some (.int a t) := by simpa using ea
    rw [hi1]
    by_cases hm : i < ms.length
    · obtain ⟨c, u, ec, ec2, ec3⟩ := ints_at hj hm
      have hi2 : ws.toArray[((i : Nat) : Int).toNat]? = some (.int c u) := by simpa using ec
      rw [hi2]
      have hc : ((i : Int) + 1) = ((i + 1 : Nat) : Int) := by push_cast; rfl
      rw [ea3, ec3] at h
      refine wpAny_bind (EqAt.int_int a t c u prog w _ _ ?_)
      cases hb' : a == c with
      | true =>
        rw [lexI_step hb'] at h
        wp_walk
        rw [hc]
        exact ⟨plainId_quiet MeetsSeq3.plain_eq_loop _, codeAny_builtin MeetsSeq3.entry_eq_loop (by
          rw [Around.under_plainId MeetsSeq3.plain_eq_loop _]
          exact ih (i + 1) (by omega) (by omega) (by omega) prog w A R _ ⟨hl, hb, h⟩)⟩
      | false =>
        rw [lexI_ne hb'] at h
        wp_walk using AutoSeq1.wpAny_loadPart' hl, AutoSeq1.wpAny_loadPart' hb
        rw [hi1, hi2]
        have e : ordB .Lt (if a < c then Ordering.lt else .gt) = decide (a < c) := by
          have hne : a ≠ c := by simpa using hb'
          by_cases hac : a < c
          · rw [if_pos hac]
            have : decide (a < c) = true := by simp; omega
            rw [this]; rfl
          · rw [if_neg hac]
            have : decide (a < c) = false := by simp; omega
            rw [this]; rfl
        rw [e] at h
        refine wpAny_bind (rc_int_lt ?_)
        wp_walk
        exact h
    · have hi2 : ws.toArray[((i : Nat) : Int).toNat]? = none := by simp; rw [ints_len hj]; omega
      rw [hi2]
      wp_walk using AutoSeq1.wpAny_loadPart' hl, AutoSeq1.wpAny_loadPart' hb
      show R (.ok (.ret (.bool (decide (vs.toArray.size < ws.toArray.size))))) _
      have e : ordB .Lt (lexI (ns.drop i) (ms.drop i)) = decide (vs.toArray.size < ws.toArray.size) := by
        rw [z1, z2, lexI_drop hlt (by omega)]
        have : decide (ns.length < ms.length) = false := by simp; omega
        rw [this]; rfl
      rw [e] at h
      exact h
theorem list_lt (l b : Addr) (vs ws : List Value) (ns ms : List Int) (n n2 : Nat) (dd dd2 : Option Addr) (sl sl2 : Array (Option Value)) (hi : IntsAre vs ns) (hj : IntsAre ws ms) :
    Meets (Builtin.«list.__lt__» ⟨[.ref l, .ref b], []⟩)
      (fun _ R s => s.heap.get? l = some { cls := .type "list", dict := dd, data := .seq vs.toArray n, slots := sl } ∧ s.heap.get? b = some { cls := .type "list", dict := dd2, data := .seq ws.toArray n2, slots := sl2 } ∧
        R (.ok (.ret (.bool (ordB .Lt (lexI ns ms))))) s) := by
  intro prog w A R s h
  obtain ⟨hp, g, d, tk, os⟩ := s; obtain ⟨hl, hb, h⟩ := h
  have f3 := AutoSeq1.sub_list_list
  wp_walk using AutoSeq1.wpAny_loadPart' hl, AutoSeq1.wpAny_loadPart' hb
  exact ⟨plainId_quiet MeetsSeq3.plain_eq_loop _, codeAny_builtin MeetsSeq3.entry_eq_loop (by
    rw [Around.under_plainId MeetsSeq3.plain_eq_loop _]
    exact lt_loop l b vs ws ns ms n n2 dd dd2 sl sl2 hi hj _ 0 rfl (Nat.zero_le _) (Nat.zero_le _) prog w A R _ ⟨hl, hb, h⟩)⟩
theorem rc_list_lt {c : Cx} {q : Bool} {k : Nat} {A : Around} {s : Shared} {H : Hd} {l b : Addr} {vs ws : List Value} {ns ms : List Int} (hm : Rm c q (k + 1) A s.heap) (hl : IsL s.heap l vs) (hb : IsL s.heap b ws) (hi : IntsAre vs ns) (hj : IntsAre ws ms) :
    Tr c q A H (compareOp .Lt (.ref l) (.ref b)) (.ok (.bool (ordB .Lt (lexI ns ms)))) s := fun Q E P => by
  obtain ⟨⟨cls, dd, data, sl⟩, n, ho, hc, hd, _⟩ := hl
  obtain ⟨⟨cls2, dd2, data2, sl2⟩, n2, ho2, hc2, hd2, _⟩ := hb
  simp only at hc hd hc2 hd2
  subst hc hd hc2 hd2
  show wpAny _ _ (richCompare .Lt _ _) _ _ _
  exact richCompare_meets_room (op := .Lt) ⟨_, ho, rfl⟩ ⟨_, ho2, rfl⟩ F.slot_list_lt F.entry_list_lt (F.args_list_lt_2 _ _) (list_lt l b vs ws ns ms n n2 dd dd2 sl sl2 hi hj)
    ⟨ho, ho2, show Value.bool (ordB .Lt (lexI ns ms)) ≠ Value.notImplemented ∧ Q (.bool (ordB .Lt (lexI ns ms))) s from ⟨(fun x => nomatch x), P _ _ (Kp.refl _ _) rfl⟩⟩ (by have := hm.units; omega)
theorem tuple_lt (l b : Addr) (vs ws : List Value) (ns ms : List Int) (n n2 : Nat) (dd dd2 : Option Addr) (sl sl2 : Array (Option Value)) (hi : IntsAre vs ns) (hj : IntsAre ws ms) :
    Meets (Builtin.«tuple.__lt__» ⟨[.ref l, .ref b], []⟩)
      (fun _ R s => s.heap.get? l = some { cls := .type "tuple", dict := dd, data := .seq vs.toArray n, slots := sl } ∧ s.heap.get? b = some { cls := .type "tuple", dict := dd2, data := .seq ws.toArray n2, slots := sl2 } ∧
        R (.ok (.ret (.bool (ordB .Lt (lexI ns ms))))) s) :=
  .of_wp fun prog w A R s h => by
    obtain ⟨hp, g, d, tk, os⟩ := s; obtain ⟨hl, hb, h⟩ := h
    have f2 := AutoSeq1.sub_tuple_tuple
    have z1 : vs.toArray.size = ns.length := by simp [ints_len hi]
    have z2 : ws.toArray.size = ms.length := by simp [ints_len hj]
    have hZ : (vs.toArray.toList.zip ws.toArray.toList).length = min ns.length ms.length := by simp [ints_len hi, ints_len hj]
    wp_walk using AutoSeq1.wpAny_loadPart' hl, AutoSeq1.wpAny_loadPart' hb, wpAny_forIn_list _ (fun rest b s' => b.1 = none ∧ s' = ⟨hp, g, d, tk, os⟩ ∧ ∃ i, rest = (vs.toArray.toList.zip ws.toArray.toList).drop i ∧ i ≤ min ns.length ms.length ∧
      R (.ok (.ret (.bool (ordB .Lt (lexI (ns.drop i) (ms.drop i)))))) ⟨hp, g, d, tk, os⟩) _
    case turn =>
      rintro ⟨y, x⟩ rest b s' ⟨hb', rfl, i, hz, _, hR⟩
      have hlt : i < (vs.toArray.toList.zip ws.toArray.toList).length := by
        rcases Nat.lt_or_ge i (vs.toArray.toList.zip ws.toArray.toList).length with h' | h'
        · exact h'
        · rw [List.drop_of_length_le h'] at hz; cases hz
      have hm : i < min ns.length ms.length := hZ ▸ hlt
      rw [List.drop_eq_getElem_cons hlt] at hz
      injection hz with hyx hrest
      obtain ⟨a, t, ea, ea2, ea3⟩ := ints_at hi (i := i) (by omega)
      obtain ⟨c, u, ec, ec2, ec3⟩ := ints_at hj (i := i) (by omega)
      obtain ⟨q1, q2⟩ := List.getElem?_eq_some_iff.mp ea
      obtain ⟨r1, r2⟩ := List.getElem?_eq_some_iff.mp ec
      have hy : y = .int a t := by have := congrArg Prod.fst hyx; simp [q2] at this; exact this
      have hx : x = .int c u := by have := congrArg Prod.snd hyx; simp [r2] at this; exact this
      subst hy hx
      rw [ea3, ec3] at hR
      refine wpAny_bind (EqAt.int_int a t c u prog w _ _ ?_)
      cases hy : a == c with
      | true =>
        rw [lexI_step hy] at hR
        wp_walk
        exact ⟨rfl, rfl, i + 1, hrest, by omega, hR⟩
      | false =>
        rw [lexI_ne hy] at hR
        have e : ordB .Lt (if a < c then Ordering.lt else .gt) = decide (a < c) := by
          have hne : a ≠ c := by simpa using hy
          by_cases hac : a < c
          · rw [if_pos hac]
            have : decide (a < c) = true := by simp; omega
            rw [this]; rfl
          · rw [if_neg hac]
            have : decide (a < c) = false := by simp; omega
            rw [this]; rfl
        rw [e] at hR
        refine wpAny_bind (wpAny_rule (wpAny_bind (rc_int_lt ?_)))
        wp_walk
        exact ⟨_, rfl, hR⟩
    case fin =>
      rintro ⟨b1, b2⟩ s' ⟨hb', rfl, i, hz, hile, hR⟩
      simp only at hb'
      subst hb'
      have hge : min ns.length ms.length ≤ i := by
        rcases Nat.lt_or_ge i (vs.toArray.toList.zip ws.toArray.toList).length with h' | h'
        · rw [List.drop_eq_getElem_cons h'] at hz; cases hz
        · exact hZ ▸ h'
      have e : ordB .Lt (lexI (ns.drop i) (ms.drop i)) = decide (vs.toArray.size < ws.toArray.size) := by
        rw [z1, z2]
        by_cases h1 : i < ns.length
        · rw [lexI_drop h1 (by omega)]
          have : decide (ns.length < ms.length) = false := by simp; omega
          rw [this]; rfl
        · by_cases h2 : i < ms.length
          · rw [lexI_end (by omega) h2]
            have : decide (ns.length < ms.length) = true := by simp; omega
            rw [this]; rfl
          · rw [lexI_both (by omega) (by omega)]
            have : decide (ns.length < ms.length) = false := by simp; omega
            rw [this]; rfl
      rw [e] at hR
      wp_walk
      exact ⟨_, rfl, hR⟩
    case h =>
      exact ⟨rfl, rfl, 0, rfl, Nat.zero_le _, h⟩
theorem rc_tuple_lt {c : Cx} {q : Bool} {k : Nat} {A : Around} {s : Shared} {H : Hd} {l b : Addr} {vs ws : List Value} {ns ms : List Int} (hm : Rm c q (k + 1) A s.heap) (hl : s.heap.IsTuple l vs.toArray) (hb : s.heap.IsTuple b ws.toArray) (hi : IntsAre vs ns) (hj : IntsAre ws ms) :
    Tr c q A H (compareOp .Lt (.ref l) (.ref b)) (.ok (.bool (ordB .Lt (lexI ns ms)))) s := fun Q E P => by
  obtain ⟨⟨cls, dd, data, sl⟩, ho, hc, n, hd⟩ := hl
  obtain ⟨⟨cls2, dd2, data2, sl2⟩, ho2, hc2, n2, hd2⟩ := hb
  simp only at hc hd hc2 hd2
  subst hc hd hc2 hd2
  show wpAny _ _ (richCompare .Lt _ _) _ _ _
  exact richCompare_meets_room (op := .Lt) ⟨_, ho, rfl⟩ ⟨_, ho2, rfl⟩ F.slot_tuple_lt F.entry_tuple_lt (F.args_tuple_lt_2 _ _) (tuple_lt l b vs ws ns ms n n2 dd dd2 sl sl2 hi hj)
    ⟨ho, ho2, show Value.bool (ordB .Lt (lexI ns ms)) ≠ Value.notImplemented ∧ Q (.bool (ordB .Lt (lexI ns ms))) s from ⟨(fun x => nomatch x), P _ _ (Kp.refl _ _) rfl⟩⟩ (by have := hm.units; omega)
theorem slot_bytes_lt : Slot "bytes" (cmpInfo .Lt).2.1 "bytes.__lt__" :=
  .of (owner := "bytes") (n := "__lt__") (by rw [typeLookup_type, builtinLookup_eq_fast]; kernel_rfl) (by decide +kernel) (by decide +kernel) (by decide +kernel)
    (by first | exact .inl (by decide +kernel) | exact .inr (by decide +kernel)) (by rw [isSubtype_type]; kernel_rfl) (plain_of (by decide +kernel) (by decide +kernel) (by decide +kernel))
theorem entry_bytes_lt : entryFor table "bytes.__lt__" = some Builtin.«bytes.__lt__» := entryFor_of_tree (by kernel_rfl)
theorem args_bytes_lt_2 (a b : Value) : argsOk "bytes.__lt__" ⟨[a, b], []⟩ := by
  unfold argsOk; rw [signature?_of (id := "bytes.__lt__") (n := ['_', '_', 't', 'l', '_', '_']) (o := ['s', 'e', 't', 'y', 'b']) (by kernel_rfl) FB.owner_bytes]; kernel_rfl
theorem gives_bytes_lt (b c : Array UInt8) (t u : Tok) : Gives (Builtin.«bytes.__lt__» ⟨[.bytes b t, .bytes c u], []⟩) (.val (.bool (ordB .Lt (Builtin.Bytes.order b.toList c.toList)))) := by
  refine .of_wp fun M A E s Q hq => ?_
  show wpAny M A (isInstance (.bytes c u) (.type "bytes") >>= fun r => _) _ E s
  refine wpAny_bind (wpAny_isInstance (typeIs_bytes s c u) F.sub_bytes_bytes ?_)
  exact wpAny_pure ⟨_, rfl, hq⟩
theorem rc_bytes_lt {c : Cx} {q : Bool} {A : Around} {s : Shared} {H : Hd} {a b : Array UInt8} {t u : Tok} : Tr c q A H (compareOp .Lt (.bytes a t) (.bytes b u)) (.ok (.bool (ordB .Lt (Builtin.Bytes.order a.toList b.toList)))) s := fun Q E P =>
  compareOp_gives (op := .Lt) (typeIs_bytes s a t) (typeIs_bytes s b u) slot_bytes_lt entry_bytes_lt (args_bytes_lt_2 _ _) (gives_bytes_lt a b t u) (fun e => nomatch e) (P _ _ (Kp.refl _ _) rfl)
theorem rc_int_ge {prog : Program} {w : World} {A : Around} {E : Value → Shared → Prop} {s : Shared} {a b : Int} {t u : Tok} {Q : Value → Shared → Prop} (h : Q (.bool (decide (a ≥ b))) s) : wpAny (model prog w) A (richCompare .GtE (.int a t) (.int b u)) Q E s := PySem.P.ge_int h
theorem ge_loop (l b : Addr) (vs ws : List Value) (ns ms : List Int) (n n2 : Nat) (dd dd2 : Option Addr) (sl sl2 : Array (Option Value)) (hi : IntsAre vs ns) (hj : IntsAre ws ms) (k : Nat) :
    ∀ i : Nat, ns.length - i = k → i ≤ ns.length → i ≤ ms.length → Meets (Builtin.«list.__eq__.loop» ⟨[.ref l, .ref b, rawInt i, rawInt 5], []⟩)
      (fun _ R s => s.heap.get? l = some { cls := .type "list", dict := dd, data := .seq vs.toArray n, slots := sl } ∧ s.heap.get? b = some { cls := .type "list", dict := dd2, data := .seq ws.toArray n2, slots := sl2 } ∧
        R (.ok (.ret (.bool (ordB .GtE (lexI (ns.drop i) (ms.drop i)))))) s) := by
  have z1 : vs.toArray.size = ns.length := by simp [ints_len hi]
  have z2 : ws.toArray.size = ms.length := by simp [ints_len hj]
  induction k with
  | zero =>
    intro i hk h1 h2 prog w A R s h
    obtain ⟨hp, g, d, tk, os⟩ := s; obtain ⟨hl, hb, h⟩ := h
    wp_walk using AutoSeq1.wpAny_loadPart' hl, AutoSeq1.wpAny_loadPart' hb
    have hi1 : vs.toArray[((i : Nat) : Int).toNat]? = none := by simp; rw [ints_len hi]; omega
    rw [hi1]
    wp_walk using AutoSeq1.wpAny_loadPart' hl, AutoSeq1.wpAny_loadPart' hb
    show R (.ok (.ret (.bool (decide (vs.toArray.size ≥ ws.toArray.size))))) _
    have e : ordB .GtE (lexI (ns.drop i) (ms.drop i)) = decide (vs.toArray.size ≥ ws.toArray.size) := by
      rw [z1, z2]
      by_cases hm : i < ms.length
      · rw [lexI_end (by omega) hm]
        have : decide (ns.length ≥ ms.length) = false := by simp; omega
        rw [this]; rfl
      · rw [lexI_both (by omega) (by omega)]
        have : decide (ns.length ≥ ms.length) = true := by simp; omega
        rw [this]; rfl
    rw [e] at h
    exact h
  | succ k ih =>
    intro i hk h1 h2 prog w A R s h
    obtain ⟨hp, g, d, tk, os⟩ := s; obtain ⟨hl, hb, h⟩ := h
    wp_walk using AutoSeq1.wpAny_loadPart' hl, AutoSeq1.wpAny_loadPart' hb
    have hlt : i < ns.length := by omega
    obtain ⟨a, t, ea, ea2, ea3⟩ := ints_at hi hlt
    have hi1 : vs.toArray[((i : Nat) : Int).toNat]? = some (.int a t) := by simpa using ea
    rw [hi1]
    by_cases hm : i < ms.length
    · obtain ⟨c, u, ec, ec2, ec3⟩ := ints_at hj hm
      have hi2 : ws.toArray[((i : Nat) : Int).toNat]? = some (.int c u) := by simpa using ec
      rw [hi2]
      have hc : ((i : Int) + 1) = ((i + 1 : Nat) : Int) := by push_cast; rfl
      rw [ea3, ec3] at h
      refine wpAny_bind (EqAt.int_int a t c u prog w _ _ ?_)
      cases hb' : a == c with
      | true =>
        rw [lexI_step hb'] at h
        wp_walk
        rw [hc]
        exact ⟨plainId_quiet MeetsSeq3.plain_eq_loop _, codeAny_builtin MeetsSeq3.entry_eq_loop (by
          rw [Around.under_plainId MeetsSeq3.plain_eq_loop _]
          exact ih (i + 1) (by omega) (by omega) (by omega) prog w A R _ ⟨hl, hb, h⟩)⟩
      | false =>
        rw [lexI_ne hb'] at h
        wp_walk using AutoSeq1.wpAny_loadPart' hl, AutoSeq1.wpAny_loadPart' hb
        rw [hi1, hi2]
        have e : ordB .GtE (if a < c then Ordering.lt else .gt) = decide (a ≥ c) := by
          have hne : a ≠ c := by simpa using hb'
          by_cases hac : a < c
          · rw [if_pos hac]
            have : decide (a ≥ c) = false := by simp; omega
            rw [this]; rfl
          · rw [if_neg hac]
            have : decide (a ≥ c) = true := by simp; omega
            rw [this]; rfl
        rw [e] at h
        refine wpAny_bind (rc_int_ge ?_)
        wp_walk
        exact h
    · have hi2 : ws.toArray[((i : Nat) : Int).toNat]? = none := by simp; rw [ints_len hj]; omega
      rw [hi2]
      wp_walk using AutoSeq1.wpAny_loadPart' hl, AutoSeq1.wpAny_loadPart' hb
      show R (.ok (.ret (.bool (decide (vs.toArray.size ≥ ws.toArray.size))))) _
      have e : ordB .GtE (lexI (ns.drop i) (ms.drop i)) = decide (vs.toArray.size ≥ ws.toArray.size) := by
        rw [z1, z2, lexI_drop hlt (by omega)]
        have : decide (ns.length ≥ ms.length) = true := by simp; omega
        rw [this]; rfl
      rw [e] at h
      exact h
theorem list_ge (l b : Addr) (vs ws : List Value) (ns ms : List Int) (n n2 : Nat) (dd dd2 : Option Addr) (sl sl2 : Array (Option Value)) (hi : IntsAre vs ns) (hj : IntsAre ws ms) :
    Meets (Builtin.«list.__ge__» ⟨[.ref l, .ref b], []⟩)
      (fun _ R s => s.heap.get? l = some { cls := .type "list", dict := dd, data := .seq vs.toArray n, slots := sl } ∧ s.heap.get? b = some { cls := .type "list", dict := dd2, data := .seq ws.toArray n2, slots := sl2 } ∧
        R (.ok (.ret (.bool (ordB .GtE (lexI ns ms))))) s) := by
  intro prog w A R s h
  obtain ⟨hp, g, d, tk, os⟩ := s; obtain ⟨hl, hb, h⟩ := h
  have f3 := AutoSeq1.sub_list_list
  wp_walk using AutoSeq1.wpAny_loadPart' hl, AutoSeq1.wpAny_loadPart' hb
  exact ⟨plainId_quiet MeetsSeq3.plain_eq_loop _, codeAny_builtin MeetsSeq3.entry_eq_loop (by
    rw [Around.under_plainId MeetsSeq3.plain_eq_loop _]
    exact ge_loop l b vs ws ns ms n n2 dd dd2 sl sl2 hi hj _ 0 rfl (Nat.zero_le _) (Nat.zero_le _) prog w A R _ ⟨hl, hb, h⟩)⟩
theorem rc_list_ge {c : Cx} {q : Bool} {k : Nat} {A : Around} {s : Shared} {H : Hd} {l b : Addr} {vs ws : List Value} {ns ms : List Int} (hm : Rm c q (k + 1) A s.heap) (hl : IsL s.heap l vs) (hb : IsL s.heap b ws) (hi : IntsAre vs ns) (hj : IntsAre ws ms) :
    Tr c q A H (compareOp .GtE (.ref l) (.ref b)) (.ok (.bool (ordB .GtE (lexI ns ms)))) s := fun Q E P => by
  obtain ⟨⟨cls, dd, data, sl⟩, n, ho, hc, hd, _⟩ := hl
  obtain ⟨⟨cls2, dd2, data2, sl2⟩, n2, ho2, hc2, hd2, _⟩ := hb
  simp only at hc hd hc2 hd2
  subst hc hd hc2 hd2
  show wpAny _ _ (richCompare .GtE _ _) _ _ _
  exact richCompare_meets_room (op := .GtE) ⟨_, ho, rfl⟩ ⟨_, ho2, rfl⟩ F.slot_list_ge F.entry_list_ge (F.args_list_ge_2 _ _) (list_ge l b vs ws ns ms n n2 dd dd2 sl sl2 hi hj)
    ⟨ho, ho2, show Value.bool (ordB .GtE (lexI ns ms)) ≠ Value.notImplemented ∧ Q (.bool (ordB .GtE (lexI ns ms))) s from ⟨(fun x => nomatch x), P _ _ (Kp.refl _ _) rfl⟩⟩ (by have := hm.units; omega)
theorem tuple_ge (l b : Addr) (vs ws : List Value) (ns ms : List Int) (n n2 : Nat) (dd dd2 : Option Addr) (sl sl2 : Array (Option Value)) (hi : IntsAre vs ns) (hj : IntsAre ws ms) :
    Meets (Builtin.«tuple.__ge__» ⟨[.ref l, .ref b], []⟩)
      (fun _ R s => s.heap.get? l = some { cls := .type "tuple", dict := dd, data := .seq vs.toArray n, slots := sl } ∧ s.heap.get? b = some { cls := .type "tuple", dict := dd2, data := .seq ws.toArray n2, slots := sl2 } ∧
        R (.ok (.ret (.bool (ordB .GtE (lexI ns ms))))) s) :=
  .of_wp fun prog w A R s h => by
    obtain ⟨hp, g, d, tk, os⟩ := s; obtain ⟨hl, hb, h⟩ := h
    have f2 := AutoSeq1.sub_tuple_tuple
    have z1 : vs.toArray.size = ns.length := by simp [ints_len hi]
    have z2 : ws.toArray.size = ms.length := by simp [ints_len hj]
    have hZ : (vs.toArray.toList.zip ws.toArray.toList).length = min ns.length ms.length := by simp [ints_len hi, ints_len hj]
    wp_walk using AutoSeq1.wpAny_loadPart' hl, AutoSeq1.wpAny_loadPart' hb, wpAny_forIn_list _ (fun rest b s' => b.1 = none ∧ s' = ⟨hp, g, d, tk, os⟩ ∧ ∃ i, rest = (vs.toArray.toList.zip ws.toArray.toList).drop i ∧ i ≤ min ns.length ms.length ∧
      R (.ok (.ret (.bool (ordB .GtE (lexI (ns.drop i) (ms.drop i)))))) ⟨hp, g, d, tk, os⟩) _
    case turn =>
      rintro ⟨y, x⟩ rest b s' ⟨hb', rfl, i, hz, _, hR⟩
      have hlt : i < (vs.toArray.toList.zip ws.toArray.toList).length := by
        rcases Nat.lt_or_ge i (vs.toArray.toList.zip ws.toArray.toList).length with h' | h'
        · exact h'
        · rw [List.drop_of_length_le h'] at hz; cases hz
      have hm : i < min ns.length ms.length := hZ ▸ hlt
      rw [List.drop_eq_getElem_cons hlt] at hz
      injection hz with hyx hrest
      obtain ⟨a, t, ea, ea2, ea3⟩ := ints_at hi (i := i) (by omega)
      obtain ⟨c, u, ec, ec2, ec3⟩ := ints_at hj (i := i) (by omega)
      obtain ⟨q1, q2⟩ := List.getElem?_eq_some_iff.mp ea
      obtain ⟨r1, r2⟩ := List.getElem?_eq_some_iff.mp ec
      have hy : y = .int a t := by have := congrArg Prod.fst hyx; simp [q2] at this; exact this
      have hx : x = .int c u := by have := congrArg Prod.snd hyx; simp [r2] at this; exact this
      subst hy hx
      rw [ea3, ec3] at hR
      refine wpAny_bind (EqAt.int_int a t c u prog w _ _ ?_)
      cases hy : a == c with
      | true =>
        rw [lexI_step hy] at hR
        wp_walk
        exact ⟨rfl, rfl, i + 1, hrest, by omega, hR⟩
      | false =>
        rw [lexI_ne hy] at hR
        have e : ordB .GtE (if a < c then Ordering.lt else .gt) = decide (a ≥ c) := by
          have hne : a ≠ c := by simpa using hy
          by_cases hac : a < c
          · rw [if_pos hac]
            have : decide (a ≥ c) = false := by simp; omega
            rw [this]; rfl
          · rw [if_neg hac]
            have : decide (a ≥ c) = true := by simp; omega
            rw [this]; rfl
        rw [e] at hR
        refine wpAny_bind (wpAny_rule (wpAny_bind (rc_int_ge ?_)))
        wp_walk
        exact ⟨_, rfl, hR⟩
    case fin =>
      rintro ⟨b1, b2⟩ s' ⟨hb', rfl, i, hz, hile, hR⟩
      simp only at hb'
      subst hb'
      have hge : min ns.length ms.length ≤ i := by
        rcases Nat.lt_or_ge i (vs.toArray.toList.zip ws.toArray.toList).length with h' | h'
        · rw [List.drop_eq_getElem_cons h'] at hz; cases hz
        · exact hZ ▸ h'
      have e : ordB .GtE (lexI (ns.drop i) (ms.drop i)) = decide (vs.toArray.size ≥ ws.toArray.size) := by
        rw [z1, z2]
        by_cases h1 : i < ns.length
        · rw [lexI_drop h1 (by omega)]
          have : decide (ns.length ≥ ms.length) = true := by simp; omega
          rw [this]; rfl
        · by_cases h2 : i < ms.length
          · rw [lexI_end (by omega) h2]
            have : decide (ns.length ≥ ms.length) = false := by simp; omega
            rw [this]; rfl
          · rw [lexI_both (by omega) (by omega)]
            have : decide (ns.length ≥ ms.length) = true := by simp; omega
            rw [this]; rfl
      rw [e] at hR
      wp_walk
      exact ⟨_, rfl, hR⟩
    case h =>
      exact ⟨rfl, rfl, 0, rfl, Nat.zero_le _, h⟩
theorem rc_tuple_ge {c : Cx} {q : Bool} {k : Nat} {A : Around} {s : Shared} {H : Hd} {l b : Addr} {vs ws : List Value} {ns ms : List Int} (hm : Rm c q (k + 1) A s.heap) (hl : s.heap.IsTuple l vs.toArray) (hb : s.heap.IsTuple b ws.toArray) (hi : IntsAre vs ns) (hj : IntsAre ws ms) :
    Tr c q A H (compareOp .GtE (.ref l) (.ref b)) (.ok (.bool (ordB .GtE (lexI ns ms)))) s := fun Q E P => by
  obtain ⟨⟨cls, dd, data, sl⟩, ho, hc, n, hd⟩ := hl
  obtain ⟨⟨cls2, dd2, data2, sl2⟩, ho2, hc2, n2, hd2⟩ := hb
  simp only at hc hd hc2 hd2
  subst hc hd hc2 hd2
  show wpAny _ _ (richCompare .GtE _ _) _ _ _
  exact richCompare_meets_room (op := .GtE) ⟨_, ho, rfl⟩ ⟨_, ho2, rfl⟩ F.slot_tuple_ge F.entry_tuple_ge (F.args_tuple_ge_2 _ _) (tuple_ge l b vs ws ns ms n n2 dd dd2 sl sl2 hi hj)
    ⟨ho, ho2, show Value.bool (ordB .GtE (lexI ns ms)) ≠ Value.notImplemented ∧ Q (.bool (ordB .GtE (lexI ns ms))) s from ⟨(fun x => nomatch x), P _ _ (Kp.refl _ _) rfl⟩⟩ (by have := hm.units; omega)
theorem slot_bytes_ge : Slot "bytes" (cmpInfo .GtE).2.1 "bytes.__ge__" :=
  .of (owner := "bytes") (n := "__ge__") (by rw [typeLookup_type, builtinLookup_eq_fast]; kernel_rfl) (by decide +kernel) (by decide +kernel) (by decide +kernel)
    (by first | exact .inl (by decide +kernel) | exact .inr (by decide +kernel)) (by rw [isSubtype_type]; kernel_rfl) (plain_of (by decide +kernel) (by decide +kernel) (by decide +kernel))
theorem entry_bytes_ge : entryFor table "bytes.__ge__" = some Builtin.«bytes.__ge__» := entryFor_of_tree (by kernel_rfl)
theorem args_bytes_ge_2 (a b : Value) : argsOk "bytes.__ge__" ⟨[a, b], []⟩ := by
  unfold argsOk; rw [signature?_of (id := "bytes.__ge__") (n := ['_', '_', 'e', 'g', '_', '_']) (o := ['s', 'e', 't', 'y', 'b']) (by kernel_rfl) FB.owner_bytes]; kernel_rfl
theorem gives_bytes_ge (b c : Array UInt8) (t u : Tok) : Gives (Builtin.«bytes.__ge__» ⟨[.bytes b t, .bytes c u], []⟩) (.val (.bool (ordB .GtE (Builtin.Bytes.order b.toList c.toList)))) := by
  refine .of_wp fun M A E s Q hq => ?_
  show wpAny M A (isInstance (.bytes c u) (.type "bytes") >>= fun r => _) _ E s
  refine wpAny_bind (wpAny_isInstance (typeIs_bytes s c u) F.sub_bytes_bytes ?_)
  exact wpAny_pure ⟨_, rfl, hq⟩
theorem rc_bytes_ge {c : Cx} {q : Bool} {A : Around} {s : Shared} {H : Hd} {a b : Array UInt8} {t u : Tok} : Tr c q A H (compareOp .GtE (.bytes a t) (.bytes b u)) (.ok (.bool (ordB .GtE (Builtin.Bytes.order a.toList b.toList)))) s := fun Q E P =>
  compareOp_gives (op := .GtE) (typeIs_bytes s a t) (typeIs_bytes s b u) slot_bytes_ge entry_bytes_ge (args_bytes_ge_2 _ _) (gives_bytes_ge a b t u) (fun e => nomatch e) (P _ _ (Kp.refl _ _) rfl)
end Mine
end
section
open PySem PySem.W PyProof.Rows
namespace Mine
set_option maxRecDepth 100000
theorem kind_hasattr : builtinKind "hasattr" = none := by decide +kernel
theorem plain_hasattr : plainId "hasattr" = true := plain_of (by decide +kernel) (by decide +kernel) (by decide +kernel)
theorem entry_hasattr : entryFor table "hasattr" = some Builtin.«hasattr» := entryFor_of_tree (by kernel_rfl)
theorem args_hasattr (a b : Value) : argsOk "hasattr" ⟨[a, b], []⟩ := by unfold argsOk; kernel_rfl
theorem slot_md_get : Slot "method_descriptor" "__get__" "method_descriptor.__get__" :=
  .of (owner := "method_descriptor") (n := "__get__") (by rw [typeLookup_type, builtinLookup_eq_fast]; kernel_rfl) (by decide +kernel) (by decide +kernel) (by decide +kernel)
    (by first | exact .inl (by decide +kernel) | exact .inr (by decide +kernel)) (by rw [isSubtype_type]; kernel_rfl) (plain_of (by decide +kernel) (by decide +kernel) (by decide +kernel))
theorem entry_md_get : entryFor table "method_descriptor.__get__" = some Builtin.«method_descriptor.__get__» := entryFor_of_tree (by kernel_rfl)
theorem args_md_get (a b c : Value) : argsOk "method_descriptor.__get__" ⟨[a, b, c], []⟩ := by unfold argsOk; kernel_rfl
theorem md_set : typeLookup (.type "method_descriptor") "__set__" = pure none := by rw [typeLookup_type, builtinLookup_eq_fast]; kernel_rfl
theorem md_del : typeLookup (.type "method_descriptor") "__delete__" = pure none := by rw [typeLookup_type, builtinLookup_eq_fast]; kernel_rfl
theorem slot_wd_get : Slot "wrapper_descriptor" "__get__" "wrapper_descriptor.__get__" :=
  .of (owner := "wrapper_descriptor") (n := "__get__") (by rw [typeLookup_type, builtinLookup_eq_fast]; kernel_rfl) (by decide +kernel) (by decide +kernel) (by decide +kernel)
    (by first | exact .inl (by decide +kernel) | exact .inr (by decide +kernel)) (by rw [isSubtype_type]; kernel_rfl) (plain_of (by decide +kernel) (by decide +kernel) (by decide +kernel))
theorem entry_wd_get : entryFor table "wrapper_descriptor.__get__" = some Builtin.«wrapper_descriptor.__get__» := entryFor_of_tree (by kernel_rfl)
theorem args_wd_get (a b c : Value) : argsOk "wrapper_descriptor.__get__" ⟨[a, b, c], []⟩ := by unfold argsOk; kernel_rfl
theorem wd_set : typeLookup (.type "wrapper_descriptor") "__set__" = pure none := by rw [typeLookup_type, builtinLookup_eq_fast]; kernel_rfl
theorem wd_del : typeLookup (.type "wrapper_descriptor") "__delete__" = pure none := by rw [typeLookup_type, builtinLookup_eq_fast]; kernel_rfl
theorem lk_list_gi : typeLookup (.type "list") "__getitem__" = pure (some (.builtin "list.__getitem__")) := by rw [typeLookup_type, builtinLookup_eq_fast]; kernel_rfl
theorem sub_list_module : isSubtype (.type "list") (.type "module") = pure false := by rw [isSubtype_type]; kernel_rfl
theorem ty_list_gi : typeOf (.builtin "list.__getitem__") = pure (.type "method_descriptor") := by show builtinType _ = _; rw [builtinType_eq_fast]; kernel_rfl
theorem own_list_gi : (".".intercalate ("list.__getitem__".cutAt '.').dropLast) = "list" := by
  have e0 : "list.__getitem__".cutAt '.' = ["list", "__getitem__"] := by
    unfold String.cutAt
    rw [show "list.__getitem__".toList = ['l','i','s','t','.','_','_','g','e','t','i','t','e','m','_','_'] by rfl]
    decide +kernel
  rw [e0]; decide +kernel
theorem sub_list_gi : isSubtype (.type "list") (.type (".".intercalate ("list.__getitem__".cutAt '.').dropLast)) = pure true := by rw [own_list_gi, isSubtype_type]; kernel_rfl
theorem lk_tuple_gi : typeLookup (.type "tuple") "__getitem__" = pure (some (.builtin "tuple.__getitem__")) := by rw [typeLookup_type, builtinLookup_eq_fast]; kernel_rfl
theorem sub_tuple_module : isSubtype (.type "tuple") (.type "module") = pure false := by rw [isSubtype_type]; kernel_rfl
theorem ty_tuple_gi : typeOf (.builtin "tuple.__getitem__") = pure (.type "wrapper_descriptor") := by show builtinType _ = _; rw [builtinType_eq_fast]; kernel_rfl
theorem own_tuple_gi : (".".intercalate ("tuple.__getitem__".cutAt '.').dropLast) = "tuple" := by
  have e0 : "tuple.__getitem__".cutAt '.' = ["tuple", "__getitem__"] := by
    unfold String.cutAt
    rw [show "tuple.__getitem__".toList = ['t','u','p','l','e','.','_','_','g','e','t','i','t','e','m','_','_'] by rfl]
    decide +kernel
  rw [e0]; decide +kernel
theorem sub_tuple_gi : isSubtype (.type "tuple") (.type (".".intercalate ("tuple.__getitem__".cutAt '.').dropLast)) = pure true := by rw [own_tuple_gi, isSubtype_type]; kernel_rfl
theorem lk_str_gi : typeLookup (.type "str") "__getitem__" = pure (some (.builtin "str.__getitem__")) := by rw [typeLookup_type, builtinLookup_eq_fast]; kernel_rfl
theorem sub_str_module : isSubtype (.type "str") (.type "module") = pure false := by rw [isSubtype_type]; kernel_rfl
theorem ty_str_gi : typeOf (.builtin "str.__getitem__") = pure (.type "wrapper_descriptor") := by show builtinType _ = _; rw [builtinType_eq_fast]; kernel_rfl
theorem own_str_gi : (".".intercalate ("str.__getitem__".cutAt '.').dropLast) = "str" := by
  have e0 : "str.__getitem__".cutAt '.' = ["str", "__getitem__"] := by
    unfold String.cutAt
    rw [show "str.__getitem__".toList = ['s','t','r','.','_','_','g','e','t','i','t','e','m','_','_'] by rfl]
    decide +kernel
  rw [e0]; decide +kernel
theorem sub_str_gi : isSubtype (.type "str") (.type (".".intercalate ("str.__getitem__".cutAt '.').dropLast)) = pure true := by rw [own_str_gi, isSubtype_type]; kernel_rfl
theorem lk_bytes_gi : typeLookup (.type "bytes") "__getitem__" = pure (some (.builtin "bytes.__getitem__")) := by rw [typeLookup_type, builtinLookup_eq_fast]; kernel_rfl
theorem sub_bytes_module : isSubtype (.type "bytes") (.type "module") = pure false := by rw [isSubtype_type]; kernel_rfl
theorem ty_bytes_gi : typeOf (.builtin "bytes.__getitem__") = pure (.type "wrapper_descriptor") := by show builtinType _ = _; rw [builtinType_eq_fast]; kernel_rfl
theorem own_bytes_gi : (".".intercalate ("bytes.__getitem__".cutAt '.').dropLast) = "bytes" := by
  have e0 : "bytes.__getitem__".cutAt '.' = ["bytes", "__getitem__"] := by
    unfold String.cutAt
    rw [show "bytes.__getitem__".toList = ['b','y','t','e','s','.','_','_','g','e','t','i','t','e','m','_','_'] by rfl]
    decide +kernel
  rw [e0]; decide +kernel
theorem sub_bytes_gi : isSubtype (.type "bytes") (.type (".".intercalate ("bytes.__getitem__".cutAt '.').dropLast)) = pure true := by rw [own_bytes_gi, isSubtype_type]; kernel_rfl
section
variable {prog : Program} {w : World} {A : Around} {hp : Heap} {g : Array GenState} {d : Drawn} {tk : Nat} {os : OsState} {l : Addr} {vs : Array Value} {n : Nat} {sl : Array (Option Value)}
set_option maxHeartbeats 1000000 in
theorem get_list {R : Result → Shared → Prop} (hT : (⟨hp, g, d, tk, os⟩ : Shared).TypeIs (.ref l) "list")
    (h : ∀ (v : Addr) h' tk, (∀ b o, hp.get? b = some o → h'.get? b = some o) → R (.ok (.ret (.ref v))) ⟨h', g, d, tk, os⟩) : codeAny (model prog w) A (.call (.builtin "method_descriptor.__get__") ⟨[.builtin "list.__getitem__", .ref l, .type "list"], []⟩) R ⟨hp, g, d, tk, os⟩ := by
  have hT5 : (⟨hp, g, d, tk, os⟩ : Shared).TypeIs (.builtin "list.__getitem__") "method_descriptor" := ty_list_gi
  have f1 := sub_list_gi
  refine codeAny_call_builtin slot_md_get.plain entry_md_get (slot_md_get.check _ _ _ _ _ _ _ _ hT5 (args_md_get _ _ _) ?_)
  repeat (any_goals (first | assumption | wp_step))
  exact h _ _ _ fun b o e => Heap.get?_push_of_some _ e
set_option maxHeartbeats 1000000 in
theorem get_wd {T id : String} {v : Value} {R : Result → Shared → Prop} (hv : (v == Value.none) = false) (hT : (⟨hp, g, d, tk, os⟩ : Shared).TypeIs v T) (ht : typeOf (.builtin id) = pure (.type "wrapper_descriptor")) (f1 : isSubtype (.type T) (.type (".".intercalate (id.cutAt '.').dropLast)) = pure true)
    (h : ∀ (v : Addr) h' tk, (∀ b o, hp.get? b = some o → h'.get? b = some o) → R (.ok (.ret (.ref v))) ⟨h', g, d, tk, os⟩) : codeAny (model prog w) A (.call (.builtin "wrapper_descriptor.__get__") ⟨[.builtin id, v, .type T], []⟩) R ⟨hp, g, d, tk, os⟩ := by
  have hT5 : (⟨hp, g, d, tk, os⟩ : Shared).TypeIs (.builtin id) "wrapper_descriptor" := ht
  refine codeAny_call_builtin slot_wd_get.plain entry_wd_get (slot_wd_get.check _ _ _ _ _ _ _ _ hT5 (args_wd_get _ _ _) ?_)
  repeat (any_goals (first | assumption | wp_step))
  simp only [hv, Bool.false_eq_true, if_false]
  repeat (any_goals (first | assumption | wp_step))
  exact h _ _ _ fun b o e => Heap.get?_push_of_some _ e
set_option maxHeartbeats 1000000 in
/-- hasattr, from what the look-up comes to -/
theorem has_any {v : Value} {T ga : String} {E : Value → Shared → Prop} {t : Tok} {Q : Value → Shared → Prop} (hv : (v == Value.builtin "__main__.__loader__#opaque") = false) {id : String} (hdat : withoutEnding? id "#data" = none) (f4 : typeLookup (.type T) "__getitem__" = pure (some (.builtin id))) (f5 : isSubtype (.type T) (.type "module") = pure false) (hT : (⟨hp, g, d, tk, os⟩ : Shared).TypeIs v T) (f2 : typeLookup (.type T) "__getattribute__" = pure (some (.builtin ga))) (f3 : bindSpecial (.builtin ga) v = pure (.builtin ga, [v]))
    (hc : ∀ (A' : Around) (R : Result → Shared → Prop), (∀ (b : Addr) h' tk', (∀ b o, hp.get? b = some o → h'.get? b = some o) → R (.ok (.ret (.ref b))) ⟨h', g, d, tk', os⟩) → codeAny (model prog w) A' (.call (.builtin ga) ⟨[v, .str "__getitem__" t], []⟩) R ⟨hp, g, d, tk, os⟩)
    (h : ∀ h' tk, (∀ b o, hp.get? b = some o → h'.get? b = some o) → Q (.bool true) ⟨h', g, d, tk, os⟩) : wpAny (model prog w) A (call (.builtin "hasattr") [v, .str "__getitem__" t]) Q E ⟨hp, g, d, tk, os⟩ := by
  refine call_function_tree kind_hasattr plain_hasattr entry_hasattr (args_hasattr _ _) ?_
  unfold Builtin.«hasattr»
  unfold getAttrBy?
  repeat (any_goals (first | assumption | wp_step))
  split
  · repeat (any_goals (first | assumption | wp_step))
    refine hc _ _ fun b h' tk' k => ?_
    repeat (any_goals (first | assumption | wp_step))
    exact h _ _ k
  · repeat (any_goals (first | assumption | wp_step))
    refine hc _ _ fun b h' tk' k => ?_
    repeat (any_goals (first | assumption | wp_step))
    exact h _ _ k
set_option maxHeartbeats 1000000 in
/-- the look-up, of a thing on the heap -/
theorem ga_ref {T id g2 : String} {DT : String} {E : Value → Shared → Prop} {t : Tok} {Q : Fin → Shared → Prop} (ho : hp.get? l = some { cls := .type T, dict := none, data := .seq vs n, slots := sl }) (f4 : typeLookup (.type T) "__getitem__" = pure (some (.builtin id))) (f5 : typeOf (.builtin id) = pure (.type DT))
    (f6 : typeLookup (.type DT) "__get__" = pure (some (.builtin g2))) (f7 : typeLookup (.type DT) "__set__" = pure none) (f8 : typeLookup (.type DT) "__delete__" = pure none)
    (hc : ∀ (A' : Around) (R : Result → Shared → Prop), (∀ (b : Addr) h' tk', (∀ b o, hp.get? b = some o → h'.get? b = some o) → R (.ok (.ret (.ref b))) ⟨h', g, d, tk', os⟩) → codeAny (model prog w) A' (.call (.builtin g2) ⟨[.builtin id, .ref l, .type T], []⟩) R ⟨hp, g, d, tk, os⟩)
    (h : ∀ (v : Addr) h' tk, (∀ b o, hp.get? b = some o → h'.get? b = some o) → Q (.done (.ret (.ref v))) ⟨h', g, d, tk, os⟩) : wpAny (model prog w) A (Builtin.«object.__getattribute__» ⟨[.ref l, .str "__getitem__" t], []⟩) Q E ⟨hp, g, d, tk, os⟩ := by
  have hT : (⟨hp, g, d, tk, os⟩ : Shared).TypeIs (.ref l) T := ⟨_, ho, rfl⟩
  have hT5 : (⟨hp, g, d, tk, os⟩ : Shared).TypeIs (.builtin id) DT := f5
  repeat (any_goals (first | assumption | wp_step))
  refine hc _ _ fun b h' tk' k => ?_
  repeat (any_goals (first | assumption | wp_step))
  exact h _ _ _ k
set_option maxHeartbeats 1000000 in
/-- the look-up, of a text -/
theorem ga_str {x : Str} {u : Tok} {E : Value → Shared → Prop} {t : Tok} {Q : Fin → Shared → Prop}
    (h : ∀ (v : Addr) h' tk, (∀ b o, hp.get? b = some o → h'.get? b = some o) → Q (.done (.ret (.ref v))) ⟨h', g, d, tk, os⟩) : wpAny (model prog w) A (Builtin.«object.__getattribute__» ⟨[.str x u, .str "__getitem__" t], []⟩) Q E ⟨hp, g, d, tk, os⟩ := by
  have hT : (⟨hp, g, d, tk, os⟩ : Shared).TypeIs (.str x u) "str" := rfl
  have hT5 : (⟨hp, g, d, tk, os⟩ : Shared).TypeIs (.builtin "str.__getitem__") "wrapper_descriptor" := ty_str_gi
  have f4 := lk_str_gi
  have f5 := ty_str_gi
  have f6 := slot_wd_get.lookup
  have f7 := wd_set
  have f8 := wd_del
  repeat (any_goals (first | assumption | wp_step))
  refine get_wd rfl hT ty_str_gi sub_str_gi fun v h' tk' k => ?_
  repeat (any_goals (first | assumption | wp_step))
  exact h _ _ _ k
set_option maxHeartbeats 1000000 in
theorem ga_bytes {x : Array UInt8} {u : Tok} {E : Value → Shared → Prop} {t : Tok} {Q : Fin → Shared → Prop}
    (h : ∀ (v : Addr) h' tk, (∀ b o, hp.get? b = some o → h'.get? b = some o) → Q (.done (.ret (.ref v))) ⟨h', g, d, tk, os⟩) : wpAny (model prog w) A (Builtin.«object.__getattribute__» ⟨[.bytes x u, .str "__getitem__" t], []⟩) Q E ⟨hp, g, d, tk, os⟩ := by
  have hT : (⟨hp, g, d, tk, os⟩ : Shared).TypeIs (.bytes x u) "bytes" := typeIs_bytes _ x u
  have hT5 : (⟨hp, g, d, tk, os⟩ : Shared).TypeIs (.builtin "bytes.__getitem__") "wrapper_descriptor" := ty_bytes_gi
  have f4 := lk_bytes_gi
  have f5 := ty_bytes_gi
  have f6 := slot_wd_get.lookup
  have f7 := wd_set
  have f8 := wd_del
  repeat (any_goals (first | assumption | wp_step))
  refine get_wd rfl hT ty_bytes_gi sub_bytes_gi fun v h' tk' k => ?_
  repeat (any_goals (first | assumption | wp_step))
  exact h _ _ _ k
theorem has_list {E : Value → Shared → Prop} {t : Tok} {Q : Value → Shared → Prop} (ho : hp.get? l = some { cls := .type "list", dict := none, data := .seq vs n, slots := sl })
    (h : ∀ h' tk, (∀ b o, hp.get? b = some o → h'.get? b = some o) → Q (.bool true) ⟨h', g, d, tk, os⟩) : wpAny (model prog w) A (call (.builtin "hasattr") [.ref l, .str "__getitem__" t]) Q E ⟨hp, g, d, tk, os⟩ :=
  has_any (T := "list") rfl (by decide +kernel) lk_list_gi sub_list_module ⟨_, ho, rfl⟩ F.slot_list_getattribute.lookup (F.slot_list_getattribute.bind _)
    (fun A' R k => codeAny_call_builtin F.slot_list_getattribute.plain F.entry_list_ga (F.slot_list_getattribute.check _ _ _ _ _ _ _ _ ⟨_, ho, rfl⟩ (F.args_list_getattribute_2 _ _) (ga_ref ho lk_list_gi ty_list_gi slot_md_get.lookup md_set md_del (fun A' R k' => get_list ⟨_, ho, rfl⟩ k') k))) h
theorem has_tuple {E : Value → Shared → Prop} {t : Tok} {Q : Value → Shared → Prop} (ho : hp.get? l = some { cls := .type "tuple", dict := none, data := .seq vs n, slots := sl })
    (h : ∀ h' tk, (∀ b o, hp.get? b = some o → h'.get? b = some o) → Q (.bool true) ⟨h', g, d, tk, os⟩) : wpAny (model prog w) A (call (.builtin "hasattr") [.ref l, .str "__getitem__" t]) Q E ⟨hp, g, d, tk, os⟩ :=
  has_any (T := "tuple") rfl (by decide +kernel) lk_tuple_gi sub_tuple_module ⟨_, ho, rfl⟩ F.slot_tuple_getattribute.lookup (F.slot_tuple_getattribute.bind _)
    (fun A' R k => codeAny_call_builtin F.slot_tuple_getattribute.plain F.entry_tuple_ga (F.slot_tuple_getattribute.check _ _ _ _ _ _ _ _ ⟨_, ho, rfl⟩ (F.args_tuple_getattribute_2 _ _) (ga_ref ho lk_tuple_gi ty_tuple_gi slot_wd_get.lookup wd_set wd_del (fun A' R k' => get_wd rfl ⟨_, ho, rfl⟩ ty_tuple_gi sub_tuple_gi k') k))) h
theorem has_str {x : Str} {u : Tok} {E : Value → Shared → Prop} {t : Tok} {Q : Value → Shared → Prop}
    (h : ∀ h' tk, (∀ b o, hp.get? b = some o → h'.get? b = some o) → Q (.bool true) ⟨h', g, d, tk, os⟩) : wpAny (model prog w) A (call (.builtin "hasattr") [.str x u, .str "__getitem__" t]) Q E ⟨hp, g, d, tk, os⟩ :=
  has_any (T := "str") rfl (by decide +kernel) lk_str_gi sub_str_module rfl F.slot_str_getattribute.lookup (F.slot_str_getattribute.bind _)
    (fun A' R k => codeAny_call_builtin F.slot_str_getattribute.plain F.entry_object_getattribute (F.slot_str_getattribute.check _ _ _ _ _ _ _ _ rfl (F.args_object_getattribute_2 _ _) (ga_str k))) h
theorem has_bytes {x : Array UInt8} {u : Tok} {E : Value → Shared → Prop} {t : Tok} {Q : Value → Shared → Prop}
    (h : ∀ h' tk, (∀ b o, hp.get? b = some o → h'.get? b = some o) → Q (.bool true) ⟨h', g, d, tk, os⟩) : wpAny (model prog w) A (call (.builtin "hasattr") [.bytes x u, .str "__getitem__" t]) Q E ⟨hp, g, d, tk, os⟩ :=
  has_any (T := "bytes") rfl (by decide +kernel) lk_bytes_gi sub_bytes_module (typeIs_bytes _ x u) F.slot_bytes_getattribute.lookup (F.slot_bytes_getattribute.bind _)
    (fun A' R k => codeAny_call_builtin F.slot_bytes_getattribute.plain F.entry_bytes_ga (F.slot_bytes_getattribute.check _ _ _ _ _ _ _ _ (typeIs_bytes _ x u) (F.args_bytes_getattribute_2 _ _) (ga_bytes k))) h
end
end Mine
end
section
open PySem PySem.W PyProof.Rows
namespace Mine
set_option maxRecDepth 100000
section
variable {c : Cx} {q : Bool} {k : Nat} {A : Around} {s : Shared} {H : Hd}
theorem rep_tup_is {v : Value} {xs : List AV} (r : Rep (vis s.heap H) v (.tup xs)) : ∃ l vs n sl, v = .ref l ∧ s.heap.get? l = some { cls := .type "tuple", dict := none, data := .seq (List.toArray vs) n, slots := sl } ∧ RepL (vis s.heap H) vs xs ∧ xs.length ≤ 1048576 := by
  simp only [Rep] at r
  obtain ⟨hz, l, vs, n, rfl, ⟨_, ⟨oc, od, odt, os⟩, e, hc, hd, hdi, _⟩, rl⟩ := r
  simp only at hc hd hdi
  subst hc hd hdi
  exact ⟨l, vs, n, os, rfl, e, rl, hz⟩
theorem tups_add {va vb : Value} {xs ys : List AV} (hL : Live H s.heap) (ra : Rep (vis s.heap H) va (.tup xs)) (rb : Rep (vis s.heap H) vb (.tup ys)) (hz : xs.length + ys.length ≤ 1048576) :
    Tr c q A H (binaryOp .Add va vb) (.ok (.tup (xs ++ ys))) s := by
  intro Q E P
  obtain ⟨l, vs, n, sl, rfl, ho, hx, _⟩ := rep_tup_is ra
  obtain ⟨b, ws, n2, sl2, rfl, ho2, hy, _⟩ := rep_tup_is rb
  cases vs with
  | nil =>
    have e : xs = [] := List.eq_nil_of_length_eq_zero (by rw [← hx.length]; rfl)
    subst e
    refine concat_meets ⟨_, ho, rfl⟩ ⟨_, ho2, rfl⟩ noFill_tuple_add seq_tuple_add PySem.F.slot_tuple_add PySem.F.entry_tuple_add (PySem.F.args_tuple_add_2 _ _) (tuple_addW0 l b _ _ n n2 _ _ sl sl2 rfl) ⟨ho, ho2, ?_⟩
    exact P _ _ (Kp.refl _ _) rb
  | cons v vs =>
    cases ws with
    | nil =>
      have e : ys = [] := List.eq_nil_of_length_eq_zero (by rw [← hy.length]; rfl)
      subst e
      rw [List.append_nil] at P
      refine concat_meets ⟨_, ho, rfl⟩ ⟨_, ho2, rfl⟩ noFill_tuple_add seq_tuple_add PySem.F.slot_tuple_add PySem.F.entry_tuple_add (PySem.F.args_tuple_add_2 _ _) (tuple_addW1 l b _ _ n n2 _ _ sl sl2 (by simp) rfl) ⟨ho, ho2, ?_⟩
      exact P _ _ (Kp.refl _ _) ra
    | cons w ws =>
      refine concat_meets ⟨_, ho, rfl⟩ ⟨_, ho2, rfl⟩ noFill_tuple_add seq_tuple_add PySem.F.slot_tuple_add PySem.F.entry_tuple_add (PySem.F.args_tuple_add_2 _ _) (tuple_addW2 l b _ _ n n2 _ _ sl sl2 (by simp) (by simp) (by
        have h1 := hx.length
        have h2 := hy.length
        simp only [List.size_toArray]
        exact line_ok (by omega))) ⟨ho, ho2, ?_⟩
      have e : (v :: vs).toArray ++ (w :: ws).toArray = ((v :: vs) ++ (w :: ws)).toArray := by simp
      rw [e]
      exact P _ _ (Kp.push _) (rep_fresh_tup hL (by simpa using hz) (hx.append hy))
theorem strs_add {x y : Str} {t u : Tok} (hz : x.length + y.length ≤ 1048576) : Tr c q A H (binaryOp .Add (.str x t) (.str y u)) (.ok (.str (x ++ y))) s := fun Q E P =>
  PyProof.Rows.add_str (fun t' tk => P _ _ Kp.toks ⟨_, rfl⟩) (line_ok hz)
theorem bytes_add {x y : Array UInt8} {t u : Tok} (hz : x.size + y.size ≤ 1048576) : Tr c q A H (binaryOp .Add (.bytes x t) (.bytes y u)) (.ok (.bytes (x ++ y))) s := fun Q E P =>
  KBy.add_bytes (by omega) fun t' tk => P _ _ Kp.toks ⟨_, rfl⟩
theorem tup_of_list {l : Addr} {vs : List Value} {xs : List AV} (hL : Live H s.heap) (hl : IsL s.heap l vs) (hz : xs.length ≤ 1048576) (rl : RepL (vis s.heap H) vs xs) : Tr c q A H (PySem.call (.type "tuple") [.ref l]) (.ok (.tup xs)) s := fun Q E P => by
  refine call_tuple_list hl.isList (fun h' hk => ?_) (by rw [List.size_toArray, rl.length]; exact line_ok hz)
  have k1 : Kp A s { s with heap := h' } := Kp.of hk
  exact P _ _ (k1.trans (Kp.push _)) (rep_fresh_tup (s := { s with heap := h' }) (hL.kp k1) hz (rl.kp k1))
theorem bytes_of_list {l : Addr} {vs : List Value} {ns : List Int} (hm : Rm c true k A s.heap) (hl : IsL s.heap l vs) (hi : IntsAre vs ns) (hr : ∀ n ∈ ns, 0 ≤ n ∧ n < 256) (hz : ns.length ≤ 1048576) : Tr c true A H (PySem.call (.type "bytes") [.ref l]) (.ok (.bytes (byteArr ns))) s := fun Q E P =>
  call_bytes_ints hl.isList hi hr (by rw [ints_len hi]; exact line_ok hz) (hm.hand rfl) fun h' t k' hk => P _ _ (Kp.of hk) ⟨_, rfl⟩
noncomputable def strs? : List AV → Option (List Str)
  | [] => some []
  | .str x :: r => (strs? r).map (x :: ·)
  | _ :: _ => none
theorem strs_are {R : Vw} : ∀ {xs : List AV} {vs : List Value} {ns : List Str}, strs? xs = some ns → RepL R vs xs → StrsAre vs ns
  | [], [], ns, h, _ => by simp only [strs?, Option.some.injEq] at h; subst h; exact .nil
  | [], _ :: _, _, _, r => by simp [RepL] at r
  | _ :: _, [], _, _, r => by simp [RepL] at r
  | x :: xs, v :: vs, ns, h, r => by
    simp only [RepL] at r
    cases x <;> simp only [strs?, reduceCtorEq] at h
    rename_i i
    simp only [Option.map_eq_some_iff] at h
    obtain ⟨ms, h1, rfl⟩ := h
    obtain ⟨t, e⟩ := r.1
    subst e
    exact .cons i t (strs_are h1 r.2)
theorem join_ok {l : Addr} {vs : List Value} {ys : List Str} {x : Str} {t : Tok} (hl : IsL s.heap l vs) (hi : StrsAre vs ys) (hx : x.length ≤ 16) (hw : (ys.map (·.length)).sum + ys.length ≤ 1048576) : Tr c q A H (PySem.call (.builtin "str.join") [.str x t, .ref l]) (.ok (.str (Txt.join x ys))) s := fun Q E P =>
  join_listW hl.isList (by simpa using hi) hx hw fun t' k' => P _ _ Kp.toks ⟨_, rfl⟩
theorem truthL_ok {l : Addr} {vs : List Value} {xs : List AV} (hl : IsL s.heap l vs) (hz : xs.length ≤ 1048576) (rl : RepL (vis s.heap H) vs xs) : TrB c A (truthy (.ref l)) (!xs.isEmpty) s := fun Q E P => by
  refine wpAny_truthy_list hl.isList (by rw [List.size_toArray, rl.length]; omega) ?_
  have e : (!vs.toArray.isEmpty) = !xs.isEmpty := by
    have := rl.length
    cases vs with
    | nil => cases xs with
      | nil => rfl
      | cons _ _ => simp at this
    | cons _ _ => cases xs with
      | nil => simp at this
      | cons _ _ => simp
  rw [e]
  exact P _ Kp.toks
end
end Mine
end
section
open PySem PySem.W PyProof.Rows PySem.Calls
namespace Mine
set_option maxRecDepth 100000
set_option linter.unusedVariables false
section
variable {c : Cx} {q : Bool} {k : Nat} {A : Around} {s : Shared} {H : Hd}
end
end Mine
end
section
open PySem PySem.W PyProof.Rows
namespace Mine

/-- built-ins by name -/
inductive BI where
  | len | range | max | list | tuple | type | isinstance | chr | bytes | str | hasattr
deriving DecidableEq, Inhabited
noncomputable def BI.name : BI → String
  | len => "len" | range => "range" | max => "max" | list => "list" | tuple => "tuple" | type => "type" | isinstance => "isinstance" | chr => "chr" | bytes => "bytes"
  | str => "str" | hasattr => "hasattr"
/-- methods by name -/
inductive MI where
  | index | count | join | other
deriving DecidableEq, Inhabited
noncomputable def MI.name : MI → String
  | index => "index" | count => "count" | join => "join" | other => "other"

abbrev Store := List (Option MO)
/-- an operand: a value, or the list that a slot holds alone -/
inductive OV where
  | av (x : AV)
  | own (i : Nat)
deriving Inhabited
/-- what an expression comes to, with the things that can turn behind it -/
inductive ER where
  | ok (v : OV) (σ : Store)
  | exc (x : EX) (σ : Store)
  | stuck
deriving Inhabited

/-- methods that turn their thing -/
inductive EMI where
  | append | pop
deriving DecidableEq, Inhabited
noncomputable def EMI.name : EMI → String
  | .append => "append" | .pop => "pop"
/-- methods of a list that a slot holds alone -/
inductive OMI where
  | append | insert | remove
deriving DecidableEq, Inhabited
noncomputable def OMI.name : OMI → String
  | .append => "append" | .insert => "insert" | .remove => "remove"
/-- attributes of a class -/
inductive TA where
  | name_ | lengthHint
deriving DecidableEq, Inhabited
noncomputable def TA.name : TA → String
  | .lengthHint => "__length_hint__" | .name_ => "__name__"
mutual
inductive PE where
  | const (v : AV)
  | name (i : Nat)
  | glob (b : BI)
  | bin (op : Operator) (l r : PE)
  | un (op : UnaryOp) (x : PE)
  | cmp (op : CmpOp) (l r : PE)
  | bop (op : BoolOp) (xs : PEs)
  | ife (t a b : PE)
  | list (xs : PEs)
  | tup (xs : PEs)
  | sub (o i : PE)
  | slice (o a b s : PE)
  | call (f : Nat) (xs : PEs)
  | bcall (f : BI) (xs : PEs)
  | meth (o : PE) (m : MI) (xs : PEs)
  | comp (caps : List Nat) (elt src : PE) (cond : PEs)
  | compc (caps : List Nat) (elt src : PE) (cond : PEs)
  | cat (l r : PE)
  | setd (x : PE)
  | attr (x : PE) (n : TA)
inductive PEs where
  | nil
  | cons (e : PE) (es : PEs)
end

noncomputable def RepOL (h : Heap) (H : Hd) : List Value → List AV → Prop
  | [], [] => True
  | v :: vs, x :: xs => RepO h H v x ∧ RepOL h H vs xs
  | _, _ => False
/-- what an iterator over a value hands out -/
structure Itr (c : Cx) (A : Around) (I : Addr) (fp : Addr → Prop) (P : Nat → Value → Prop) (n : Nat) (St : Nat → Heap → Prop) : Prop where
  fld : ∀ i h, St i h → ∃ o fs, h.get? I = some o ∧ o.data = .fields fs ∧ ¬ okC o.cls
  nt : ∀ i h, St i h → ∃ o n, h.get? I = some o ∧ o.cls = .type n ∧ ["enumerate", "zip", "dict_itemiterator", "dict_reverseitemiterator", "odict_iterator", "itertools.zip_longest", "itertools.pairwise"].contains n = false
  frame : ∀ i h h', St i h → (∀ b o, fp b → h.get? b = some o → ((∃ fs, o.data = .fields fs) → h'.get? b = some o) ∧ ∃ sl, h'.get? b = some { o with slots := sl }) → St i h'
  item : ∀ i (s : Shared) (Q : Option Value → Shared → Prop) (E : Value → Shared → Prop), i < n → St i s.heap →
    (∀ v h' tk, P i v → St (i + 1) h' → (∀ b o, b ≠ I → s.heap.get? b = some o → h'.get? b = some o) → (∃ o, h'.get? I = some o) → Q (some v) { s with heap := h', toks := tk }) → wpAny c.M A (pyNext (.ref I)) Q E s
  done : ∀ (s : Shared) (Q : Option Value → Shared → Prop) (E : Value → Shared → Prop), St n s.heap →
    (∀ h' tk, (∀ b o, b ≠ I → s.heap.get? b = some o → h'.get? b = some o) → Q none { s with heap := h', toks := tk }) → wpAny c.M A (pyNext (.ref I)) Q E s
  self : ∀ i (s : Shared) (Q : Value → Shared → Prop) (E : Value → Shared → Prop), St i s.heap → Q (.ref I) s → wpAny c.M A (pyIter (.ref I)) Q E s

/-- the words that are served -/
structure OpsF where
  ld : Bool
  bin : Operator → AV → AV → Res
  cat : AV → AV → Option (List AV)
  inpl : Operator → AV → AV → Res
  un : UnaryOp → AV → Res
  cmp : CmpOp → AV → AV → Option Bool
  truth : AV → Option Bool
  idx : AV → AV → Res
  slice : AV → AV → AV → AV → Res
  bcall : BI → List AV → Res
  mty : MI → AV → Option String
  meth : MI → AV → List AV → Res
  items : AV → Option (List AV)
  is_ : AV → AV → Option Bool
  attr : TA → AV → Res
  ometh : OMI → List AV → List AV → Option (List AV)
/-- where may be written -/
noncomputable def Wr (σ : Store) (H : Hd) (lo : Nat) (b : Addr) : Prop := ∃ n mo, lo ≤ n ∧ σ[n]? = some (some mo) ∧ H.m n = some b
/-- a step that turns what may be turned, and makes anew -/
structure Ss (A : Around) (lo : Nat) (σ : Store) (H : Hd) (s : Shared) (σ' : Store) (H' : Hd) (s' : Shared) : Prop where
  rest : ∃ h' tk, s' = { s with heap := h', toks := tk }
  kv : Kv (FrA A) (Wr σ H lo) s.heap s'.heap
  lv : ∀ b o, s.heap.get? b = some o → ∃ o', s'.heap.get? b = some o'
  nf : Nf s.heap s'.heap
  hp : ∀ b, H.p b → H'.p b
  hid : ∀ b, H'.p b → H.p b ∨ s.heap.get? b = none
  mx : ∀ n a, H.m n = some a → H'.m n = some a
  mn : ∀ n a, H'.m n = some a → H.m n = some a ∨ (σ.length ≤ n ∧ s.heap.get? a = none)
  o : H'.o = H.o
  sto : Sto σ' H' s'.heap
  live : Live H' s'.heap
  len : σ.length ≤ σ'.length
  rv : ∀ (n : Nat) mo, n < σ.length → σ'[n]? = some (some mo) → ∃ mo', σ[n]? = some (some mo')
  hm0 : ∀ n a, H.m n = some a → n < σ.length

theorem Ss.of_kp {A : Around} {lo : Nat} {σ : Store} {H : Hd} {s s' : Shared} (k : Kp A s s') (S : Sto σ H s.heap) (L : Live H s.heap) : Ss A lo σ H s σ H s' where
  rest := let ⟨h, t, e, _⟩ := k; ⟨h, t, e⟩
  kv := k.kh.kv
  lv := fun b o e => let ⟨_, q⟩ := (k.kh b o e).2; ⟨_, q⟩
  nf := k.kh.nf
  hp := fun _ z => z
  hid := fun _ z => .inl z
  mx := fun _ _ z => z
  mn := fun _ _ z => .inl z
  o := rfl
  sto := S.kh k.kh
  live := L.kp k
  len := Nat.le_refl _
  rv := fun n mo _ e => ⟨mo, e⟩
  hm0 := S.lt
theorem Ss.vis {A : Around} {lo : Nat} {σ σ' : Store} {H H' : Hd} {s s' : Shared} (x : Ss A lo σ H s σ' H' s') (S : Sto σ H s.heap) : (vis s.heap H).Le (Mine.vis s'.heap H') := ⟨by
  rintro a c d ⟨n, o, e, r⟩
  have hw : ∀ b, Wr σ H lo b → H.p b := fun b ⟨m, mo, _, e1, e2⟩ => S.hid m b mo e1 e2
  obtain ⟨_, o', e', r'⟩ := (x.kv.vis (H := H) hw).r a c d ⟨n, o, e, r⟩
  refine ⟨fun z => ?_, o', e', r'⟩
  rcases x.hid a z with z | z
  · exact n z
  · (rw [e] at z; cases z), x.mx⟩
theorem Ss.trans {A : Around} {lo : Nat} {σ σ₁ σ₂ : Store} {H H₁ H₂ : Hd} {s s₁ s₂ : Shared} (x : Ss A lo σ H s σ₁ H₁ s₁) (y : Ss A lo σ₁ H₁ s₁ σ₂ H₂ s₂) : Ss A lo σ H s σ₂ H₂ s₂ := by
  have dead : ∀ b, s₁.heap.get? b = none → s.heap.get? b = none := fun b z => by
    cases q : s.heap.get? b with
    | none => rfl
    | some o => obtain ⟨o', e'⟩ := x.lv b o q; rw [z] at e'; cases e'
  exact {
    rest := by
      obtain ⟨h, t, rfl⟩ := x.rest
      obtain ⟨h', t', rfl⟩ := y.rest
      exact ⟨h', t', rfl⟩
    kv := fun b o n e => by
      have n1 : ¬ Wr σ₁ H₁ lo b := fun ⟨m, mo, l1, e1, e2⟩ => by
        rcases x.mn m b e2 with e2 | ⟨_, e2⟩
        · have hm := x.sto.lt m b (x.mx m b e2)
          rcases Nat.lt_or_ge m σ.length with hl | hl
          · obtain ⟨mo', e3⟩ := x.rv m mo hl e1
            exact n ⟨m, mo', l1, e3, e2⟩
          · exact n (by
              rcases Classical.em (∃ mo', σ[m]? = some (some mo')) with ⟨mo', e3⟩ | e3
              · exact ⟨m, mo', l1, e3, e2⟩
              · exact absurd e2 (fun e2 => by
                  have := x.hm0 m b e2; omega))
        · rw [e] at e2; cases e2
      obtain ⟨p1, sl, p2⟩ := x.kv b o n e
      obtain ⟨q1, sl', q2⟩ := y.kv b _ n1 p2
      exact ⟨fun f => (y.kv b o n1 (p1 f)).1 f, sl', q2⟩
    lv := fun b o e => let ⟨o', e'⟩ := x.lv b o e; y.lv b o' e'
    nf := x.nf.trans y.nf
    hp := fun b z => y.hp b (x.hp b z)
    hid := fun b z => by
      rcases y.hid b z with z | z
      · exact x.hid b z
      · exact .inr (dead b z)
    mx := fun n a z => y.mx n a (x.mx n a z)
    mn := fun n a z => by
      rcases y.mn n a z with z | ⟨z1, z2⟩
      · exact x.mn n a z
      · exact .inr ⟨Nat.le_trans x.len z1, dead a z2⟩
    o := y.o.trans x.o
    sto := y.sto
    live := y.live
    len := Nat.le_trans x.len y.len
    hm0 := x.hm0
    rv := fun n mo hl e => by
      obtain ⟨mo', e'⟩ := y.rv n mo (Nat.lt_of_lt_of_le hl x.len) e
      exact x.rv n mo' hl e' }

/-- an operand's value -/
noncomputable def RepW (H : Hd) (R : Vw) (w : Value) : OV → Prop
  | .av x => Rep R w x
  | .own i => ∃ a, H.o i = some a ∧ w = .ref a
noncomputable def RepWL (H : Hd) (R : Vw) : List Value → List OV → Prop
  | [], [] => True
  | v :: vs, x :: xs => RepW H R v x ∧ RepWL H R vs xs
  | _, _ => False
theorem RepW.ss {A : Around} {lo : Nat} {σ σ' : Store} {H H' : Hd} {s s' : Shared} (x : Ss A lo σ H s σ' H' s') (S : Sto σ H s.heap) {w : Value} : ∀ {v : OV}, RepW H (vis s.heap H) w v → RepW H' (vis s'.heap H') w v
  | .av _, r => Rep.mono (x.vis S) r
  | .own i, ⟨a, e, q⟩ => ⟨a, by rw [x.o]; exact e, q⟩
noncomputable def PostE (q : Bool) (A : Around) (lo : Nat) (σ : Store) (H : Hd) (r : ER) (s : Shared) (Q E : Value → Shared → Prop) : Prop := match r with
  | .ok v σ' => ∀ w H' s', Ss A lo σ H s σ' H' s' → RepW H' (vis s'.heap H') w v → Q w s'
  | .exc x σ' => q = true ∧ ∀ e H' sr s', Ss A lo σ H s σ' H' sr → Xp A sr s' e x → E e s'
  | .stuck => False
theorem PostE.ss {q : Bool} {A : Around} {lo : Nat} {σ σ₁ : Store} {H H₁ : Hd} {r : ER} {s s₁ : Shared} {Q E : Value → Shared → Prop} (P : PostE q A lo σ H r s Q E) (x : Ss A lo σ H s σ₁ H₁ s₁) : PostE q A lo σ₁ H₁ r s₁ Q E := by
  cases r with
  | ok v σ' => exact fun w H' s' y r => P w H' s' (x.trans y) r
  | exc z σ' => exact ⟨P.1, fun e H' sr s' y X => P.2 e H' sr s' (x.trans y) X⟩
  | stuck => exact P
/-- a tree comes to r -/
noncomputable def Ev (c : Cx) (q : Bool) (A : Around) (lo : Nat) (σ : Store) (H : Hd) (t : Sem Value) (r : ER) (s : Shared) : Prop := ∀ Q E, PostE q A lo σ H r s Q E → wpAny c.M A t Q E s
noncomputable def EvB (c : Cx) (A : Around) (lo : Nat) (σ : Store) (H : Hd) (t : Sem Bool) (r : Option (Bool × Store)) (s : Shared) : Prop := ∀ b σ', r = some (b, σ') → ∀ Q E, (∀ H' s', Ss A lo σ H s σ' H' s' → Q b s') → wpAny c.M A t Q E s
noncomputable def EvL (c : Cx) (A : Around) (lo : Nat) (σ : Store) (H : Hd) (t : Sem (List Value)) (r : Option (List OV × Store)) (s : Shared) : Prop := ∀ xs σ', r = some (xs, σ') → ∀ Q E, (∀ vs H' s', Ss A lo σ H s σ' H' s' → RepWL H' (vis s'.heap H') vs xs → Q vs s') → wpAny c.M A t Q E s
theorem Ev.stuck {c : Cx} {q : Bool} {A : Around} {lo : Nat} {σ : Store} {H : Hd} {t : Sem Value} {s : Shared} : Ev c q A lo σ H t .stuck s := fun _ _ P => P.elim
noncomputable def ofRes : Res → Store → ER
  | .ok v, σ => .ok (.av v) σ
  | .exc x, σ => .exc x σ
  | .stuck, _ => .stuck
theorem Ev.of_tr {c : Cx} {q : Bool} {A : Around} {lo : Nat} {σ : Store} {H : Hd} {t : Sem Value} {r : Res} {s : Shared} (S : Sto σ H s.heap) (L : Live H s.heap) (X : Tr c q A H t r s) : Ev c q A lo σ H t (ofRes r σ) s := fun Q E P => by
  cases r with
  | ok v => exact X Q E fun w s' k r => P w H s' (.of_kp k S L) r
  | exc x => exact X Q E ⟨P.1, fun e s' Y => P.2 e H s s' (.of_kp (Kp.refl _ _) S L) Y⟩
  | stuck => exact P.elim
/-- nothing that was there is turned -/
theorem Ss.kp {A : Around} {lo : Nat} {σ σ' : Store} {H H' : Hd} {s s' : Shared} (x : Ss A lo σ H s σ' H' s') (hl : σ.length ≤ lo) : Kp A s s' := by
  obtain ⟨h', tk, e⟩ := x.rest
  refine ⟨h', tk, e, ?_⟩
  have := x.kv
  rw [e] at this
  refine this.kh fun b o _ ⟨n, mo, l1, l2, _⟩ => ?_
  rw [List.getElem?_eq_none (by omega)] at l2; cases l2
theorem Ev.pure {c : Cx} {q : Bool} {A : Around} {lo : Nat} {σ σ' : Store} {H : Hd} {t : Sem Value} {y : AV} {s : Shared} (X : Ev c q A lo σ H t (.ok (.av y) σ') s) (hl : σ.length ≤ lo) (hs : σ'.length = σ.length) : Tr c q A H t (.ok y) s := fun Q E P => X Q E fun w H' s' x r => by
  refine P w s' (x.kp hl) (Rep.mono (vis_hide x.hp fun n a e => ?_) r)
  rcases x.mn n a e with e | ⟨e1, _⟩
  · exact e
  · have := x.sto.lt n a e; omega
theorem EvB.pure {c : Cx} {A : Around} {lo : Nat} {σ σ' : Store} {H : Hd} {t : Sem Bool} {b : Bool} {s : Shared} (X : EvB c A lo σ H t (some (b, σ')) s) (hl : σ.length ≤ lo) : TrB c A t b s := fun Q E P => X b σ' rfl Q E fun H' s' x => P s' (x.kp hl)

structure OpsOk (c : Cx) (O : OpsF) : Prop where
  ld : O.ld = !c.w.params.followText "set-order"
  bin : ∀ {q k A} {s : Shared} {H op a b va vb}, Rm c q (k + 1) A s.heap → Live H s.heap → RepO s.heap H va a → RepO s.heap H vb b → Tr c q A H (binaryOp op va vb) (O.bin op a b) s
  cat : ∀ {q k A} {s : Shared} {H a b va vb xs}, Rm c q (k + 1) A s.heap → Live H s.heap → RepO s.heap H va a → RepO s.heap H vb b → O.cat a b = some xs → xs.length ≤ 1048576 ∧ ∀ (Q E : Value → Shared → Prop),
    (∀ D vs s', Kp A s s' → s.heap.get? D = none → IsL s'.heap D vs → RepL (vis s.heap H) vs xs → Q (.ref D) s') → wpAny c.M A (binaryOp .Add va vb) Q E s
  inpl : ∀ {q k A} {s : Shared} {H op a b va vb}, Rm c q (k + 1) A s.heap → Live H s.heap → RepO s.heap H va a → RepO s.heap H vb b → Tr c q A H (inplaceOp op va vb) (O.inpl op a b) s
  un : ∀ {q k A} {s : Shared} {H op a va}, Rm c q (k + 1) A s.heap → Live H s.heap → RepO s.heap H va a → Tr c q A H (unaryOp op va) (O.un op a) s
  cmp : ∀ {q k A} {s : Shared} {H op a b va vb r}, Rm c q (k + 1) A s.heap → Live H s.heap → RepO s.heap H va a → RepO s.heap H vb b → O.cmp op a b = some r → Tr c q A H (compareOp op va vb) (.ok (.bool r)) s
  truth : ∀ {q k A} {s : Shared} {H a va r}, Rm c q (k + 1) A s.heap → Live H s.heap → RepO s.heap H va a → O.truth a = some r → TrB c A (truthy va) r s
  idx : ∀ {q k A} {s : Shared} {H a b va vb}, Rm c q (k + 1) A s.heap → Live H s.heap → RepO s.heap H va a → RepO s.heap H vb b → Tr c q A H (getItem va vb) (O.idx a b) s
  idxT : ∀ {s : Shared} {H a va b}, RepO s.heap H va a → O.idx a b ≠ .stuck → ∃ T id, s.TypeIs va T ∧ typeLookup (.type T) "__getitem__" = pure (some (.builtin id))
  slice : ∀ {q k A} {s : Shared} {H a x y z va r ux uy uz}, Rm c q (k + 1) A s.heap → Live H s.heap → RepO s.heap H va a → Rep (vis s.heap H) ux x → Rep (vis s.heap H) uy y → Rep (vis s.heap H) uz z →
    s.heap.get? r = some { cls := .type "slice", data := .fields #[ux, uy, uz] } → Tr c q A H (getItem va (.ref r)) (O.slice a x y z) s
  sliceT : ∀ {s : Shared} {H a va x y z}, RepO s.heap H va a → O.slice a x y z ≠ .stuck → ∃ T id, s.TypeIs va T ∧ typeLookup (.type T) "__getitem__" = pure (some (.builtin id))
  bcall : ∀ {q k A} {s : Shared} {H f v xs vs}, q = true → Rm c q (k + 1) A s.heap → c.h0.StaysIn s.heap → Live H s.heap → RepOL s.heap H vs xs → bootBuiltins (f.name : Str) = some v → Tr c q A H (PySem.call v vs) (O.bcall f xs) s
  itemsR : ∀ {a xs}, O.items a = some xs → (∀ n, a ≠ .ptr n) ∧ (∀ k ys, a ≠ .itr k ys) ∧ a ≠ .any
  methT : ∀ {s : Shared} {H m a va T}, RepO s.heap H va a → O.mty m a = some T → PlainAttrs T ∧ Slot T m.name (T ++ "." ++ m.name) ∧ typeOf (.builtin (T ++ "." ++ m.name)) = pure (.type "method_descriptor") ∧ s.TypeIs va T ∧ ∀ b, va = .ref b → ∃ ob, s.heap.get? b = some ob ∧ ob.dict = none
  meth : ∀ {q k A} {s : Shared} {H m a va xs vs T}, q = true → Rm c q (k + 1) A s.heap → Live H s.heap → RepO s.heap H va a → RepOL s.heap H vs xs → O.mty m a = some T → Tr c q A H (PySem.call (.builtin (T ++ "." ++ m.name)) (va :: vs)) (O.meth m a xs) s
  ometh : ∀ {q k A} {s : Shared} {H m D vs xs ws args xs'}, q = true → Rm c q (k + 1) A s.heap → Live H s.heap → IsL s.heap D vs → xs.length ≤ 1048576 → RepL (vis s.heap H) vs xs → RepL (vis s.heap H) ws args → O.ometh m xs args = some xs' → ∀ (Q E : Value → Shared → Prop),
    (∀ h' vs' tk, IsL h' D vs' → xs'.length ≤ 1048576 → RepL (vis s.heap H) vs' xs' → Heap.SameBut D s.heap h' → Q .none { s with heap := h', toks := tk }) → wpAny c.M A (PySem.call (.builtin ("list." ++ m.name)) (.ref D :: ws)) Q E s
  attr : ∀ {q k A} {s : Shared} {H n a va}, q = true → Rm c q (k + 1) A s.heap → Live H s.heap → RepO s.heap H va a → Tr c q A H (getAttr va (n.name : Str) true) (O.attr n a) s
  is_ : ∀ {q k A} {s : Shared} {H op a b va vb r σ}, Rm c q (k + 1) A s.heap → Sto σ H s.heap → Rep (vis s.heap H) va a → Rep (vis s.heap H) vb b → O.is_ a b = some r → (op = .Is ∨ op = .IsNot) → Tr c q A H (compareOp op va vb) (.ok (.bool (if op = .Is then r else !r))) s
  items : ∀ {q k A} {s : Shared} {H a va xs}, Rm c q (k + 1) A s.heap → q = true → Live H s.heap → RepO s.heap H va a → O.items a = some xs → ∀ Q E,
    (∀ I fp P St h' tk, (∀ b o, s.heap.get? b = some o → h'.get? b = some o) → s.heap.get? I = none → fp I → (∀ b, fp b → ∃ o, h'.get? b = some o) → (∀ b, fp b → b = I ∨ va = .ref b) → xs.length ≤ 1048576 → Itr c A I fp P xs.length St → St 0 h' →
      (∀ (i : Nat) v x, P i v → xs[i]? = some x → Rep (vis s.heap H) v x) → Q (.ref I) { s with heap := h', toks := tk }) → wpAny c.M A (pyIter va) Q E s
noncomputable def FnObj (c : Cx) (f : Str) : Prop := ∃ a o fd, c.mg f = some (.ref a) ∧ c.h0.get? a = some o ∧ o.data = .func fd
/-- a def's contract -/
noncomputable def Calls (c : Cx) (k : Nat) (f : Str) (σ : Store) (lo : Nat) (args : List AV) (r : ER) : Prop :=
  ∀ A s H vs a, Rm c true k A s.heap → c.h0.StaysIn s.heap → Live H s.heap → Sto σ H s.heap → (∀ n a, H.m n = some a → c.h0.get? a = none) → RepL (vis s.heap H) vs args → c.mg f = some (.ref a) → Ev c true A lo σ H (call (.ref a) vs) r s
/-- the defs that may be called -/
abbrev Cal := Store → Nat → Nat → List AV → ER
structure CallsOk (c : Cx) (k : Nat) (call : Cal) (fname : Nat → Str) : Prop where
  ok : ∀ σ lo f args, call σ lo f args ≠ .stuck → Calls c k (fname f) σ lo args (call σ lo f args) ∧ FnObj c (fname f)

structure PR where
  v : ER
  t : Option (Bool × Store)

noncomputable def derefS (ρ : List (Option Ent)) (σ : Store) : OV → AV
  | .own i => match ρ[i]? with
    | some (some (.own xs)) => .lst xs
    | _ => .any
  | .av x => deref σ x
noncomputable def ER.bind : ER → (OV → Store → ER) → ER
  | .ok v σ, f => f v σ
  | .exc x σ, _ => .exc x σ
  | .stuck, _ => .stuck
noncomputable def ER.bindA : ER → (AV → Store → ER) → ER
  | .ok (.av v) σ, f => f v σ
  | .ok (.own _) _, _ => .stuck
  | .exc x σ, _ => .exc x σ
  | .stuck, _ => .stuck
noncomputable def ofB : Option Bool → Store → ER
  | some b, σ => .ok (.av (.bool b)) σ
  | none, _ => .stuck
noncomputable def ER.truth (tr : AV → Option Bool) (ρ : List (Option Ent)) : ER → Option (Bool × Store)
  | .ok v σ => (tr (derefS ρ σ v)).map fun b => (b, σ)
  | _ => none
noncomputable def PR.of (tr : AV → Option Bool) (ρ : List (Option Ent)) (r : ER) : PR := ⟨r, r.truth tr ρ⟩
noncomputable def plains : List OV → Option (List AV)
  | [] => some []
  | .av x :: r => (plains r).map (x :: ·)
  | .own _ :: _ => none
noncomputable def onL (x : Option (List OV × Store)) (f : List OV → Store → ER) : ER := match x with
  | some (l, σ) => f l σ
  | none => .stuck
noncomputable def onP (x : Option (List OV × Store)) (f : List AV → Store → ER) : ER := onL x fun l σ => match plains l with
  | some l => f l σ
  | none => .stuck
noncomputable def mapF (f : AV → Option (Option AV)) : List AV → Option (List AV)
  | [] => some []
  | x :: r => match f x with
    | some (some y) => (mapF f r).map (y :: ·)
    | some none => mapF f r
    | none => none
noncomputable def mask (caps : List Nat) (ρ : List (Option Ent)) : List (Option Ent) := ρ.mapIdx fun i e => if caps.contains i then e else none
noncomputable def elemF (n : Nat) : ER → Option AV
  | .ok (.av v) σ => if σ.length = n then some v else none
  | _ => none
noncomputable def compF (n : Nat) (t : Option (Bool × Store)) (e : ER) : Option (Option AV) := match t with
  | some (true, _) => (elemF n e).map some
  | some (false, _) => some none
  | none => none

/-- the state within a comprehension -/
noncomputable def Fs.inner (st : Fs) (caps : List Nat) (x : AV) : Fs := ⟨mask caps st.ρ ++ [some (.val x)], st.σ, st.σ.length, st.n0⟩
abbrev Fs.at (st : Fs) (σ : Store) : Fs := { st with σ := σ }
noncomputable def slotV (st : Fs) (i : Nat) : ER := match st.ρ[i]? with
  | some (some (.val v)) => .ok (.av v) st.σ
  | some (some (.own _)) => .ok (.own i) st.σ
  | _ => .stuck
/-- a list made anew stands in the store -/
noncomputable def catF (x : Option (List AV)) (r : Res) (σ : Store) : ER := match x with
  | some xs => .ok (.av (.ptr σ.length)) (σ ++ [some (.lst xs)])
  | none => ofRes r σ
noncomputable def onItems (x : Option (List AV)) (f : List AV → ER) : ER := match x with
  | some l => f l
  | none => .stuck
section
variable (O : OpsF) (cal : Cal) (q : Bool)
mutual
noncomputable def pe (st : Fs) : PE → PR
  | .const v => .of O.truth st.ρ (.ok (.av v) st.σ)
  | .name i => .of O.truth st.ρ (slotV st i)
  | .glob b => .of O.truth st.ρ (.ok (.av (.type b.name)) st.σ)
  | .bin op l r => .of O.truth st.ρ ((pe st l).v.bind fun a σ₁ => (pe (st.at σ₁) r).v.bind fun b σ₂ => ofRes (O.bin op (derefS st.ρ σ₂ a) (derefS st.ρ σ₂ b)) σ₂)
  | .un op x => ⟨(pe st x).v.bind fun a σ₁ => ofRes (O.un op (derefS st.ρ σ₁ a)) σ₁, match op with | .Not => (pe st x).t.map fun p => (!p.1, p.2) | _ => ((pe st x).v.bind fun a σ₁ => ofRes (O.un op (derefS st.ρ σ₁ a)) σ₁).truth O.truth st.ρ⟩
  | .cmp op l r => .of O.truth st.ρ (match op with
    | .Is => (pe st l).v.bindA fun a σ₁ => (pe (st.at σ₁) r).v.bindA fun b σ₂ => ofB (O.is_ a b) σ₂
    | .IsNot => (pe st l).v.bindA fun a σ₁ => (pe (st.at σ₁) r).v.bindA fun b σ₂ => ofB ((O.is_ a b).map (!·)) σ₂
    | op => (pe st l).v.bind fun a σ₁ => (pe (st.at σ₁) r).v.bind fun b σ₂ => ofB (O.cmp op (derefS st.ρ σ₂ a) (derefS st.ρ σ₂ b)) σ₂)
  | .bop op xs => ⟨pbop st op xs, pall st op xs⟩
  | .ife t a b => match (pe st t).t with
    | some (true, σ₁) => pe (st.at σ₁) a
    | some (false, σ₁) => pe (st.at σ₁) b
    | none => ⟨.stuck, none⟩
  | .list xs => .of O.truth st.ρ (onP (pes st xs) fun l σ₁ => if l.length ≤ 100 then .ok (.av (.lst l)) σ₁ else .stuck)
  | .tup xs => .of O.truth st.ρ (onP (pes st xs) fun l σ₁ => if l.length ≤ 100 then .ok (.av (.tup l)) σ₁ else .stuck)
  | .sub o i => .of O.truth st.ρ ((pe st o).v.bind fun a σ₁ => (pe (st.at σ₁) i).v.bind fun b σ₂ => ofRes (O.idx (derefS st.ρ σ₂ a) (derefS st.ρ σ₂ b)) σ₂)
  | .slice o a b s => .of O.truth st.ρ ((pe st o).v.bind fun v σ₁ => (pe (st.at σ₁) a).v.bindA fun x σ₂ => (pe (st.at σ₂) b).v.bindA fun y σ₃ => (pe (st.at σ₃) s).v.bindA fun z σ₄ => ofRes (O.slice (derefS st.ρ σ₄ v) x y z) σ₄)
  | .call f xs => .of O.truth st.ρ (match q with | true => onP (pes st xs) fun l σ₁ => cal σ₁ st.lo f l | false => .stuck)
  | .bcall f xs => .of O.truth st.ρ (match q with | true => onL (pes st xs) fun l σ₁ => ofRes (O.bcall f (l.map (derefS st.ρ σ₁))) σ₁ | false => .stuck)
  | .meth o m xs => .of O.truth st.ρ (match q with
    | true => (pe st o).v.bind fun a σ₁ => onL (pes (st.at σ₁) xs) fun l σ₂ => (match O.mty m (derefS st.ρ σ₁ a), O.mty m (derefS st.ρ σ₂ a) with
      | some T, some T' => if T = T' then ofRes (O.meth m (derefS st.ρ σ₂ a) (l.map (derefS st.ρ σ₂))) σ₂ else .stuck
      | _, _ => .stuck)
    | false => .stuck)
  | .comp caps elt src conds => .of O.truth st.ρ (match q with
    | true => (pe st src).v.bind fun a σ₁ => onItems (O.items (derefS st.ρ σ₁ a)) fun l =>
      onItems (mapF (fun x => compF σ₁.length (pall ((st.at σ₁).inner caps x) .And conds) (pe ((st.at σ₁).inner caps x) elt).v) l) fun ys => .ok (.av (.lst ys)) σ₁
    | false => .stuck)
  | .compc caps elt src conds => .of O.truth st.ρ (match q with
    | true => (pe st src).v.bind fun a σ₁ => onItems (O.items (derefS st.ρ σ₁ a)) fun l =>
      onItems (mapF (fun x => compF σ₁.length (pall ((st.at σ₁).inner caps x) .And conds) (pe ((st.at σ₁).inner caps x) elt).v) l) fun ys => .ok (.av (.lst ys)) σ₁
    | false => .stuck)
  | .cat l r => .of O.truth st.ρ ((pe st l).v.bind fun a σ₁ => (pe (st.at σ₁) r).v.bind fun b σ₂ => catF (O.cat (derefS st.ρ σ₂ a) (derefS st.ρ σ₂ b)) (O.bin .Add (derefS st.ρ σ₂ a) (derefS st.ρ σ₂ b)) σ₂)
  | .setd x => .of O.truth st.ρ ((pe st x).v.bindA fun a σ₁ => match a with | .int i => (if 0 ≤ i ∧ i < 32 then .ok (.av (.set false O.ld [i])) σ₁ else .stuck) | _ => .stuck)
  | .attr x n => .of O.truth st.ρ (match q with | true => (pe st x).v.bind fun a σ₁ => ofRes (O.attr n (derefS st.ρ σ₁ a)) σ₁ | false => .stuck)
noncomputable def pes (st : Fs) : PEs → Option (List OV × Store)
  | .nil => some ([], st.σ)
  | .cons e es => match (pe st e).v with
    | .ok v σ₁ => (match pes (st.at σ₁) es with
      | some (l, σ₂) => some (v :: l, σ₂)
      | none => none)
    | _ => none
noncomputable def pall (st : Fs) (op : BoolOp) : PEs → Option (Bool × Store)
  | .nil => some (op == .And, st.σ)
  | .cons e es => match op, (pe st e).t with
    | .And, some (false, σ₁) => some (false, σ₁)
    | .Or, some (true, σ₁) => some (true, σ₁)
    | .And, some (true, σ₁) => pall (st.at σ₁) .And es
    | .Or, some (false, σ₁) => pall (st.at σ₁) .Or es
    | _, none => none
noncomputable def pbop (st : Fs) (op : BoolOp) : PEs → ER
  | .nil => .stuck
  | .cons e .nil => (pe st e).v
  | .cons e (.cons e' es) => (pe st e).v.bind fun v σ₁ => match op, O.truth (derefS st.ρ σ₁ v) with
    | .And, some false => .ok v σ₁
    | .Or, some true => .ok v σ₁
    | .And, some true => pbop (st.at σ₁) .And (.cons e' es)
    | .Or, some false => pbop (st.at σ₁) .Or (.cons e' es)
    | _, none => .stuck
end
end
/- equations -/
section
variable {O : OpsF} {cal : Cal} {q : Bool} {st : Fs}
theorem qe_const {v} : pe O cal q st (.const v) = .of O.truth st.ρ (.ok (.av v) st.σ) := rfl
theorem qe_name {i} : pe O cal q st (.name i) = .of O.truth st.ρ (slotV st i) := rfl
theorem qe_glob {b} : pe O cal q st (.glob b) = .of O.truth st.ρ (.ok (.av (.type b.name)) st.σ) := rfl
theorem qe_bin {op l r} : pe O cal q st (.bin op l r) = .of O.truth st.ρ ((pe O cal q st l).v.bind fun a σ₁ => (pe O cal q (st.at σ₁) r).v.bind fun b σ₂ => ofRes (O.bin op (derefS st.ρ σ₂ a) (derefS st.ρ σ₂ b)) σ₂) := rfl
theorem qe_un {op x} : pe O cal q st (.un op x) = ⟨(pe O cal q st x).v.bind fun a σ₁ => ofRes (O.un op (derefS st.ρ σ₁ a)) σ₁, match op with | .Not => (pe O cal q st x).t.map fun p => (!p.1, p.2) | _ => ((pe O cal q st x).v.bind fun a σ₁ => ofRes (O.un op (derefS st.ρ σ₁ a)) σ₁).truth O.truth st.ρ⟩ := rfl
theorem qe_cmp {op l r} : pe O cal q st (.cmp op l r) = .of O.truth st.ρ (match op with
    | .Is => (pe O cal q st l).v.bindA fun a σ₁ => (pe O cal q (st.at σ₁) r).v.bindA fun b σ₂ => ofB (O.is_ a b) σ₂
    | .IsNot => (pe O cal q st l).v.bindA fun a σ₁ => (pe O cal q (st.at σ₁) r).v.bindA fun b σ₂ => ofB ((O.is_ a b).map (!·)) σ₂
    | op => (pe O cal q st l).v.bind fun a σ₁ => (pe O cal q (st.at σ₁) r).v.bind fun b σ₂ => ofB (O.cmp op (derefS st.ρ σ₂ a) (derefS st.ρ σ₂ b)) σ₂) := rfl
theorem qe_bop {op xs} : pe O cal q st (.bop op xs) = ⟨pbop O cal q st op xs, pall O cal q st op xs⟩ := rfl
theorem qe_ife {t a b} : pe O cal q st (.ife t a b) = match (pe O cal q st t).t with
    | some (true, σ₁) => pe O cal q (st.at σ₁) a
    | some (false, σ₁) => pe O cal q (st.at σ₁) b
    | none => ⟨.stuck, none⟩ := rfl
theorem qe_list {xs} : pe O cal q st (.list xs) = .of O.truth st.ρ (onP (pes O cal q st xs) fun l σ₁ => if l.length ≤ 100 then .ok (.av (.lst l)) σ₁ else .stuck) := rfl
theorem qe_tup {xs} : pe O cal q st (.tup xs) = .of O.truth st.ρ (onP (pes O cal q st xs) fun l σ₁ => if l.length ≤ 100 then .ok (.av (.tup l)) σ₁ else .stuck) := rfl
theorem qe_sub {o i} : pe O cal q st (.sub o i) = .of O.truth st.ρ ((pe O cal q st o).v.bind fun a σ₁ => (pe O cal q (st.at σ₁) i).v.bind fun b σ₂ => ofRes (O.idx (derefS st.ρ σ₂ a) (derefS st.ρ σ₂ b)) σ₂) := rfl
theorem qe_slice {o a b s} : pe O cal q st (.slice o a b s) = .of O.truth st.ρ ((pe O cal q st o).v.bind fun v σ₁ => (pe O cal q (st.at σ₁) a).v.bindA fun x σ₂ => (pe O cal q (st.at σ₂) b).v.bindA fun y σ₃ => (pe O cal q (st.at σ₃) s).v.bindA fun z σ₄ => ofRes (O.slice (derefS st.ρ σ₄ v) x y z) σ₄) := rfl
theorem qe_call {f xs} : pe O cal q st (.call f xs) = .of O.truth st.ρ (match q with | true => onP (pes O cal q st xs) fun l σ₁ => cal σ₁ st.lo f l | false => .stuck) := rfl
theorem qe_bcall {f xs} : pe O cal q st (.bcall f xs) = .of O.truth st.ρ (match q with | true => onL (pes O cal q st xs) fun l σ₁ => ofRes (O.bcall f (l.map (derefS st.ρ σ₁))) σ₁ | false => .stuck) := rfl
theorem qe_meth {o m xs} : pe O cal q st (.meth o m xs) = .of O.truth st.ρ (match q with
    | true => (pe O cal q st o).v.bind fun a σ₁ => onL (pes O cal q (st.at σ₁) xs) fun l σ₂ => (match O.mty m (derefS st.ρ σ₁ a), O.mty m (derefS st.ρ σ₂ a) with
      | some T, some T' => if T = T' then ofRes (O.meth m (derefS st.ρ σ₂ a) (l.map (derefS st.ρ σ₂))) σ₂ else .stuck
      | _, _ => .stuck)
    | false => .stuck) := rfl
theorem qe_comp {caps elt src conds} : pe O cal q st (.comp caps elt src conds) = .of O.truth st.ρ (match q with
    | true => (pe O cal q st src).v.bind fun a σ₁ => onItems (O.items (derefS st.ρ σ₁ a)) fun l =>
      onItems (mapF (fun x => compF σ₁.length (pall O cal q ((st.at σ₁).inner caps x) .And conds) (pe O cal q ((st.at σ₁).inner caps x) elt).v) l) fun ys => .ok (.av (.lst ys)) σ₁
    | false => .stuck) := rfl
theorem qe_compc {caps elt src conds} : pe O cal q st (.compc caps elt src conds) = .of O.truth st.ρ (match q with
    | true => (pe O cal q st src).v.bind fun a σ₁ => onItems (O.items (derefS st.ρ σ₁ a)) fun l =>
      onItems (mapF (fun x => compF σ₁.length (pall O cal q ((st.at σ₁).inner caps x) .And conds) (pe O cal q ((st.at σ₁).inner caps x) elt).v) l) fun ys => .ok (.av (.lst ys)) σ₁
    | false => .stuck) := rfl
theorem qe_cat {l r} : pe O cal q st (.cat l r) = .of O.truth st.ρ ((pe O cal q st l).v.bind fun a σ₁ => (pe O cal q (st.at σ₁) r).v.bind fun b σ₂ => catF (O.cat (derefS st.ρ σ₂ a) (derefS st.ρ σ₂ b)) (O.bin .Add (derefS st.ρ σ₂ a) (derefS st.ρ σ₂ b)) σ₂) := rfl
theorem qe_setd {x} : pe O cal q st (.setd x) = .of O.truth st.ρ ((pe O cal q st x).v.bindA fun a σ₁ => match a with | .int i => (if 0 ≤ i ∧ i < 32 then .ok (.av (.set false O.ld [i])) σ₁ else .stuck) | _ => .stuck) := rfl
theorem qe_attr {x n} : pe O cal q st (.attr x n) = .of O.truth st.ρ (match q with | true => (pe O cal q st x).v.bind fun a σ₁ => ofRes (O.attr n (derefS st.ρ σ₁ a)) σ₁ | false => .stuck) := rfl
theorem qes_nil : pes O cal q st .nil = some ([], st.σ) := rfl
theorem qes_cons {e es} : pes O cal q st (.cons e es) = match (pe O cal q st e).v with
    | .ok v σ₁ => (match pes O cal q (st.at σ₁) es with
      | some (l, σ₂) => some (v :: l, σ₂)
      | none => none)
    | _ => none := rfl
end
/- equations end -/
end Mine
end
section
open PySem PySem.W PyProof.Rows
namespace Mine

theorem closure_ok {env : Env} : ∀ (names : List (Str × NameKind)) (acc : List (Str × Addr)), (∀ y, (y, NameKind.free) ∈ names → (env.cells.lookup y).isSome = true) →
    ∃ cl, (forIn names acc fun (p : Str × NameKind) (cs : List (Str × Addr)) => (if (p.2 == NameKind.free) = true then do let a ← cellOf env p.1; pure (ForInStep.yield ((p.1, a) :: cs)) else pure (ForInStep.yield cs) : Sem (ForInStep (List (Str × Addr))))) = pure cl ∧
      (∀ y cc, cl.lookup y = some cc → (env.cells.lookup y = some cc ∧ (y, NameKind.free) ∈ names) ∨ acc.lookup y = some cc) ∧ (∀ y, (y, NameKind.free) ∈ names ∨ (∃ cc, acc.lookup y = some cc ∧ env.cells.lookup y = some cc) → cl.lookup y = env.cells.lookup y)
  | [], acc, _ => ⟨acc, by rw [List.forIn_nil], fun _ _ e => .inr e, fun y h => by
      rcases h with h | ⟨cc, a, b⟩
      · cases h
      · rw [a, b]⟩
  | (n, kd) :: r, acc, h => by
    rw [List.forIn_cons]
    by_cases hk : (kd == NameKind.free) = true
    · have hkf : kd = .free := by simpa using hk
      subst hkf
      obtain ⟨a, ha⟩ := Option.isSome_iff_exists.mp (h n (List.mem_cons_self ..))
      obtain ⟨cl, e, p1, p2⟩ := closure_ok r ((n, a) :: acc) fun y hy => h y (List.mem_cons_of_mem _ hy)
      refine ⟨cl, ?_, fun y cc q => ?_, fun y hy => ?_⟩
      · simp only [beq_self_eq_true, if_true]
        have : cellOf env n = pure a := by unfold cellOf; rw [ha]
        rw [this]
        simpa using e
      · rcases p1 y cc q with q | q
        · exact .inl ⟨q.1, List.mem_cons_of_mem _ q.2⟩
        · rw [List.lookup_cons] at q
          cases hb : y == n with
          | true => rw [hb] at q; cases q; rw [beq_iff_eq.mp hb]; exact .inl ⟨ha, List.mem_cons_self ..⟩
          | false => rw [hb] at q; exact .inr q
      · refine p2 y ?_
        by_cases hyn : y = n
        · subst hyn; exact .inr ⟨a, by simp, ha⟩
        · rcases hy with hy | ⟨cc, q1, q2⟩
          · rcases List.mem_cons.mp hy with e' | hy
            · cases e'; exact absurd rfl hyn
            · exact .inl hy
          · refine .inr ⟨cc, ?_, q2⟩
            rw [List.lookup_cons]
            have : (y == n) = false := by simpa using hyn
            rw [this]; exact q1
    · obtain ⟨cl, e, p1, p2⟩ := closure_ok r acc fun y hy => h y (List.mem_cons_of_mem _ hy)
      refine ⟨cl, ?_, fun y cc q => (p1 y cc q).imp (fun z => ⟨z.1, List.mem_cons_of_mem _ z.2⟩) id, fun y hy => p2 y ?_⟩
      · rw [if_neg hk]; simpa using e
      · rcases hy with hy | hy
        · rcases List.mem_cons.mp hy with e' | hy
          · cases e'; exact absurd rfl hk
          · exact .inl hy
        · exact .inr hy
theorem closureFor_ok3 {env : Env} {scope : Scope} (h : ∀ y, (y, NameKind.free) ∈ scope.names → (env.cells.lookup y).isSome = true) :
    ∃ cl, closureFor scope env = pure cl ∧ (∀ y cc, cl.lookup y = some cc → env.cells.lookup y = some cc) ∧ (∀ y, (y, NameKind.free) ∈ scope.names → cl.lookup y = env.cells.lookup y) ∧ ∀ y cc, cl.lookup y = some cc → (y, NameKind.free) ∈ scope.names := by
  obtain ⟨cl, e, p1, p2⟩ := closure_ok scope.names [] h
  refine ⟨cl, ?_, fun y cc q => (p1 y cc q).elim (·.1) fun q => by simp at q, fun y hy => p2 y (.inl hy), fun y cc q => (p1 y cc q).elim (·.2) fun q => by simp at q⟩
  unfold closureFor
  simp only [bind_pure_comp] at e ⊢
  first
    | (rw [← e]; done)
    | (simpa using e)
/-- the tests of a comprehension -/
abbrev testsOf (ifs : List Expr) (env : Env) : Sem Bool := forIn ifs true fun c r => if r = true then do let ok ← isTrue c env (eval c env); pure (ForInStep.yield ok) else pure (ForInStep.yield r)

end Mine
end
section
open PySem PySem.W PyProof.Rows
namespace Mine

theorem lookup_relabel_free {env : Env} (hk : env.scope.kind = .function) : ∀ {names : List (Str × NameKind)} {x : Str}, names.lookup x = some .free → env.kindOf x = some .cell →
    (names.map fun (n, k) => if (k == NameKind.free && env.scope.kind == .function && env.kindOf n == some .cell) then (n, NameKind.cell) else (n, k)).lookup x = some .cell
  | [], _, h, _ => by simp at h
  | (n, k) :: r, x, h, hc => by
    have ih := @lookup_relabel_free env hk r x
    show List.lookup x ((if (k == NameKind.free && env.scope.kind == .function && env.kindOf n == some .cell) = true then (n, NameKind.cell) else (n, k)) :: _) = _
    cases hx : x == n with
    | true =>
      simp only [List.lookup_cons, hx] at h
      cases h
      have e : x = n := beq_iff_eq.mp hx
      subst e
      have : (NameKind.free == NameKind.free && env.scope.kind == .function && env.kindOf x == some .cell) = true := by rw [hk, hc]; decide
      rw [if_pos this]
      simp [List.lookup_cons]
    | false =>
      simp only [List.lookup_cons, hx] at h
      by_cases hcc : (k == NameKind.free && env.scope.kind == .function && env.kindOf n == some .cell) = true
      · rw [if_pos hcc]; simp only [List.lookup_cons, hx]; exact ih h hc
      · rw [if_neg hcc]; simp only [List.lookup_cons, hx]; exact ih h hc
theorem lookup_relabel_cell {env : Env} : ∀ {names : List (Str × NameKind)} {x : Str}, (∀ y ∈ names, y.2 ≠ .cell) →
    (names.map fun (n, k) => if (k == NameKind.free && env.scope.kind == .function && env.kindOf n == some .cell) then (n, NameKind.cell) else (n, k)).lookup x = some .cell → (x, NameKind.free) ∈ names ∧ env.kindOf x = some .cell
  | [], _, _, h => by simp at h
  | (n, k) :: r, x, hno, h => by
    have ih := @lookup_relabel_cell env r x fun y hy => hno y (List.mem_cons_of_mem _ hy)
    have h : List.lookup x ((if (k == NameKind.free && env.scope.kind == .function && env.kindOf n == some .cell) = true then (n, NameKind.cell) else (n, k)) :: (r.map fun (n, k) => if (k == NameKind.free && env.scope.kind == .function && env.kindOf n == some .cell) then (n, NameKind.cell) else (n, k))) = some .cell := h
    cases hx : x == n with
    | true =>
      have e : x = n := beq_iff_eq.mp hx
      subst e
      by_cases hcc : (k == NameKind.free && env.scope.kind == .function && env.kindOf x == some .cell) = true
      · simp only [Bool.and_eq_true, beq_iff_eq] at hcc
        obtain ⟨⟨h1, _⟩, h3⟩ := hcc
        subst h1
        exact ⟨List.mem_cons_self .., h3⟩
      · rw [if_neg hcc] at h
        simp only [List.lookup_cons, hx] at h
        cases h
        exact absurd rfl (hno (x, NameKind.cell) (List.mem_cons_self ..))
    | false =>
      have : List.lookup x (r.map fun (n, k) => if (k == NameKind.free && env.scope.kind == .function && env.kindOf n == some .cell) then (n, NameKind.cell) else (n, k)) = some .cell := by
        by_cases hcc : (k == NameKind.free && env.scope.kind == .function && env.kindOf n == some .cell) = true
        · rw [if_pos hcc] at h; simpa only [List.lookup_cons, hx] using h
        · rw [if_neg hcc] at h; simpa only [List.lookup_cons, hx] using h
      exact ⟨List.mem_cons_of_mem _ (ih this).1, (ih this).2⟩

theorem vis_new {Fr : Addr → Prop} {H H₃ : Hd} {h h₂ : Heap} (k : Kh Fr h h₂) (hN : ∀ b, H₃.p b → H.p b ∨ h.get? b = none) (hM : ∀ n a, H.m n = some a → H₃.m n = some a) : (vis h H).Le (vis h₂ H₃) := ⟨by
  rintro a c d ⟨n, o, e, r⟩
  obtain ⟨_, o', e', r'⟩ := (k.vis (H := H)).r a c d ⟨n, o, e, r⟩
  refine ⟨fun z => ?_, o', e', r'⟩
  rcases hN a z with z | z
  · exact n z
  · (rw [e] at z; cases z), hM⟩
theorem Sto.new {Fr : Addr → Prop} {σ : Store} {H H₃ : Hd} {h h₂ : Heap} (S : Sto σ H h) (k : Kh Fr h h₂) (hH : ∀ b, H.p b → H₃.p b) (hN : ∀ b, H₃.p b → H.p b ∨ h.get? b = none) (hM : H₃.m = H.m) : Sto σ H₃ h₂ where
  at' := fun n mo e => let ⟨a, q, r⟩ := S.at' n mo e; ⟨a, by rw [hM]; exact q, r.kv (k.kv (W := fun _ => False)) id (vis_new k hN fun n a e => by rw [hM]; exact e)⟩
  inj := fun n n' a e e' => S.inj n n' a (by rw [← hM]; exact e) (by rw [← hM]; exact e')
  lt := fun n a e => S.lt n a (by rw [← hM]; exact e)
  hid := fun n a mo q e => hH a (S.hid n a mo q (by rw [← hM]; exact e))
  al := fun n a e => let ⟨_, q⟩ := S.al n a (by rw [← hM]; exact e); let ⟨_, q'⟩ := (k a _ q).2; ⟨_, q'⟩
  tot := fun n a e => S.tot n a (by rw [← hM]; exact e)

theorem mask_get {caps : List Nat} {ρ : List (Option Ent)} {i : Nat} {t : Ent} (h : (mask caps ρ)[i]? = some (some t)) : i ∈ caps ∧ ρ[i]? = some (some t) := by
  unfold mask at h
  rw [List.getElem?_mapIdx] at h
  cases q : ρ[i]? with
  | none => rw [q] at h; simp at h
  | some e =>
    rw [q] at h
    simp only [Option.map_some, Option.some.injEq] at h
    split at h
    · rename_i hc
      exact ⟨by simpa using hc, by rw [h]⟩
    · cases h
theorem mask_length {caps : List Nat} {ρ : List (Option Ent)} : (mask caps ρ).length = ρ.length := by simp [mask]

structure CompOk (names : List Str) (env : Env) (scope : Scope) (x : Str) (caps : List Nat) : Prop where
  cell : ∀ y ∈ scope.names, y.2 ≠ .cell
  kind : scope.kind = .function
  loc : ∀ y ∈ scope.names, y.2 = .local → scope.names.lookup y.1 = some .local
  var : scope.names.lookup x = some .local
  free : ∀ y, (y, NameKind.free) ∈ scope.names → env.kindOf y = some .cell
  cap : ∀ i ∈ caps, ∀ y, names[i]? = some y → scope.names.lookup y = some .free

theorem comp_fm {c : Cx} {Fr : Addr → Prop} {names : List Str} {env cenv : Env} {st : Fs} {fe : FE} {H H₃ : Hd} {h h₂ : Heap} {scope : Scope} {x : Str} {caps : List Nat} {m : Str → Option Value} {v : Value} {item : AV}
    (F : Fm c Fr names env st fe H h) (hlen : st.ρ.length = names.length) (K : CompOk names env scope x caps) (k : Kh Fr h h₂) (hH : ∀ b, H.p b → H₃.p b) (hN : ∀ b, H₃.p b → H.p b ∨ h.get? b = none) (hM : H₃.m = H.m) (hO : H₃.o = H.o) (hL : Live H₃ h₂)
    (hC : h₂.Ns cenv.locals m) (hCH : H₃.p cenv.locals) (hCn : h.get? cenv.locals = none) (hmx : m x = some v) (hr : Rep (vis h₂ H₃) v item) (hsc : cenv.scope = relabel scope env) (hg : cenv.globals = env.globals) (hb : cenv.builtins = env.builtins) (hcd : cenv.code = env.code)
    (hcl1 : ∀ y cc, cenv.cells.lookup y = some cc → env.cells.lookup y = some cc) (hcl2 : ∀ y, (y, NameKind.free) ∈ scope.names → cenv.cells.lookup y = env.cells.lookup y) :
    Fm c Fr (names ++ [x]) cenv (st.inner caps item) fe H₃ h₂ := by
  have kx : cenv.kindOf x = some .local := by
    show cenv.scope.names.lookup x = some .local
    rw [hsc]; exact lookup_relabel_local K.var
  have kc : ∀ y, scope.names.lookup y = some .free → cenv.kindOf y = some .cell := fun y hy => by
    show cenv.scope.names.lookup y = some .cell
    rw [hsc]; exact lookup_relabel_free F.kind hy (K.free y (mem_of_lookup hy))
  have get : ∀ (i : Nat) y t, (names ++ [x])[i]? = some y → (mask caps st.ρ ++ [some (Ent.val item)])[i]? = some (some t) → (i = names.length ∧ y = x ∧ t = .val item) ∨ (i < names.length ∧ names[i]? = some y ∧ i ∈ caps ∧ st.ρ[i]? = some (some t)) := by
    intro i y t h1 h2
    by_cases hi : i < names.length
    · rw [List.getElem?_append_left hi] at h1
      rw [List.getElem?_append_left (by rw [mask_length, hlen]; exact hi)] at h2
      exact .inr ⟨hi, h1, mask_get h2⟩
    · have hge : names.length ≤ i := Nat.le_of_not_lt hi
      rw [List.getElem?_append_right hge] at h1
      rw [List.getElem?_append_right (by rw [mask_length, hlen]; exact hge), mask_length, hlen] at h2
      cases hz : i - names.length with
      | zero => rw [hz] at h1 h2; simp at h1 h2; exact .inl ⟨by omega, h1.symm, h2.symm⟩
      | succ n => rw [hz] at h1; simp at h1
  have kn : ∀ {b}, h₂.get? b = none → fe.h.get? b = none → True := fun _ _ => trivial
  exact {
    keep := F.keep.trans k.kv
    wsub := F.wsub
    base := F.base
    baseF := F.baseF
    basew := F.basew
    hle := fun b q => hH b (F.hle b q)
    mle := fun n a e => by rw [hM]; exact F.mle n a e
    mold := fun n a l e => F.mold n a l (by rw [← hM]; exact e)
    mnew := fun n a l e => F.mnew n a l (by rw [← hM]; exact e)
    mw := fun n a mo l l' q e => absurd (Nat.lt_of_lt_of_le l F.n0le) (Nat.not_lt.mpr l')
    hlt := hL
    felt := F.felt
    wlt := F.wlt
    kind := by rw [hsc]; exact K.kind
    glob := hg.trans F.glob
    bi := hb.trans F.bi
    code := by rw [hcd]; exact F.code
    ns := ⟨m, hC⟩
    hl := hCH
    lnew := by
      cases e : fe.h.get? cenv.locals with
      | none => rfl
      | some o =>
        exfalso
        by_cases hw : fe.w cenv.locals
        · obtain ⟨o', e'⟩ := F.hlt _ (F.hle _ (F.wsub _ hw))
          rw [hCn] at e'; cases e'
        · obtain ⟨sl, e'⟩ := (F.keep _ o hw e).2
          rw [hCn] at e'; cases e'
    hc := fun y cc qk q => by
      have qk : cenv.scope.names.lookup y = some .cell := qk
      rw [hsc] at qk
      obtain ⟨_, q2⟩ := lookup_relabel_cell K.cell qk
      obtain ⟨a, b⟩ := F.hc y cc q2 (hcl1 y cc q)
      exact ⟨hH _ a, b⟩
    cl := fun y q => by
      have q : cenv.scope.names.lookup y = some .cell := q
      rw [hsc] at q
      obtain ⟨q1, q2⟩ := lookup_relabel_cell K.cell q
      obtain ⟨cc, w, e, n⟩ := F.cl y q2
      exact ⟨cc, w, (hcl2 y q1).trans e, k.cell n⟩
    capart := fun y z cc a b => F.capart y z cc (hcl1 y cc a) (hcl1 z cc b)
    vals := fun i y t h1 h2 => by
      rcases get i y t h1 h2 with ⟨_, rfl, rfl⟩ | ⟨_, n1, n2, n3⟩
      · exact ⟨v, .inl ⟨kx, m, hC, hmx⟩, hr⟩
      · obtain ⟨w, nv, r⟩ := F.vals i y t n1 n3
        have hfr := K.cap i n2 y n1
        have hcell := K.free y (mem_of_lookup hfr)
        rcases nv with ⟨q, _⟩ | ⟨q, cc, e, n⟩
        · rw [hcell] at q; cases q
        · exact ⟨w, .inr ⟨kc y hfr, cc, (hcl2 y (mem_of_lookup hfr)).trans e, k.cell n⟩, r.mono (vis_new k hN fun n a e => by rw [hM]; exact e) (fun a e => by rw [hO]; exact e) fun a vs _ l => k.isL l⟩
    own := fun i a e => by
      rw [hO] at e
      obtain ⟨p, q, r, vs, l⟩ := F.own i a e
      exact ⟨hH a p, q, fun n => by rw [hM]; exact r n, vs, k.isL l⟩
    oinj := fun i j a => by rw [hO]; exact F.oinj i j a
    sto := F.sto.new k hH hN hM
    mh0 := fun n a e => F.mh0 n a (by rw [← hM]; exact e)
    n0le := F.n0le }

theorem mapF_snoc {f : AV → Option (Option AV)} : ∀ {l : List AV} {ys : List AV} {x : AV}, mapF f l = some ys → mapF f (l ++ [x]) = match f x with | some (some y) => some (ys ++ [y]) | some none => some ys | none => none
  | [], ys, x, h => by
    simp only [mapF, Option.some.injEq] at h
    subst h
    simp only [List.nil_append, mapF]
    cases f x with
    | none => rfl
    | some r => cases r <;> rfl
  | z :: l, ys, x, h => by
    simp only [mapF, List.cons_append] at h ⊢
    cases hz : f z with
    | none => rw [hz] at h; cases h
    | some r =>
      rw [hz] at h
      cases r with
      | none => exact mapF_snoc h
      | some y =>
        simp only [Option.map_eq_some_iff] at h
        obtain ⟨ys', h1, rfl⟩ := h
        simp only [mapF_snoc h1]
        cases f x with
        | none => rfl
        | some r => cases r <;> rfl
theorem mapF_take {f : AV → Option (Option AV)} : ∀ {l : List AV} {ys : List AV} (j : Nat), mapF f l = some ys → ∃ zs, mapF f (l.take j) = some zs
  | _, _, 0, _ => ⟨[], by simp [mapF]⟩
  | [], _, _ + 1, _ => ⟨[], by simp [mapF]⟩
  | z :: l, ys, j + 1, h => by
    simp only [mapF, List.take_succ_cons] at h ⊢
    cases hz : f z with
    | none => rw [hz] at h; cases h
    | some r =>
      rw [hz] at h
      cases r with
      | none => exact mapF_take j h
      | some y =>
        simp only [Option.map_eq_some_iff] at h
        obtain ⟨ys', h1, _⟩ := h
        obtain ⟨zs, e⟩ := mapF_take j h1
        exact ⟨y :: zs, by simp [e]⟩
theorem mapF_length {f : AV → Option (Option AV)} : ∀ {l ys : List AV}, mapF f l = some ys → ys.length ≤ l.length
  | [], ys, h => by simp only [mapF, Option.some.injEq] at h; subst h; simp
  | z :: l, ys, h => by
    simp only [mapF] at h
    cases hz : f z with
    | none => rw [hz] at h; cases h
    | some r =>
      rw [hz] at h
      cases r with
      | none => have := mapF_length h; simp; omega
      | some y =>
        simp only [Option.map_eq_some_iff] at h
        obtain ⟨ys', h1, rfl⟩ := h
        have := mapF_length h1
        simp; omega
theorem mapF_step {f : AV → Option (Option AV)} {l ys : List AV} {j : Nat} {x : AV} {zs : List AV} (h : mapF f l = some ys) (hx : l[j]? = some x) (hz : mapF f (l.take j) = some zs) :
    (∃ y, f x = some (some y) ∧ mapF f (l.take (j + 1)) = some (zs ++ [y])) ∨ (f x = some none ∧ mapF f (l.take (j + 1)) = some zs) := by
  have e : l.take (j + 1) = l.take j ++ [x] := by rw [List.take_add_one, hx]; rfl
  obtain ⟨ws, hw⟩ := mapF_take (j + 1) h
  rw [e, mapF_snoc hz] at hw
  rw [e, mapF_snoc hz]
  cases hf : f x with
  | none => rw [hf] at hw; cases hw
  | some r =>
    cases r with
    | none => exact .inr ⟨rfl, rfl⟩
    | some y => exact .inl ⟨y, rfl, rfl⟩
end Mine
end
section
open PySem PySem.W PyProof.Rows
namespace Mine

theorem Fm.base' {c : Cx} {A : Around} {ns : List Str} {env : Env} {st : Fs} {fe : FE} {H : Hd} {h : Heap} (F : Fm c (FrA A) ns env st fe H h) : c.h0.StaysIn h := fun b o e => ((F.keep b o (fun f => by rw [F.basew b f] at e; cases e) (F.base b o e)).1 (.inl fun f => by rw [F.baseF b f] at e; cases e))
/-- what a turn of a comprehension does with an item -/
noncomputable def TurnOk (c : Cx) (q : Bool) (k : Nat) (A : Around) (names : List Str) (env : Env) (st : Fs) (fe : FE) (scope : Scope) (x : Str) (caps : List Nat) (elt : Expr) (ifs : List Expr) (f : AV → Option (Option AV)) : Prop :=
  ∀ item (s₃ : Shared) H₃ cenv, cenv.scope = relabel scope env → Rm c q k A s₃.heap → Fm c (FrA A) (names ++ [x]) cenv (st.inner caps item) fe H₃ s₃.heap →
    (∀ y, f item = some (some y) → TrB c A (testsOf ifs cenv) true s₃ ∧ ∀ s₄, Kp A s₃ s₄ → Tr c q A H₃ (eval elt cenv) (.ok y) s₄) ∧ (f item = some none → TrB c A (testsOf ifs cenv) false s₃)

theorem Kh.trans' {F W : Addr → Prop} {h₁ h₂ h₃ : Heap} (x : Kh F h₁ h₂) (y : Kv F W h₂ h₃) (n : ∀ b o, h₁.get? b = some o → ¬ W b) : Kh F h₁ h₃ := fun b o e =>
  ⟨fun z => (y b o (n b o e) ((x b o e).1 z)).1 z, by obtain ⟨sl, e₂⟩ := (x b o e).2; obtain ⟨sl', e₃⟩ := (y b _ (n b o e) e₂).2; exact ⟨sl', e₃⟩⟩

theorem list_appendL {prog : Program} {w : World} {A : Around} {E : Value → Shared → Prop} {s : Shared} {l : Addr} {items : List Value} {x : Value} {Q : Value → Shared → Prop} (hsz : (List.toArray items).size ≤ sizeLine) (hl : IsL s.heap l items)
    (hQ : ∀ h', IsL h' l (items ++ [x]) → Heap.SameBut l s.heap h' → Q .none { s with heap := h' }) :
    wpAny (model prog w) A (call (.builtin "list.append") [.ref l, x]) Q E s := by
  obtain ⟨o, n, ho, hc, hd, hn⟩ := id hl
  obtain ⟨n', hd'⟩ := Obj.data_mapSeq hd (·.push x)
  refine wpAny_call_entry slot_list_append hl.isList.typeIs entry_list_append ?_ (args_list_append _ _)
  show wpAny _ _ (updateSeq l (·.push x) >>= fun _ => ret .none) _ _ s
  refine wpAny_bind ?_
  refine wpAny_updateSeq ho hd (wpAny_pure ⟨.none, rfl, hQ _ ?_ (Heap.SameBut.update ..)⟩)
  refine ⟨_, n', Heap.get?_update_self _ ho (Obj.isFreed_of_seq hd'), (Obj.cls_mapSeq ..).trans hc, by rw [hd']; simp, ?_⟩
  obtain ⟨oc, od, odt, os⟩ := o
  simp only at hd hn ⊢
  subst hd
  exact hn

/-- what a turn puts to the heap of things -/
noncomputable def BodyOk (c : Cx) (A : Around) (H : Hd) (body : Addr → Sem Unit) (Inv : Heap → Hd → Addr → List AV → Prop) (y : AV) (s : Shared) : Prop :=
  ∀ (D : Addr) (zs : List AV) (Q : Unit → Shared → Prop) (E : Value → Shared → Prop), Inv s.heap H D zs → zs.length ≤ 1048576 → H.p D → ¬ FrA A D →
    (∀ s₅ h₆, Kp A s s₅ → Heap.SameBut D s₅.heap h₆ → Inv h₆ H D (zs ++ [y]) → Q () { s₅ with heap := h₆ }) → wpAny c.M A (body D) Q E s
noncomputable def TurnB (c : Cx) (q : Bool) (k : Nat) (A : Around) (names : List Str) (env : Env) (st : Fs) (fe : FE) (scope : Scope) (x : Str) (caps : List Nat) (ifs : List Expr) (body : Env → Addr → Sem Unit) (Inv : Heap → Hd → Addr → List AV → Prop) (f : AV → Option (Option AV)) : Prop :=
  ∀ item (s₃ : Shared) H₃ cenv, cenv.scope = relabel scope env → Rm c q k A s₃.heap → Fm c (FrA A) (names ++ [x]) cenv (st.inner caps item) fe H₃ s₃.heap →
    (∀ y, f item = some (some y) → TrB c A (testsOf ifs cenv) true s₃ ∧ ∀ s₄, Kp A s₃ s₄ → BodyOk c A H₃ (body cenv) Inv y s₄) ∧ (f item = some none → TrB c A (testsOf ifs cenv) false s₃)
/-- a comprehension's heap of things: how it is made, how a turn goes -/
structure AccOk (c : Cx) (A : Around) (ce target : Expr) (ifs : List Expr) (mk : Sem Value) (body : Env → Addr → Sem Unit) (Inv : Heap → Hd → Addr → List AV → Prop) : Prop where
  make : ∀ (s : Shared) (Q E : Value → Shared → Prop), c.h0.StaysIn s.heap → (∀ o : Obj, o.isFreed = false → (∀ h H, h.get? s.heap.objs.size = some o → Inv h H s.heap.objs.size []) → Q (.ref s.heap.objs.size) { s with heap := s.heap.push o }) → wpAny c.M A mk Q E s
  keep : ∀ h h' H D zs, Inv h H D zs → (∀ o, h.get? D = some o → h'.get? D = some o) → (vis h H).Le (vis h' H) → Inv h' H D zs
  live : ∀ h H D zs, Inv h H D zs → ∃ o, h.get? D = some o
  loop : ∀ (it : Value) (D : Addr) (env : Env) (R : Result → Shared → Prop) (s : Shared) (I : Nat → Shared → Prop), (∀ n s, I n s → wpAny c.M A (pyNext it) (fun r s₁ => match r with
      | none => R (.ok .next) s₁
      | some v => wpAny c.M A (assign target env v) (fun _ s₂ => wpAny c.M A (testsOf ifs env) (fun ok s₃ =>
          if ok = true then wpAny c.M A (body env D) (fun _ s₅ => ∃ m, m < n ∧ I m s₅) (notedBy c.M A env fun e s' => R (.error e) s') s₃
          else ∃ m, m < n ∧ I m s₃) (notedBy c.M A env fun e s' => R (.error e) s') s₂) (notedBy c.M A env fun e s' => R (.error e) s') s₁) (notedBy c.M A env fun e s' => R (.error e) s') s) →
    ∀ n, I n s → codeAny c.M A (.compLoop ce 0 it (.ref D) env) R s
  start : ∀ (it acc : Value) (env : Env) (R : Result → Shared → Prop) (s : Shared), codeAny c.M A (.compLoop ce 0 it acc env) R s →
    wpAny c.M A (pyIter it) (fun it' s' => codeAny c.M A (.compLoop ce 0 it' acc env) R s') (notedBy c.M A env fun x s' => R (.error x) s') s → codeAny c.M A (.compStart ce 0 it acc env) R s

theorem comp_gen {c : Cx} {q : Bool} {k : Nat} {A : Around} {s₁ s₂ : Shared} {H : Hd} {fe : FE} {names : List Str} {env : Env} {st : Fs} {ce : Expr} {x : Str} {px : Pos} {ifs : List Expr} {mk : Sem Value} {body : Env → Addr → Sem Unit} {Inv : Heap → Hd → Addr → List AV → Prop} {scope : Scope} {caps : List Nat}
    {cl : List (Str × Addr)} {I : Addr} {fp : Addr → Prop} {P : Nat → Value → Prop} {St : Nat → Heap → Prop} {l ys : List AV} {f : AV → Option (Option AV)} {E : Value → Shared → Prop} {RR : Value → Addr → Result → Shared → Prop}
    (hm : Rm c q k A s₁.heap) (F : Fm c (FrA A) names env st fe H s₁.heap) (hlen : st.ρ.length = names.length) (K : CompOk names env scope x caps)
    (hcl1 : ∀ y cc, cl.lookup y = some cc → env.cells.lookup y = some cc) (hcl2 : ∀ y, (y, NameKind.free) ∈ scope.names → cl.lookup y = env.cells.lookup y)
    (hs : ∃ h' tk, s₂ = { s₁ with heap := h', toks := tk }) (hk : ∀ b o, s₁.heap.get? b = some o → s₂.heap.get? b = some o) (hI : s₁.heap.get? I = none) (hIl : ∀ b, fp b → ∃ o, s₂.heap.get? b = some o) (hfI : fp I)
    (W : Itr c A I fp P l.length St) (hst : St 0 s₂.heap) (hsz : l.length ≤ 1048576) (hP : ∀ (i : Nat) v y, P i v → l[i]? = some y → Rep (vis s₁.heap H) v y)
    (hf : mapF f l = some ys) (K0 : AccOk c A ce (.Name x px) ifs mk body Inv) (T : TurnB c q k A names env st fe scope x caps ifs body Inv f)
    (hR : ∀ D C h' tk m', s₂.heap.get? D = none → s₂.heap.get? C = none → D ≠ C → h'.Ns C m' → Inv h' (H.add fun b => b = C ∨ b = D ∨ b = I) D ys → Kv (FrA A) (fun b => b = I) s₂.heap h' →
      RR (.ref D) C (.ok .next) { s₂ with heap := h', toks := tk }) :
    wpAny c.M A mk (fun acc s₃ => wpAny c.M A (newFunctionEnv scope env.globals cl [] env.qual none .none (some env)) (fun cenv s₄ =>
      codeAny c.M A (.compStart ce 0 (.ref I) acc { cenv with scope := relabel scope env }) (RR acc cenv.locals) s₄) E s₃) E s₂ := by
  refine K0.make _ _ _ (fun b o e => hk b o (F.base' b o e)) fun o0 hfr hinv0 => (wpAny_newFunctionEnv K.cell (by intro y hy; simp at hy) (fun h₁ hns₁ hsb₁ => ?_) K.kind)
  dsimp only at hns₁ hsb₁ ⊢
  generalize hD : s₂.heap.objs.size = D at hinv0 ⊢
  generalize hH2 : s₂.heap.push o0 = H2 at hns₁ hsb₁ ⊢
  generalize hC : H2.objs.size = C at hns₁ hsb₁ ⊢
  have hCD : C = D + 1 := by rw [← hC, ← hH2, Heap.size_push, hD]
  have hDC : D ≠ C := by omega
  have hDn : s₂.heap.get? D = none := Heap.get?_none_of_le (by omega)
  have hCn : s₂.heap.get? C = none := Heap.get?_none_of_le (by omega)
  have hnF : ¬ FrA A D := by
    rintro ⟨l, hl, hb⟩
    obtain ⟨l', hl', ff⟩ := hm.frames
    rw [hl] at hl'; cases hl'
    obtain ⟨_, o, e, _⟩ := ff.mem hb
    have := hk _ _ e
    rw [hDn] at this; cases this
  have hDn₁ : s₁.heap.get? D = none := by
    cases e : s₁.heap.get? D with
    | none => rfl
    | some o => have := hk _ _ e; rw [hDn] at this; cases this
  have hCn₁ : s₁.heap.get? C = none := by
    cases e : s₁.heap.get? C with
    | none => rfl
    | some o => have := hk _ _ e; rw [hCn] at this; cases this
  have old : ∀ b o, s₂.heap.get? b = some o → h₁.get? b = some o := fun b o e => by
    have e1 : H2.get? b = some o := by rw [← hH2]; exact Heap.get?_push_of_some _ e
    refine hsb₁.extBut b o (fun q => ?_) (Heap.get?_push_of_some _ e1)
    rw [q, hCn] at e; cases e
  have hacc : h₁.get? D = some o0 := by
    have e1 : H2.get? D = some o0 := by rw [← hH2, ← hD]; exact Heap.get?_push_size _ hfr
    exact hsb₁.extBut _ _ hDC (Heap.get?_push_of_some _ e1)
  obtain ⟨hI0, tkI, rfl⟩ := hs
  dsimp only at *
  obtain ⟨oI, hoI⟩ := hIl I hfI
  have hIC : I ≠ C := fun q => by rw [q, hCn] at hoI; cases hoI
  have hID : I ≠ D := fun q => by rw [q, hDn] at hoI; cases hoI
  have fpC : ∀ b, fp b → b ≠ C ∧ b ≠ D := fun b hb => by
    obtain ⟨o, ho⟩ := hIl b hb
    exact ⟨fun q => by (rw [q, hCn] at ho; cases ho), fun q => by (rw [q, hDn] at ho; cases ho)⟩
  generalize hH3 : (H.add fun b => b = C ∨ b = D ∨ b = I) = H₃
  have hM3 : H₃.m = H.m := by rw [← hH3]; rfl
  have hO3 : H₃.o = H.o := by rw [← hH3]; rfl
  have hHH : ∀ b, H.p b → H₃.p b := fun b z => by rw [← hH3]; exact .inl z
  have hW3 : ∀ b, (b = C ∨ b = D ∨ b = I) → H₃.p b := fun b z => by rw [← hH3]; exact .inr z
  have hHN : ∀ b, H₃.p b → H.p b ∨ s₁.heap.get? b = none := fun b z => by
    rw [← hH3] at z
    rcases z with z | z | z | z
    · exact .inl z
    · exact .inr (z ▸ hCn₁)
    · exact .inr (z ▸ hDn₁)
    · exact .inr (z ▸ hI)
  have hkH1 : Kh (FrA A) s₁.heap h₁ := Kh.of_keeps fun b o e => old b o (hk b o e)
  have hst₁ : St 0 h₁ := W.frame _ _ _ hst fun b o _ e => ⟨fun _ => old b o e, o.slots, old b o e⟩
  have loop : ∀ s₃ : Shared, s₃ = { s₁ with heap := h₁, toks := tkI + ([] : List (Str × Value)).length } →
      codeAny c.M A (.compLoop ce 0 (.ref I) (.ref D) (compEnvC scope cl C env)) (RR (.ref D) C) s₃ := by
    rintro s₃ rfl
    refine K0.loop _ _ _ _ _ (fun n s' => ∃ h' tk m' j zs, s' = { s₁ with heap := h', toks := tk } ∧ St j h' ∧ j ≤ l.length ∧ n = l.length + 1 - j ∧ Inv h' H₃ D zs ∧ mapF f (l.take j) = some zs ∧
      h'.Ns C m' ∧ Kv (FrA A) (fun b => b = C ∨ b = D ∨ b = I) h₁ h' ∧ (∃ o, h'.get? I = some o)) ?_ (l.length + 1)
      ⟨h₁, _, _, 0, [], rfl, hst₁, Nat.zero_le _, rfl, hinv0 _ _ hacc, by simp [mapF], hns₁, Kv.refl _ _ _, oI, old _ _ hoI⟩
    rintro n s' ⟨h', tk, m', j, zs, rfl, hst', hj, rfl, hD', hzs, hC', hkv, hoI'⟩
    by_cases hlt : j < l.length
    · obtain ⟨item, hit⟩ : ∃ y, l[j]? = some y := ⟨l[j], by simp [hlt]⟩
      refine W.item j _ _ _ hlt hst' fun v h₂ tk₂ hPv hst₂ hk₂ hI₂ => ?_
      dsimp only
      obtain ⟨oI₂, hoI₂⟩ := hI₂
      have kv₂ : Kv (FrA A) (fun b => b = C ∨ b = D ∨ b = I) h' h₂ := Kv.of_but hk₂ (.inr (.inr rfl))
      obtain ⟨oC, esC, epC, hoC, rC⟩ := hC'
      have hC₂ : h₂.Ns C m' := ⟨oC, esC, epC, hk₂ C oC (Ne.symm hIC) hoC, rC⟩
      have hD₂ : Inv h₂ H₃ D zs := K0.keep _ _ _ _ _ hD' (fun o e => hk₂ D o (Ne.symm hID) e) (kv₂.vis hW3)
      refine wpAny_assign_Name (wpAny_storeName_local (env := compEnvC scope cl C env) (lookup_relabel_local K.var) hC₂ (fun h₃ hn₃ hs₃ => ?_) (by simp [compEnvC, relabel, K.kind]))
      have kv₃ : Kv (FrA A) (fun b => b = C ∨ b = D ∨ b = I) h₂ h₃ := Kv.of_sameBut hs₃ (.inl rfl)
      have kv13 := (hkv.trans kv₂).trans kv₃
      have kh₃ : Kh (FrA A) s₁.heap h₃ := hkH1.trans' kv13 fun b o e => by
        rintro (z | z | z)
        · rw [z, hCn₁] at e; cases e
        · rw [z, hDn₁] at e; cases e
        · rw [z, hI] at e; cases e
      have hD₃ : Inv h₃ H₃ D zs := K0.keep _ _ _ _ _ hD₂ (fun o e => hs₃.extBut D o hDC e) (kv₃.vis hW3)
      have hst₃ : St (j + 1) h₃ := W.frame _ _ _ hst₂ fun b o hb e => ⟨fun _ => hs₃.extBut b o (fpC b hb).1 e, o.slots, hs₃.extBut b o (fpC b hb).1 e⟩
      have hoI₃ : h₃.get? I = some oI₂ := hs₃.extBut I oI₂ hIC hoI₂
      have live₃ : Live H₃ h₃ := fun b z => by
        rw [← hH3] at z
        rcases z with z | rfl | rfl | rfl
        · obtain ⟨o, e⟩ := F.hlt b z
          obtain ⟨sl, e'⟩ := (kh₃ b o e).2
          exact ⟨_, e'⟩
        · obtain ⟨o, _, _, e, _⟩ := hn₃; exact ⟨o, e⟩
        · exact K0.live _ _ _ _ hD₃
        · exact ⟨_, hoI₃⟩
      have F₃ : Fm c (FrA A) (names ++ [x]) (compEnvC scope cl C env) (st.inner caps item) fe H₃ h₃ :=
        comp_fm F hlen K kh₃ hHH hHN hM3 hO3 live₃ hn₃ (hW3 C (.inl rfl)) hCn₁ (by simp) (Rep.mono (vis_new kh₃ hHN fun n a e => by rw [hM3]; exact e) (hP j v item hPv hit)) rfl rfl rfl rfl hcl1 hcl2
      have hm₃ : Rm c q k A h₃ := hm.nf kh₃.nf
      have TT := T item { s₁ with heap := h₃, toks := tk₂ + 1 } H₃ (compEnvC scope cl C env) rfl hm₃ F₃
      rcases mapF_step hf hit hzs with ⟨y, hy, hzs'⟩ | ⟨hy, hzs'⟩
      · obtain ⟨t1, t2⟩ := TT.1 y hy
        refine t1 _ _ fun s₄ k₄ => ?_
        simp only [if_true]
        have hvl : zs.length ≤ 1048576 := by
          have e2 := mapF_length hzs
          have e3 : (l.take j).length ≤ l.length := by rw [List.length_take]; omega
          omega
        obtain ⟨h₄, tk₄, e₄, kh₄⟩ := id k₄
        subst e₄
        have hD₄ : Inv h₄ H₃ D zs := K0.keep _ _ _ _ _ hD₃ (fun o e => (kh₄ D o e).1 (.inl hnF)) kh₄.vis
        refine t2 _ k₄ D zs _ _ hD₄ hvl (hW3 D (.inr (.inl rfl))) hnF fun s₅ h₆ k₅ hs₆ hl₆ => ?_
        have k35 := k₄.trans k₅
        obtain ⟨h₅, tk₅, e₅, kh₅⟩ := k35
        subst e₅
        have kv56 : Kv (FrA A) (fun b => b = C ∨ b = D ∨ b = I) h₅ h₆ := Kv.of_sameBut hs₆ (.inr (.inl rfl))
        refine ⟨l.length + 1 - (j + 1), by omega, h₆, tk₅, (fun z => if z = x then some v else m' z), j + 1, zs ++ [y], rfl, ?_, hlt, rfl, hl₆, hzs', ?_, ((kv13.trans kh₅.kv).trans kv56), ?_⟩
        · refine W.frame _ _ _ hst₃ fun b o hb e => ⟨fun hf => hs₆.extBut b _ (fpC b hb).2 ((kh₅ b o e).1 (.inr hf)), ?_⟩
          obtain ⟨sl, e'⟩ := (kh₅ b o e).2
          exact ⟨sl, hs₆.extBut b _ (fpC b hb).2 e'⟩
        · exact (kh₅.ns hn₃).sameBut hs₆ (Ne.symm hDC)
        · obtain ⟨sl, e'⟩ := (kh₅ I _ hoI₃).2
          exact ⟨_, hs₆.extBut I _ hID e'⟩
      · refine TT.2 hy _ _ fun s₄ k₄ => ?_
        simp only [Bool.false_eq_true, if_false]
        obtain ⟨h₄, tk₄, rfl, kh₄⟩ := k₄
        refine ⟨l.length + 1 - (j + 1), by omega, h₄, tk₄, (fun z => if z = x then some v else m' z), j + 1, zs, rfl, ?_, hlt, rfl, K0.keep _ _ _ _ _ hD₃ (fun o e => (kh₄ D o e).1 (.inl hnF)) kh₄.vis, hzs', kh₄.ns hn₃, kv13.trans kh₄.kv, ?_⟩
        · exact W.frame _ _ _ hst₃ fun b o hb e => ⟨fun hf => (kh₄ b o e).1 (.inr hf), (kh₄ b o e).2⟩
        · obtain ⟨sl, e'⟩ := (kh₄ I _ hoI₃).2
          exact ⟨_, e'⟩
    · have hjl : j = l.length := by omega
      subst hjl
      refine W.done _ _ _ hst' fun h₂ tk₂ hk₂ => ?_
      have kv₂ : Kv (FrA A) (fun b => b = C ∨ b = D ∨ b = I) h' h₂ := Kv.of_but hk₂ (.inr (.inr rfl))
      rw [List.take_length, hf] at hzs
      cases hzs
      obtain ⟨oC, esC, epC, hoC, rC⟩ := hC'
      refine hR D C h₂ tk₂ m' hDn hCn hDC ⟨oC, esC, epC, hk₂ C oC (Ne.symm hIC) hoC, rC⟩ ?_ ?_
      · rw [hH3]; exact K0.keep _ _ _ _ _ hD' (fun o e => hk₂ D o (Ne.symm hID) e) (kv₂.vis hW3)
      · intro b o nb e
        have e1 := old b o e
        have nC : ¬ (b = C ∨ b = D ∨ b = I) := by
          rintro (z | z | z)
          · rw [z, hCn] at e; cases e
          · rw [z, hDn] at e; cases e
          · exact nb z
        exact (hkv.trans kv₂) b o nC e1
  exact K0.start _ _ _ _ _ (loop _ rfl) (W.self 0 _ _ _ hst₁ (loop _ rfl))

/-- the list's heap of things -/
noncomputable def InvL (h : Heap) (H : Hd) (D : Addr) (zs : List AV) : Prop := ∃ vs, IsL h D vs ∧ RepL (vis h H) vs zs
theorem acc_list {c : Cx} {A : Around} {elt iter : Expr} {x : Str} {px : Pos} {ifs : List Expr} {scope : Scope} {pos : Pos} :
    AccOk c A (.ListComp elt [⟨.Name x px, iter, ifs, 0⟩] scope pos) (.Name x px) ifs (newList []) (fun env D => do let _ ← call (.builtin "list.append") [.ref D, ← eval elt env]) InvL where
  make := fun s Q E _ h => wpAny_newObj_type (h _ rfl fun h H e => ⟨[], ⟨_, _, e, rfl, rfl, rfl⟩, trivial⟩)
  keep := fun h h' H D zs ⟨vs, a, b⟩ e v => ⟨vs, a.at' e, RepL.mono v b⟩
  live := fun h H D zs ⟨vs, ⟨o, _, e, _⟩, _⟩ => ⟨o, e⟩
  loop := fun it D env R s I turn n h => by
    refine codeAny_loop rfl I (fun n s hI => ?_) n h
    show wpAny _ A ((compTurn (.ListComp elt [⟨.Name x px, iter, ifs, 0⟩] scope pos) 0 it (.ref D) env).onRaise (fun x => do noteFrame x env; theTreesLotGoes x)) _ _ s
    refine wpAny_noted ?_
    rw [compTurn_list]
    refine wpAny_bind (wpAny_standAt (wpAny_bind (wpAny_mono (turn n s hI) (fun r s₁ h₁ => ?_) fun _ _ h' => h')))
    cases r with
    | none => exact wpAny_pure h₁
    | some v =>
      refine wpAny_bind (wpAny_of_eq (rfl : letOwnedTupleGo (.Name x px) it v = pure ()) ?_)
      refine wpAny_bind (wpAny_mono h₁ (fun _ s₂ h₂ => wpAny_bind (wpAny_mono h₂ (fun ok s₃ h₃ => ?_) fun _ _ h' => h')) fun _ _ h' => h')
      cases ok with
      | false => exact wpAny_pure ⟨rfl, h₃⟩
      | true => exact wpAny_bind (wpAny_mono h₃ (fun _ s₅ h₅ => wpAny_pure ⟨rfl, h₅⟩) fun _ _ h' => h')
  start := fun it acc env R s h0 h => codeAny_compStart_list h0 h
theorem turn_list {c : Cx} {q : Bool} {k : Nat} {A : Around} {names : List Str} {env : Env} {st : Fs} {fe : FE} {scope : Scope} {x : Str} {caps : List Nat} {elt : Expr} {ifs : List Expr} {f : AV → Option (Option AV)}
    (T : TurnOk c q k A names env st fe scope x caps elt ifs f) : TurnB c q k A names env st fe scope x caps ifs (fun env D => do let _ ← call (.builtin "list.append") [.ref D, ← eval elt env]) InvL f := fun item s₃ H₃ cenv e hm F => by
  obtain ⟨t1, t2⟩ := T item s₃ H₃ cenv e hm F
  refine ⟨fun y hy => ⟨(t1 y hy).1, fun s₄ k₄ D zs Q E ⟨vs, hl, hr⟩ hz hp hn K => ?_⟩, t2⟩
  refine wpAny_bind ((t1 y hy).2 s₄ k₄ _ _ fun yv s₅ k₅ ry => ?_)
  obtain ⟨h₅, tk₅, rfl, kh₅⟩ := id k₅
  have hz' : (List.toArray vs).size ≤ sizeLine := by
    have := hr.length
    rw [List.size_toArray, show sizeLine = 16777216 from by decide]
    omega
  refine wpAny_bind (list_appendL hz' (kh₅.isL hl) fun h₆ hl₆ hs₆ => wpAny_pure ?_)
  have kvis : (vis h₅ H₃).Le (vis h₆ H₃) := (Kv.of_sameBut (F := FrA A) (W := fun b => b = D) hs₆ rfl).vis fun b z => z ▸ hp
  exact K _ h₆ k₅ hs₆ ⟨vs ++ [yv], hl₆, RepL.append (RepL.mono (kh₅.vis.trans kvis) hr) (by simp only [RepL]; exact ⟨Rep.mono kvis ry, trivial⟩)⟩
theorem comp_core {c : Cx} {q : Bool} {k : Nat} {A : Around} {s₁ s₂ : Shared} {H : Hd} {fe : FE} {names : List Str} {env : Env} {st : Fs} {elt iter : Expr} {x : Str} {px pos : Pos} {ifs : List Expr} {scope : Scope} {caps : List Nat}
    {cl : List (Str × Addr)} {I : Addr} {fp : Addr → Prop} {P : Nat → Value → Prop} {St : Nat → Heap → Prop} {l ys : List AV} {f : AV → Option (Option AV)} {E : Value → Shared → Prop} {RR : Value → Addr → Result → Shared → Prop}
    (hm : Rm c q k A s₁.heap) (F : Fm c (FrA A) names env st fe H s₁.heap) (hlen : st.ρ.length = names.length) (K : CompOk names env scope x caps)
    (hcl1 : ∀ y cc, cl.lookup y = some cc → env.cells.lookup y = some cc) (hcl2 : ∀ y, (y, NameKind.free) ∈ scope.names → cl.lookup y = env.cells.lookup y)
    (hs : ∃ h' tk, s₂ = { s₁ with heap := h', toks := tk }) (hk : ∀ b o, s₁.heap.get? b = some o → s₂.heap.get? b = some o) (hI : s₁.heap.get? I = none) (hIl : ∀ b, fp b → ∃ o, s₂.heap.get? b = some o) (hfI : fp I)
    (W : Itr c A I fp P l.length St) (hst : St 0 s₂.heap) (hsz : l.length ≤ 1048576) (hP : ∀ (i : Nat) v y, P i v → l[i]? = some y → Rep (vis s₁.heap H) v y)
    (hf : mapF f l = some ys) (T : TurnOk c q k A names env st fe scope x caps elt ifs f)
    (hR : ∀ D C h' tk m' vs, s₂.heap.get? D = none → s₂.heap.get? C = none → D ≠ C → h'.Ns C m' → IsL h' D vs → RepL (vis h' (H.add fun b => b = C ∨ b = D ∨ b = I)) vs ys → Kv (FrA A) (fun b => b = I) s₂.heap h' →
      RR (.ref D) C (.ok .next) { s₂ with heap := h', toks := tk }) :
    wpAny c.M A (newList []) (fun acc s₃ => wpAny c.M A (newFunctionEnv scope env.globals cl [] env.qual none .none (some env)) (fun cenv s₄ =>
      codeAny c.M A (.compStart (.ListComp elt [⟨.Name x px, iter, ifs, 0⟩] scope pos) 0 (.ref I) acc { cenv with scope := relabel scope env }) (RR acc cenv.locals) s₄) E s₃) E s₂ :=
  comp_gen hm F hlen K hcl1 hcl2 hs hk hI hIl hfI W hst hsz hP hf acc_list (turn_list T) fun D C h' tk m' a b d e ⟨vs, hl, hr⟩ kv => hR D C h' tk m' vs a b d e hl hr kv
end Mine
end
section
open PySem PySem.W PyProof.Rows
namespace Mine
set_option linter.unusedVariables false
/- a comprehension whose variable is a cell -/
structure CompOkC (names : List Str) (env : Env) (scope : Scope) (x : Str) (caps : List Nat) : Prop where
  cell : scope.names.filter (fun p => p.2 == .cell) = [(x, .cell)]
  kind : scope.kind = .function
  loc : ∀ y ∈ scope.names, y.2 = .local → scope.names.lookup y.1 = some .local
  var : scope.names.lookup x = some .cell
  free : ∀ y, (y, NameKind.free) ∈ scope.names → env.kindOf y = some .cell
  cap : ∀ i ∈ caps, ∀ y, names[i]? = some y → scope.names.lookup y = some .free
theorem CompOkC.only {names : List Str} {env : Env} {scope : Scope} {x : Str} {caps : List Nat} (K : CompOkC names env scope x caps) : ∀ y ∈ scope.names, y.2 = .cell → y.1 = x := fun y hy e => by
  have : y ∈ scope.names.filter (fun p => p.2 == .cell) := List.mem_filter.mpr ⟨hy, by rw [e]; rfl⟩
  rw [K.cell, List.mem_singleton] at this
  rw [this]
theorem cells_one {x : Str} : ∀ {names : List (Str × NameKind)}, names.filter (fun p => p.2 == .cell) = [(x, .cell)] → ∀ (n : Nat) (acc : List (Str × Addr)) (h : Heap), cellsFrom n names acc = (x, n) :: acc ∧ pushCells h names = h.push { cls := .type "cell", data := .cell none } := by
  have none : ∀ (names : List (Str × NameKind)), names.filter (fun p => p.2 == .cell) = [] → ∀ (n : Nat) (acc : List (Str × Addr)) (h : Heap), cellsFrom n names acc = acc ∧ pushCells h names = h := by
    intro names
    induction names with
    | nil => intro _ n acc h; exact ⟨rfl, rfl⟩
    | cons p r ih =>
      intro e n acc h
      obtain ⟨nm, kd⟩ := p
      unfold cellsFrom pushCells
      cases hk : (kd == NameKind.cell) with
      | true => simp [List.filter_cons, hk] at e
      | false =>
        simp only [List.filter_cons, hk, Bool.false_eq_true, if_false] at e ⊢
        exact ih e n acc h
  intro names
  induction names with
  | nil => intro e; cases e
  | cons p r ih =>
    intro e n acc h
    obtain ⟨nm, kd⟩ := p
    unfold cellsFrom pushCells
    cases hk : (kd == NameKind.cell) with
    | true =>
      simp only [List.filter_cons, hk, if_true, List.cons.injEq] at e ⊢
      obtain ⟨e1, e2⟩ := e
      cases e1
      exact none r e2 _ _ _
    | false =>
      simp only [List.filter_cons, hk, Bool.false_eq_true, if_false] at e ⊢
      exact ih e n acc h
theorem nfe_one {M : Model} {A : Around} {E : Value → Shared → Prop} {s : Shared} {scope : Scope} {globals : Addr} {cl : List (Str × Addr)} {qual : Str} {env : Env} {x : Str} {Q : Env → Shared → Prop} (hc : scope.names.filter (fun p => p.2 == .cell) = [(x, .cell)])
    (hQ : Q (newEnv scope s.heap.objs.size globals ((x, s.heap.objs.size + 1) :: cl) qual none .none (some env) builtinsNs) { s with heap := (s.heap.push { cls := .type "dict", data := .dict #[] }).push { cls := .type "cell", data := .cell none } }) :
    wpAny M A (newFunctionEnv scope globals cl [] qual none .none (some env)) Q E s := by
  simp only [newFunctionEnv, Option.isSome_some, if_true]
  refine wpAny_bind (wpAny_alloc ?_)
  refine wpAny_bind (wpAny_layCells _ (fun name kind cells => by cases hkc : kind == NameKind.cell <;> simp [hkc]) _ _ _ _ ?_)
  obtain ⟨e1, e2⟩ := cells_one hc (s.heap.push { cls := .type "dict", data := .dict #[] }).objs.size cl (s.heap.push { cls := .type "dict", data := .dict #[] })
  dsimp only
  rw [e1, e2]
  rw [Heap.size_push]
  refine wpAny_bind ?_
  rw [List.forIn_nil]
  exact wpAny_pure (wpAny_pure hQ)
theorem lookup_relabel_cellC {env : Env} {x : Str} : ∀ {names : List (Str × NameKind)} {y : Str}, (∀ y ∈ names, y.2 = .cell → y.1 = x) →
    (names.map fun (n, k) => if (k == NameKind.free && env.scope.kind == .function && env.kindOf n == some .cell) then (n, NameKind.cell) else (n, k)).lookup y = some .cell → y = x ∨ ((y, NameKind.free) ∈ names ∧ env.kindOf y = some .cell)
  | [], _, _, h => by simp at h
  | (n, k) :: r, y, hno, h => by
    have ih := @lookup_relabel_cellC env x r y fun y hy => hno y (List.mem_cons_of_mem _ hy)
    have h : List.lookup y ((if (k == NameKind.free && env.scope.kind == .function && env.kindOf n == some .cell) = true then (n, NameKind.cell) else (n, k)) :: (r.map fun (n, k) => if (k == NameKind.free && env.scope.kind == .function && env.kindOf n == some .cell) then (n, NameKind.cell) else (n, k))) = some .cell := h
    cases hx : y == n with
    | true =>
      have e : y = n := beq_iff_eq.mp hx
      subst e
      by_cases hcc : (k == NameKind.free && env.scope.kind == .function && env.kindOf y == some .cell) = true
      · simp only [Bool.and_eq_true, beq_iff_eq] at hcc
        obtain ⟨⟨h1, _⟩, h3⟩ := hcc
        subst h1
        exact .inr ⟨List.mem_cons_self .., h3⟩
      · rw [if_neg hcc] at h
        simp only [List.lookup_cons, hx] at h
        cases h
        exact .inl (hno (y, NameKind.cell) (List.mem_cons_self ..) rfl)
    | false =>
      have : List.lookup y (r.map fun (n, k) => if (k == NameKind.free && env.scope.kind == .function && env.kindOf n == some .cell) then (n, NameKind.cell) else (n, k)) = some .cell := by
        by_cases hcc : (k == NameKind.free && env.scope.kind == .function && env.kindOf n == some .cell) = true
        · rw [if_pos hcc] at h; simpa only [List.lookup_cons, hx] using h
        · rw [if_neg hcc] at h; simpa only [List.lookup_cons, hx] using h
      exact (ih this).imp id fun z => ⟨List.mem_cons_of_mem _ z.1, z.2⟩
theorem lookup_relabel_is {env : Env} {k0 : NameKind} (hk0 : k0 ≠ .free) : ∀ {names : List (Str × NameKind)} {x : Str}, names.lookup x = some k0 →
    (names.map fun (n, k) => if (k == NameKind.free && env.scope.kind == .function && env.kindOf n == some .cell) then (n, NameKind.cell) else (n, k)).lookup x = some k0
  | [], _, h => by simp at h
  | (n, k) :: r, x, h => by
    have ih := @lookup_relabel_is env k0 hk0 r x
    show List.lookup x ((if (k == NameKind.free && env.scope.kind == .function && env.kindOf n == some .cell) = true then (n, NameKind.cell) else (n, k)) :: _) = _
    cases hx : x == n with
    | true =>
      simp only [List.lookup_cons, hx] at h
      cases h
      have : (k0 == NameKind.free) = false := by simpa using hk0
      rw [this]
      simp [List.lookup_cons, hx]
    | false =>
      simp only [List.lookup_cons, hx] at h
      by_cases hc : (k == NameKind.free && env.scope.kind == .function && env.kindOf n == some .cell) = true
      · rw [if_pos hc]; simp only [List.lookup_cons, hx]; exact ih h
      · rw [if_neg hc]; simp only [List.lookup_cons, hx]; exact ih h
theorem comp_fmC {c : Cx} {Fr : Addr → Prop} {names : List Str} {env cenv : Env} {st : Fs} {fe : FE} {H H₃ : Hd} {h h₂ : Heap} {scope : Scope} {x : Str} {caps : List Nat} {m : Str → Option Value} {v : Value} {item : AV} {CC : Addr}
    (F : Fm c Fr names env st fe H h) (hlen : st.ρ.length = names.length) (K : CompOkC names env scope x caps) (k : Kh Fr h h₂) (hH : ∀ b, H.p b → H₃.p b) (hN : ∀ b, H₃.p b → H.p b ∨ h.get? b = none) (hM : H₃.m = H.m) (hO : H₃.o = H.o) (hL : Live H₃ h₂)
    (hC : h₂.Ns cenv.locals m) (hCH : H₃.p cenv.locals) (hCn : h.get? cenv.locals = none) (hCC : h₂.IsCell CC (some v)) (hCCH : H₃.p CC) (hCCn : h.get? CC = none) (hr : Rep (vis h₂ H₃) v item) (hsc : cenv.scope = relabel scope env) (hg : cenv.globals = env.globals) (hb : cenv.builtins = env.builtins) (hcd : cenv.code = env.code)
    (hclx : cenv.cells.lookup x = some CC) (hcl1 : ∀ y cc, y ≠ x → cenv.cells.lookup y = some cc → env.cells.lookup y = some cc) (hcl2 : ∀ y, y ≠ x → (y, NameKind.free) ∈ scope.names → cenv.cells.lookup y = env.cells.lookup y) (hxf : (x, NameKind.free) ∉ scope.names) (hcd1 : ∀ y cc, env.kindOf y = some .cell → env.cells.lookup y = some cc → cc ≠ CC) (hcd2 : ∀ y cc, y ≠ x → cenv.cells.lookup y = some cc → cc ≠ CC) :
    Fm c Fr (names ++ [x]) cenv (st.inner caps item) fe H₃ h₂ := by
  have kx : cenv.kindOf x = some .cell := by
    show cenv.scope.names.lookup x = some .cell
    rw [hsc]; exact lookup_relabel_is (by decide) K.var
  have kc : ∀ y, scope.names.lookup y = some .free → cenv.kindOf y = some .cell := fun y hy => by
    show cenv.scope.names.lookup y = some .cell
    rw [hsc]; exact lookup_relabel_free F.kind hy (K.free y (mem_of_lookup hy))
  have get : ∀ (i : Nat) y t, (names ++ [x])[i]? = some y → (mask caps st.ρ ++ [some (Ent.val item)])[i]? = some (some t) → (i = names.length ∧ y = x ∧ t = .val item) ∨ (i < names.length ∧ names[i]? = some y ∧ i ∈ caps ∧ st.ρ[i]? = some (some t)) := by
    intro i y t h1 h2
    by_cases hi : i < names.length
    · rw [List.getElem?_append_left hi] at h1
      rw [List.getElem?_append_left (by rw [mask_length, hlen]; exact hi)] at h2
      exact .inr ⟨hi, h1, mask_get h2⟩
    · have hge : names.length ≤ i := Nat.le_of_not_lt hi
      rw [List.getElem?_append_right hge] at h1
      rw [List.getElem?_append_right (by rw [mask_length, hlen]; exact hge), mask_length, hlen] at h2
      cases hz : i - names.length with
      | zero => rw [hz] at h1 h2; simp at h1 h2; exact .inl ⟨by omega, h1.symm, h2.symm⟩
      | succ n => rw [hz] at h1; simp at h1
  have fenone : ∀ {b}, h.get? b = none → fe.h.get? b = none := fun {b} hb => by
    cases e : fe.h.get? b with
    | none => rfl
    | some o =>
      exfalso
      by_cases hw : fe.w b
      · obtain ⟨o', e'⟩ := F.hlt _ (F.hle _ (F.wsub _ hw))
        rw [hb] at e'; cases e'
      · obtain ⟨sl, e'⟩ := (F.keep _ o hw e).2
        rw [hb] at e'; cases e'
  have cellOf : ∀ y, cenv.kindOf y = some .cell → y = x ∨ (y ≠ x ∧ (y, NameKind.free) ∈ scope.names ∧ env.kindOf y = some .cell) := fun y qk => by
    have qk : cenv.scope.names.lookup y = some .cell := qk
    rw [hsc] at qk
    rcases lookup_relabel_cellC K.only qk with e | ⟨q1, q2⟩
    · exact .inl e
    · by_cases e : y = x
      · exact .inl e
      · exact .inr ⟨e, q1, q2⟩
  exact {
    keep := F.keep.trans k.kv
    wsub := F.wsub
    base := F.base
    baseF := F.baseF
    basew := F.basew
    hle := fun b q => hH b (F.hle b q)
    mle := fun n a e => by rw [hM]; exact F.mle n a e
    mold := fun n a l e => F.mold n a l (by rw [← hM]; exact e)
    mnew := fun n a l e => F.mnew n a l (by rw [← hM]; exact e)
    mw := fun n a mo l l' q e => absurd (Nat.lt_of_lt_of_le l F.n0le) (Nat.not_lt.mpr l')
    hlt := hL
    felt := F.felt
    wlt := F.wlt
    kind := by rw [hsc]; exact K.kind
    glob := hg.trans F.glob
    bi := hb.trans F.bi
    code := by rw [hcd]; exact F.code
    ns := ⟨m, hC⟩
    hl := hCH
    lnew := fenone hCn
    hc := fun y cc qk q => by
      rcases cellOf y qk with rfl | ⟨hy, q1, q2⟩
      · rw [hclx] at q; cases q
        exact ⟨hCCH, fenone hCCn⟩
      · obtain ⟨a, b⟩ := F.hc y cc q2 (hcl1 y cc hy q)
        exact ⟨hH _ a, b⟩
    cl := fun y q => by
      rcases cellOf y q with rfl | ⟨hy, q1, q2⟩
      · exact ⟨CC, _, hclx, hCC⟩
      · obtain ⟨cc, w, e, n⟩ := F.cl y q2
        exact ⟨cc, w, (hcl2 y hy q1).trans e, k.cell n⟩
    capart := fun y z cc a b => by
      by_cases hy : y = x
      · by_cases hz : z = x
        · rw [hy, hz]
        · rw [hy, hclx] at a; cases a
          exact absurd rfl (hcd2 z CC hz b)
      · by_cases hz : z = x
        · rw [hz, hclx] at b; cases b
          exact absurd rfl (hcd2 y CC hy a)
        · exact F.capart y z cc (hcl1 y cc hy a) (hcl1 z cc hz b)
    vals := fun i y t h1 h2 => by
      rcases get i y t h1 h2 with ⟨_, rfl, rfl⟩ | ⟨_, n1, n2, n3⟩
      · exact ⟨v, .inr ⟨kx, CC, hclx, hCC⟩, hr⟩
      · obtain ⟨w, nv, r⟩ := F.vals i y t n1 n3
        have hfr := K.cap i n2 y n1
        have hcell := K.free y (mem_of_lookup hfr)
        have hyx : y ≠ x := fun e => by rw [e, K.var] at hfr; cases hfr
        rcases nv with ⟨q, _⟩ | ⟨q, cc, e, n⟩
        · rw [hcell] at q; cases q
        · exact ⟨w, .inr ⟨kc y hfr, cc, (hcl2 y hyx (mem_of_lookup hfr)).trans e, k.cell n⟩, r.mono (vis_new k hN fun n a e => by rw [hM]; exact e) (fun a e => by rw [hO]; exact e) fun a vs _ l => k.isL l⟩
    own := fun i a e => by
      rw [hO] at e
      obtain ⟨p, q, r, vs, l⟩ := F.own i a e
      exact ⟨hH a p, q, fun n => by rw [hM]; exact r n, vs, k.isL l⟩
    oinj := fun i j a => by rw [hO]; exact F.oinj i j a
    sto := F.sto.new k hH hN hM
    mh0 := fun n a e => F.mh0 n a (by rw [← hM]; exact e)
    n0le := F.n0le }
end Mine
end
section
open PySem PySem.W PyProof.Rows
namespace Mine
set_option linter.unusedVariables false
/-- what a comprehension over a row l does: it makes the list ys -/
noncomputable def CompSpec (c : Cx) (q : Bool) (k : Nat) (A : Around) (names : List Str) (env : Env) (st : Fs) (fe : FE) (scope : Scope) (ce : Expr) (H : Hd) (l ys : List AV) : Prop :=
  ∀ {s₁ s₂ : Shared} {cl : List (Str × Addr)} {I : Addr} {fp : Addr → Prop} {P : Nat → Value → Prop} {St : Nat → Heap → Prop} {E : Value → Shared → Prop} {RR : Value → Addr → Result → Shared → Prop},
    Rm c q k A s₁.heap → Fm c (FrA A) names env st fe H s₁.heap → (∀ y cc, cl.lookup y = some cc → env.cells.lookup y = some cc) → (∀ y, (y, NameKind.free) ∈ scope.names → cl.lookup y = env.cells.lookup y) → (∀ y cc, cl.lookup y = some cc → (y, NameKind.free) ∈ scope.names) →
    (∃ h' tk, s₂ = { s₁ with heap := h', toks := tk }) → (∀ b o, s₁.heap.get? b = some o → s₂.heap.get? b = some o) → s₁.heap.get? I = none → (∀ b, fp b → ∃ o, s₂.heap.get? b = some o) → fp I →
    Itr c A I fp P l.length St → St 0 s₂.heap → l.length ≤ 1048576 → (∀ (i : Nat) v y, P i v → l[i]? = some y → Rep (vis s₁.heap H) v y) →
    (∀ D C h' tk m' vs, s₂.heap.get? D = none → s₂.heap.get? C = none → D ≠ C → h'.Ns C m' → IsL h' D vs → RepL (vis h' (H.add fun b => b = C ∨ b = D ∨ b = I)) vs ys → Kv (FrA A) (fun b => b = I) s₂.heap h' →
      RR (.ref D) C (.ok .next) { s₂ with heap := h', toks := tk }) →
    wpAny c.M A (newList []) (fun acc s₃ => wpAny c.M A (newFunctionEnv scope env.globals cl [] env.qual none .none (some env)) (fun cenv s₄ =>
      codeAny c.M A (.compStart ce 0 (.ref I) acc { cenv with scope := relabel scope env }) (RR acc cenv.locals) s₄) E s₃) E s₂
theorem comp_spec1 {c : Cx} {q : Bool} {k : Nat} {A : Around} {fe : FE} {names : List Str} {env : Env} {st : Fs} {elt iter : Expr} {x : Str} {px pos : Pos} {ifs : List Expr} {scope : Scope} {caps : List Nat} {H : Hd} {l ys : List AV} {f : AV → Option (Option AV)} (hlen : st.ρ.length = names.length) (K : CompOk names env scope x caps)
    (hf : mapF f l = some ys) (T : TurnOk c q k A names env st fe scope x caps elt ifs f) : CompSpec c q k A names env st fe scope (.ListComp elt [⟨.Name x px, iter, ifs, 0⟩] scope pos) H l ys :=
  fun hm F hcl1 hcl2 _ hs hk hI hIl hfI W hst hsz hP hR => comp_core hm F hlen K hcl1 hcl2 hs hk hI hIl hfI W hst hsz hP hf T hR
theorem comp_specC {c : Cx} {q : Bool} {k : Nat} {A : Around} {fe : FE} {names : List Str} {env : Env} {st : Fs} {elt iter : Expr} {x : Str} {px pos : Pos} {ifs : List Expr} {scope : Scope} {caps : List Nat} {H : Hd} {l ys : List AV} {f : AV → Option (Option AV)} (hlen : st.ρ.length = names.length) (K : CompOkC names env scope x caps) (hxf : (x, NameKind.free) ∉ scope.names)
    (hf : mapF f l = some ys) (T : TurnOk c q k A names env st fe scope x caps elt ifs f) : CompSpec c q k A names env st fe scope (.ListComp elt [⟨.Name x px, iter, ifs, 0⟩] scope pos) H l ys := by
  intro s₁ s₂ cl I fp P St E RR hm F hcl1 hcl2 hcl3 hs hk hI hIl hfI W hst hsz hP hR
  refine wpAny_newObj_type (nfe_one K.cell ?_)
  dsimp only
  generalize hD : s₂.heap.objs.size = D
  generalize hH2 : s₂.heap.push { cls := .type "list", dict := none, data := .seq ([] : List Value).toArray } = H2
  generalize hC : H2.objs.size = C
  generalize hH4 : H2.push { cls := .type "dict", dict := none, data := .dict #[] } = H4
  have hH4s : H4.objs.size = C + 1 := by rw [← hH4, Heap.size_push, hC]
  generalize hh1 : H4.push { cls := .type "cell", dict := none, data := .cell none } = h₁
  generalize hCC : C + 1 = CC
  have hCD : C = D + 1 := by rw [← hC, ← hH2, Heap.size_push, hD]
  have hDC : D ≠ C := by omega
  have hCCC : C ≠ CC := by omega
  have hDCC : D ≠ CC := by omega
  have hDn : s₂.heap.get? D = none := Heap.get?_none_of_le (by omega)
  have hCn : s₂.heap.get? C = none := Heap.get?_none_of_le (by omega)
  have hCCn : s₂.heap.get? CC = none := Heap.get?_none_of_le (by omega)
  have back : ∀ {b}, s₂.heap.get? b = none → s₁.heap.get? b = none := fun {b} n => by
    cases e : s₁.heap.get? b with
    | none => rfl
    | some o => have := hk _ _ e; rw [n] at this; cases this
  have hDn₁ := back hDn
  have hCn₁ := back hCn
  have hCCn₁ := back hCCn
  have old2 : ∀ b o, H2.get? b = some o → h₁.get? b = some o := fun b o e => by
    rw [← hh1, ← hH4]; exact Heap.get?_push_of_some _ (Heap.get?_push_of_some _ e)
  have old : ∀ b o, s₂.heap.get? b = some o → h₁.get? b = some o := fun b o e => old2 b o (by rw [← hH2]; exact Heap.get?_push_of_some _ e)
  have hacc : IsL h₁ D [] := by
    have e1 : H2.get? D = some { cls := .type "list", dict := none, data := .seq ([] : List Value).toArray } := by rw [← hH2, ← hD]; exact Heap.get?_push_size _ rfl
    exact ⟨_, _, old2 _ _ e1, rfl, rfl, rfl⟩
  have hns₁ : h₁.Ns C (fun _ => none) := by
    have n1 : H4.Ns C (fun _ => none) := by rw [← hH4, ← hC]; exact Heap.Ns.new H2 (.type "dict")
    obtain ⟨o, es, ep, e, r⟩ := n1
    exact ⟨o, es, ep, by rw [← hh1]; exact Heap.get?_push_of_some _ e, r⟩
  have hcell₁ : h₁.IsCell CC none := by
    refine ⟨_, by rw [← hh1, ← hCC, ← hH4s]; exact Heap.get?_push_size _ rfl, rfl⟩
  obtain ⟨hI0, tkI, rfl⟩ := hs
  dsimp only at *
  obtain ⟨oI, hoI⟩ := hIl I hfI
  have hIC : I ≠ C := fun q => by rw [q, hCn] at hoI; cases hoI
  have hID : I ≠ D := fun q => by rw [q, hDn] at hoI; cases hoI
  have hICC : I ≠ CC := fun q => by rw [q, hCCn] at hoI; cases hoI
  have fpC : ∀ b, fp b → b ≠ C ∧ b ≠ D ∧ b ≠ CC := fun b hb => by
    obtain ⟨o, ho⟩ := hIl b hb
    exact ⟨fun q => by (rw [q, hCn] at ho; cases ho), fun q => by (rw [q, hDn] at ho; cases ho), fun q => by (rw [q, hCCn] at ho; cases ho)⟩
  generalize hH3 : (H.add fun b => b = C ∨ b = D ∨ b = I ∨ b = CC) = H₃
  have hM3 : H₃.m = H.m := by rw [← hH3]; rfl
  have hO3 : H₃.o = H.o := by rw [← hH3]; rfl
  have hHH : ∀ b, H.p b → H₃.p b := fun b z => by rw [← hH3]; exact .inl z
  have hW3 : ∀ b, (b = C ∨ b = D ∨ b = I ∨ b = CC) → H₃.p b := fun b z => by rw [← hH3]; exact .inr z
  have hHN : ∀ b, H₃.p b → H.p b ∨ s₁.heap.get? b = none := fun b z => by
    rw [← hH3] at z
    rcases z with z | z | z | z | z
    · exact .inl z
    · exact .inr (z ▸ hCn₁)
    · exact .inr (z ▸ hDn₁)
    · exact .inr (z ▸ hI)
    · exact .inr (z ▸ hCCn₁)
  have hkH1 : Kh (FrA A) s₁.heap h₁ := Kh.of_keeps fun b o e => old b o (hk b o e)
  have hst₁ : St 0 h₁ := W.frame _ _ _ hst fun b o _ e => ⟨fun _ => old b o e, o.slots, old b o e⟩
  have dead : ∀ {b o}, s₁.heap.get? b = some o → ¬ (b = C ∨ b = D ∨ b = I ∨ b = CC) := fun {b o} e => by
    rintro (z | z | z | z)
    · rw [z, hCn₁] at e; cases e
    · rw [z, hDn₁] at e; cases e
    · rw [z, hI] at e; cases e
    · rw [z, hCCn₁] at e; cases e
  have kxl : (compEnvC scope ((x, CC) :: cl) C env).kindOf x = some .cell := lookup_relabel_is (by decide) K.var
  have clx : (compEnvC scope ((x, CC) :: cl) C env).cells.lookup x = some CC := by show List.lookup x ((x, CC) :: cl) = _; simp
  have cly : ∀ y, y ≠ x → List.lookup y ((x, CC) :: cl) = cl.lookup y := fun y hy => by
    have : (y == x) = false := by simpa using hy
    rw [List.lookup_cons, this]
  have cne : ∀ y cc, env.kindOf y = some .cell → env.cells.lookup y = some cc → cc ≠ CC := fun y cc h1 h2 z => by
    obtain ⟨o, e⟩ := F.hlt cc (F.hc y cc h1 h2).1
    rw [z, hCCn₁] at e; cases e
  have loop : ∀ s₃ : Shared, s₃ = { s₁ with heap := h₁, toks := tkI } →
      codeAny c.M A (.compLoop (.ListComp elt [⟨.Name x px, iter, ifs, 0⟩] scope pos) 0 (.ref I) (.ref D) (compEnvC scope ((x, CC) :: cl) C env)) (RR (.ref D) C) s₃ := by
    rintro s₃ rfl
    refine codeAny_compLoop_tests (fun n s' => ∃ h' tk m' j zs vs cv, s' = { s₁ with heap := h', toks := tk } ∧ St j h' ∧ j ≤ l.length ∧ n = l.length + 1 - j ∧ IsL h' D vs ∧ mapF f (l.take j) = some zs ∧
      RepL (vis h' H₃) vs zs ∧ h'.Ns C m' ∧ h'.IsCell CC cv ∧ Kv (FrA A) (fun b => b = C ∨ b = D ∨ b = I ∨ b = CC) h₁ h' ∧ (∃ o, h'.get? I = some o)) ?_ (l.length + 1)
      ⟨h₁, _, _, 0, [], [], none, rfl, hst₁, Nat.zero_le _, rfl, hacc, by simp [mapF], by simp [RepL], hns₁, hcell₁, Kv.refl _ _ _, oI, old _ _ hoI⟩
    rintro n s' ⟨h', tk, m', j, zs, vs, cv, rfl, hst', hj, rfl, hD', hzs, hvs, hC', hcv, hkv, hoI'⟩
    by_cases hlt : j < l.length
    · obtain ⟨item, hit⟩ : ∃ y, l[j]? = some y := ⟨l[j], by simp [hlt]⟩
      refine W.item j _ _ _ hlt hst' fun v h₂ tk₂ hPv hst₂ hk₂ hI₂ => ?_
      dsimp only
      obtain ⟨oI₂, hoI₂⟩ := hI₂
      have kv₂ : Kv (FrA A) (fun b => b = C ∨ b = D ∨ b = I ∨ b = CC) h' h₂ := Kv.of_but hk₂ (.inr (.inr (.inl rfl)))
      obtain ⟨oC, esC, epC, hoC, rC⟩ := hC'
      have hC₂ : h₂.Ns C m' := ⟨oC, esC, epC, hk₂ C oC (Ne.symm hIC) hoC, rC⟩
      have hcv₂ : h₂.IsCell CC cv := let ⟨o, e, r⟩ := hcv; ⟨o, hk₂ CC o (Ne.symm hICC) e, r⟩
      have hD₂ : IsL h₂ D vs := hD'.at' fun o e => hk₂ D o (Ne.symm hID) e
      refine wpAny_assign_Name (wpAny_storeName_cell (env := compEnvC scope ((x, CC) :: cl) C env) (by show (relabel scope env).kind = _; exact K.kind) kxl clx hcv₂ (fun h₃ hcv₃ hs₃ => ?_))
      have kv₃ : Kv (FrA A) (fun b => b = C ∨ b = D ∨ b = I ∨ b = CC) h₂ h₃ := Kv.of_sameBut hs₃ (.inr (.inr (.inr rfl)))
      have kv13 := (hkv.trans kv₂).trans kv₃
      have kh₃ : Kh (FrA A) s₁.heap h₃ := hkH1.trans' kv13 fun b o e => dead e
      have hn₃ : h₃.Ns C m' := hC₂.sameBut hs₃ hCCC
      have hD₃ : IsL h₃ D vs := hD₂.at' fun o e => hs₃.extBut D o hDCC e
      have hst₃ : St (j + 1) h₃ := W.frame _ _ _ hst₂ fun b o hb e => ⟨fun _ => hs₃.extBut b o (fpC b hb).2.2 e, o.slots, hs₃.extBut b o (fpC b hb).2.2 e⟩
      have hoI₃ : h₃.get? I = some oI₂ := hs₃.extBut I oI₂ hICC hoI₂
      have live₃ : Live H₃ h₃ := fun b z => by
        rw [← hH3] at z
        rcases z with z | rfl | rfl | rfl | rfl
        · obtain ⟨o, e⟩ := F.hlt b z
          obtain ⟨sl, e'⟩ := (kh₃ b o e).2
          exact ⟨_, e'⟩
        · obtain ⟨o, _, _, e, _⟩ := hn₃; exact ⟨o, e⟩
        · obtain ⟨o, _, e, _⟩ := hD₃; exact ⟨o, e⟩
        · exact ⟨_, hoI₃⟩
        · obtain ⟨o, e, _⟩ := hcv₃; exact ⟨o, e⟩
      have F₃ : Fm c (FrA A) (names ++ [x]) (compEnvC scope ((x, CC) :: cl) C env) (st.inner caps item) fe H₃ h₃ :=
        comp_fmC F hlen K kh₃ hHH hHN hM3 hO3 live₃ hn₃ (hW3 C (.inl rfl)) hCn₁ hcv₃ (hW3 CC (.inr (.inr (.inr rfl)))) hCCn₁ (Rep.mono (vis_new kh₃ hHN fun n a e => by rw [hM3]; exact e) (hP j v item hPv hit)) rfl rfl rfl rfl clx
          (fun y cc hy q => hcl1 y cc (by rw [← cly y hy]; exact q)) (fun y hy q => (cly y hy).trans (hcl2 y q)) hxf cne
          (fun y cc hy q => by
            have q : cl.lookup y = some cc := by rw [← cly y hy]; exact q
            exact cne y cc (K.free y (hcl3 y cc q)) (hcl1 y cc q))
      have hm₃ : Rm c q k A h₃ := hm.nf kh₃.nf
      have TT := T item { s₁ with heap := h₃, toks := tk₂ } H₃ (compEnvC scope ((x, CC) :: cl) C env) rfl hm₃ F₃
      rcases mapF_step hf hit hzs with ⟨y, hy, hzs'⟩ | ⟨hy, hzs'⟩
      · obtain ⟨t1, t2⟩ := TT.1 y hy
        refine t1 _ _ fun s₄ k₄ => ?_
        simp only [if_true]
        refine t2 s₄ k₄ _ _ fun yv s₅ k₅ ry => ?_
        have k35 := k₄.trans k₅
        clear k₅
        obtain ⟨h₅, tk₅, e₅, kh₅⟩ := k35
        subst e₅
        have hD₅ := kh₅.isL hD₃
        have hvl : vs.length ≤ 1048576 := by
          have e1 := hvs.length
          have e2 := mapF_length hzs
          have e3 : (l.take j).length ≤ l.length := by rw [List.length_take]; omega
          omega
        have hsz' : (List.toArray vs).size ≤ sizeLine := by
          rw [List.size_toArray, show sizeLine = 16777216 from by decide]
          omega
        refine list_appendL hsz' hD₅ fun h₆ hl₆ hs₆ => ?_
        have kv56 : Kv (FrA A) (fun b => b = C ∨ b = D ∨ b = I ∨ b = CC) h₅ h₆ := Kv.of_sameBut hs₆ (.inr (.inl rfl))
        refine ⟨l.length + 1 - (j + 1), by omega, h₆, tk₅, m', j + 1, zs ++ [y], vs ++ [yv], some v, rfl, ?_, hlt, rfl, hl₆, hzs', ?_, ?_, ?_, ((kv13.trans kh₅.kv).trans kv56), ?_⟩
        · refine W.frame _ _ _ hst₃ fun b o hb e => ⟨fun hf => hs₆.extBut b _ (fpC b hb).2.1 ((kh₅ b o e).1 (.inr hf)), ?_⟩
          obtain ⟨sl, e'⟩ := (kh₅ b o e).2
          exact ⟨sl, hs₆.extBut b _ (fpC b hb).2.1 e'⟩
        · have kvis : (vis h₅ H₃).Le (vis h₆ H₃) := kv56.vis hW3
          have kvis2 : (vis h' H₃).Le (vis h₆ H₃) := (((kv₂.trans kv₃).vis hW3).trans kh₅.vis).trans kvis
          exact RepL.append (RepL.mono kvis2 hvs) (by simp only [RepL]; exact ⟨Rep.mono kvis ry, trivial⟩)
        · exact (kh₅.ns hn₃).sameBut hs₆ (Ne.symm hDC)
        · exact (kh₅.cell hcv₃).sameBut hs₆ (Ne.symm hDCC)
        · obtain ⟨sl, e'⟩ := (kh₅ I _ hoI₃).2
          exact ⟨_, hs₆.extBut I _ hID e'⟩
      · refine TT.2 hy _ _ fun s₄ k₄ => ?_
        simp only [Bool.false_eq_true, if_false]
        obtain ⟨h₄, tk₄, rfl, kh₄⟩ := k₄
        refine ⟨l.length + 1 - (j + 1), by omega, h₄, tk₄, m', j + 1, zs, vs, some v, rfl, ?_, hlt, rfl, kh₄.isL hD₃, hzs', ?_, kh₄.ns hn₃, kh₄.cell hcv₃, kv13.trans kh₄.kv, ?_⟩
        · exact W.frame _ _ _ hst₃ fun b o hb e => ⟨fun hf => (kh₄ b o e).1 (.inr hf), (kh₄ b o e).2⟩
        · exact RepL.mono (((kv₂.trans kv₃).vis hW3).trans kh₄.vis) hvs
        · obtain ⟨sl, e'⟩ := (kh₄ I _ hoI₃).2
          exact ⟨_, e'⟩
    · have hjl : j = l.length := by omega
      subst hjl
      refine W.done _ _ _ hst' fun h₂ tk₂ hk₂ => ?_
      have kv₂ : Kv (FrA A) (fun b => b = C ∨ b = D ∨ b = I ∨ b = CC) h' h₂ := Kv.of_but hk₂ (.inr (.inr (.inl rfl)))
      rw [List.take_length, hf] at hzs
      cases hzs
      obtain ⟨oC, esC, epC, hoC, rC⟩ := hC'
      refine hR D C h₂ tk₂ m' vs hDn hCn hDC ⟨oC, esC, epC, hk₂ C oC (Ne.symm hIC) hoC, rC⟩ (hD'.at' fun o e => hk₂ D o (Ne.symm hID) e) ?_ ?_
      · have r1 := RepL.mono (kv₂.vis hW3) hvs
        refine RepL.mono (vis_hide (H := H.add fun b => b = C ∨ b = D ∨ b = I) (H' := H₃) (fun b z => ?_) (fun n a e => by have e : H₃.m n = some a := e; rw [hM3] at e; exact e)) r1
        rw [← hH3]
        exact z.imp id fun z => z.imp id fun z => z.imp id .inl
      · intro b o nb e
        have e1 := old b o e
        have nC : ¬ (b = C ∨ b = D ∨ b = I ∨ b = CC) := by
          rintro (z | z | z | z)
          · rw [z, hCn] at e; cases e
          · rw [z, hDn] at e; cases e
          · exact nb z
          · rw [z, hCCn] at e; cases e
        exact (hkv.trans kv₂) b o nC e1
  exact codeAny_compStart_list (loop _ rfl) (W.self 0 _ _ _ hst₁ (loop _ rfl))
end Mine
end
section
open PySem PySem.W PyProof.Rows
namespace Mine

noncomputable def encC : AV → Const → Bool
  | .int i, .int j => i == j
  | .bool a, .bool b => a == b
  | .none, .none => true
  | .str s, .str t => s == t
  | _, _ => false

noncomputable def BI.isTy : BI → Bool
  | .range | .list | .tuple | .type | .bytes | .str => true
  | _ => false
theorem BI.boot_ty : ∀ {b : BI}, b.isTy = true → bootBuiltins (Str.ofString b.name) = some (.type b.name)
  | .range, _ => PyProof.Rows.Boot.«range»
  | .list, _ => PyProof.Rows.Boot.«list»
  | .tuple, _ => PyProof.Rows.Boot.«tuple»
  | .type, _ => PyProof.Rows.Boot.«type»
  | .bytes, _ => PyProof.Rows.Boot.«bytes»
  | .str, _ => PyProof.Rows.Boot.«str»
noncomputable def BI.val (b : BI) : Value := if b.isTy then .type b.name else .builtin b.name
theorem BI.boot : ∀ (b : BI), bootBuiltins (Str.ofString b.name) = some b.val
  | .range => PyProof.Rows.Boot.«range»
  | .list => PyProof.Rows.Boot.«list»
  | .tuple => PyProof.Rows.Boot.«tuple»
  | .type => PyProof.Rows.Boot.«type»
  | .bytes => PyProof.Rows.Boot.«bytes»
  | .str => PyProof.Rows.Boot.«str»
  | .len => PyProof.Rows.Boot.«len»
  | .max => PyProof.Rows.Boot.«max»
  | .isinstance => PyProof.Rows.Boot.«isinstance»
  | .chr => PyProof.Rows.Boot.«chr»
  | .hasattr => PyProof.Rows.Boot.«hasattr»

noncomputable def isGlob (ks : List (Str × NameKind)) (x : Str) : Bool := ks.lookup x == some NameKind.globalImplicit && !(x == ("__debug__" : Str)) && !(x == ("__name__" : Str))

noncomputable def relab (ks : List (Str × NameKind)) (names : List (Str × NameKind)) : List (Str × NameKind) :=
  names.map fun p => if (p.2 == NameKind.free && ks.lookup p.1 == some NameKind.cell) then (p.1, NameKind.cell) else (p.1, p.2)

noncomputable def compOkB (ks : List (Str × NameKind)) (ns : List Str) (scope : Scope) (x : Str) (caps : List Nat) : Bool :=
  scope.names.all (fun y => !(y.2 == .cell)) && scope.kind == .function && scope.names.all (fun y => !(y.2 == .local) || scope.names.lookup y.1 == some .local) && scope.names.lookup x == some .local &&
  scope.names.all (fun y => !(y.2 == .free) || ks.lookup y.1 == some .cell) && caps.all (fun i => match ns[i]? with | some y => scope.names.lookup y == some .free | none => true)

noncomputable def compOkCB (ks : List (Str × NameKind)) (ns : List Str) (scope : Scope) (x : Str) (caps : List Nat) : Bool :=
  scope.names.filter (fun p => p.2 == .cell) == [(x, .cell)] && scope.kind == .function && scope.names.all (fun y => !(y.2 == .local) || scope.names.lookup y.1 == some .local) && scope.names.lookup x == some .cell &&
  scope.names.all (fun y => !(y.2 == .free) || ks.lookup y.1 == some .cell) && caps.all (fun i => match ns[i]? with | some y => scope.names.lookup y == some .free | none => true) && !(scope.names.contains (x, .free))

/-- what is looked at of an expression -/
structure EH where
  cst : Const → Bool := fun _ => false
  name : Str → Bool := fun _ => false
  bin : Expr → Operator → Expr → Bool := fun _ _ _ => false
  un : UnaryOp → Expr → Bool := fun _ _ => false
  cmp : Expr → List CmpOp → List Expr → Bool := fun _ _ _ => false
  bop : BoolOp → List Expr → Bool := fun _ _ => false
  ife : Expr → Expr → Expr → Bool := fun _ _ _ => false
  list : List Expr → Bool := fun _ => false
  tup : List Expr → Nat → Pos → Bool := fun _ _ _ => false
  sub : Expr → Expr → Bool := fun _ _ => false
  slice : Option Expr → Option Expr → Option Expr → Bool := fun _ _ _ => false
  call : Expr → List Expr → List Keyword → Pos → Bool := fun _ _ _ _ => false
  attr : Expr → Str → Pos → Bool := fun _ _ _ => false
  comp : Expr → List Comprehension → Scope → Bool := fun _ _ _ => false
  set : List Expr → Nat → Bool := fun _ _ => false
  scomp : Expr → List Comprehension → Scope → Bool := fun _ _ _ => false
  dcomp : Expr → Expr → List Comprehension → Scope → Bool := fun _ _ _ _ => false
noncomputable def onE (h : EH) : Expr → Bool
  | .Constant c _ _ => h.cst c
  | .Name x _ => h.name x
  | .BinOp l o r _ => h.bin l o r
  | .UnaryOp o x _ => h.un o x
  | .Compare l o r _ => h.cmp l o r
  | .BoolOp o l _ => h.bop o l
  | .IfExp t a b _ => h.ife t a b
  | .List l _ => h.list l
  | .Tuple l k p => h.tup l k p
  | .Subscript o i _ => h.sub o i
  | .Slice a b c _ => h.slice a b c
  | .Call f a k p => h.call f a k p
  | .Attribute o n p => h.attr o n p
  | .ListComp e g s _ => h.comp e g s
  | .Set l k _ => h.set l k
  | .SetComp e g s _ => h.scomp e g s
  | .DictComp k v g s _ => h.dcomp k v g s
  | _ => false
noncomputable def one? {α : Type} (l : List α) (f : α → Bool) : Bool := match l with
  | [x] => f x
  | _ => false
noncomputable def two? {α : Type} (l : List α) (f : α → α → Bool) : Bool := match l with
  | [x, y] => f x y
  | _ => false
noncomputable def nil? {α : Type} (l : List α) (b : Bool) : Bool := match l with
  | [] => b
  | _ => false
theorem one?_eq {α : Type} {l : List α} {f : α → Bool} (h : one? l f = true) : ∃ x, l = [x] ∧ f x = true := by
  rcases l with _ | ⟨x, _ | ⟨y, r⟩⟩
  · cases h
  · exact ⟨x, rfl, h⟩
  · cases h
theorem two?_eq {α : Type} {l : List α} {f : α → α → Bool} (h : two? l f = true) : ∃ x y, l = [x, y] ∧ f x y = true := by
  rcases l with _ | ⟨x, _ | ⟨y, _ | ⟨z, r⟩⟩⟩
  · cases h
  · cases h
  · exact ⟨x, y, rfl, h⟩
  · cases h
theorem nil?_eq {α : Type} {l : List α} {b : Bool} (h : nil? l b = true) : l = [] ∧ b = true := by
  cases l with
  | nil => exact ⟨rfl, h⟩
  | cons _ _ => cases h
section
variable {ex : Expr}
theorem onE_elim {h : EH} {P : Expr → Prop} {ex : Expr} (he : onE h ex = true) (h0 : ∀ c k p, h.cst c = true → P (.Constant c k p)) (h1 : ∀ x p, h.name x = true → P (.Name x p)) (h2 : ∀ l o r p, h.bin l o r = true → P (.BinOp l o r p)) (h3 : ∀ o x p, h.un o x = true → P (.UnaryOp o x p)) (h4 : ∀ l o r p, h.cmp l o r = true → P (.Compare l o r p)) (h5 : ∀ o l p, h.bop o l = true → P (.BoolOp o l p)) (h6 : ∀ t a b p, h.ife t a b = true → P (.IfExp t a b p)) (h7 : ∀ l p, h.list l = true → P (.List l p)) (h8 : ∀ l k p, h.tup l k p = true → P (.Tuple l k p)) (h9 : ∀ o i p, h.sub o i = true → P (.Subscript o i p)) (h10 : ∀ a b c p, h.slice a b c = true → P (.Slice a b c p)) (h11 : ∀ g a k p, h.call g a k p = true → P (.Call g a k p)) (h12 : ∀ o n p, h.attr o n p = true → P (.Attribute o n p)) (h13 : ∀ e g s p, h.comp e g s = true → P (.ListComp e g s p)) (h14 : ∀ l k p, h.set l k = true → P (.Set l k p)) (h15 : ∀ e g s p, h.scomp e g s = true → P (.SetComp e g s p)) (h16 : ∀ k v g s p, h.dcomp k v g s = true → P (.DictComp k v g s p)) : P ex := by
  cases ex with
  | Constant c k p => exact h0 c k p he
  | Name x p => exact h1 x p he
  | BinOp l o r p => exact h2 l o r p he
  | UnaryOp o x p => exact h3 o x p he
  | Compare l o r p => exact h4 l o r p he
  | BoolOp o l p => exact h5 o l p he
  | IfExp t a b p => exact h6 t a b p he
  | List l p => exact h7 l p he
  | Tuple l k p => exact h8 l k p he
  | Subscript o i p => exact h9 o i p he
  | Slice a b c p => exact h10 a b c p he
  | Call g a k p => exact h11 g a k p he
  | Attribute o n p => exact h12 o n p he
  | ListComp e g s p => exact h13 e g s p he
  | Set l k p => exact h14 l k p he
  | SetComp e g s p => exact h15 e g s p he
  | DictComp k v g s p => exact h16 k v g s p he
  | _ => exact (Bool.false_ne_true he).elim
theorem onE_cst {f} (h : onE { cst := f } ex = true) : ∃ c k p, ex = .Constant c k p ∧ f c = true :=
  onE_elim (P := fun ex => ∃ c k p, ex = .Constant c k p ∧ f c = true) h (fun c k p z => ⟨c, k, p, rfl, z⟩) (fun _ _ z => (Bool.false_ne_true z).elim) (fun _ _ _ _ z => (Bool.false_ne_true z).elim) (fun _ _ _ z => (Bool.false_ne_true z).elim) (fun _ _ _ _ z => (Bool.false_ne_true z).elim) (fun _ _ _ z => (Bool.false_ne_true z).elim) (fun _ _ _ _ z => (Bool.false_ne_true z).elim) (fun _ _ z => (Bool.false_ne_true z).elim) (fun _ _ _ z => (Bool.false_ne_true z).elim) (fun _ _ _ z => (Bool.false_ne_true z).elim) (fun _ _ _ _ z => (Bool.false_ne_true z).elim) (fun _ _ _ _ z => (Bool.false_ne_true z).elim) (fun _ _ _ z => (Bool.false_ne_true z).elim) (fun _ _ _ _ z => (Bool.false_ne_true z).elim) (fun _ _ _ z => (Bool.false_ne_true z).elim) (fun _ _ _ _ z => (Bool.false_ne_true z).elim) (fun _ _ _ _ _ z => (Bool.false_ne_true z).elim)
theorem onE_name {f} (h : onE { name := f } ex = true) : ∃ x p, ex = .Name x p ∧ f x = true :=
  onE_elim (P := fun ex => ∃ x p, ex = .Name x p ∧ f x = true) h (fun _ _ _ z => (Bool.false_ne_true z).elim) (fun x p z => ⟨x, p, rfl, z⟩) (fun _ _ _ _ z => (Bool.false_ne_true z).elim) (fun _ _ _ z => (Bool.false_ne_true z).elim) (fun _ _ _ _ z => (Bool.false_ne_true z).elim) (fun _ _ _ z => (Bool.false_ne_true z).elim) (fun _ _ _ _ z => (Bool.false_ne_true z).elim) (fun _ _ z => (Bool.false_ne_true z).elim) (fun _ _ _ z => (Bool.false_ne_true z).elim) (fun _ _ _ z => (Bool.false_ne_true z).elim) (fun _ _ _ _ z => (Bool.false_ne_true z).elim) (fun _ _ _ _ z => (Bool.false_ne_true z).elim) (fun _ _ _ z => (Bool.false_ne_true z).elim) (fun _ _ _ _ z => (Bool.false_ne_true z).elim) (fun _ _ _ z => (Bool.false_ne_true z).elim) (fun _ _ _ _ z => (Bool.false_ne_true z).elim) (fun _ _ _ _ _ z => (Bool.false_ne_true z).elim)
theorem onE_bin {f} (h : onE { bin := f } ex = true) : ∃ l o r p, ex = .BinOp l o r p ∧ f l o r = true :=
  onE_elim (P := fun ex => ∃ l o r p, ex = .BinOp l o r p ∧ f l o r = true) h (fun _ _ _ z => (Bool.false_ne_true z).elim) (fun _ _ z => (Bool.false_ne_true z).elim) (fun l o r p z => ⟨l, o, r, p, rfl, z⟩) (fun _ _ _ z => (Bool.false_ne_true z).elim) (fun _ _ _ _ z => (Bool.false_ne_true z).elim) (fun _ _ _ z => (Bool.false_ne_true z).elim) (fun _ _ _ _ z => (Bool.false_ne_true z).elim) (fun _ _ z => (Bool.false_ne_true z).elim) (fun _ _ _ z => (Bool.false_ne_true z).elim) (fun _ _ _ z => (Bool.false_ne_true z).elim) (fun _ _ _ _ z => (Bool.false_ne_true z).elim) (fun _ _ _ _ z => (Bool.false_ne_true z).elim) (fun _ _ _ z => (Bool.false_ne_true z).elim) (fun _ _ _ _ z => (Bool.false_ne_true z).elim) (fun _ _ _ z => (Bool.false_ne_true z).elim) (fun _ _ _ _ z => (Bool.false_ne_true z).elim) (fun _ _ _ _ _ z => (Bool.false_ne_true z).elim)
theorem onE_un {f} (h : onE { un := f } ex = true) : ∃ o x p, ex = .UnaryOp o x p ∧ f o x = true :=
  onE_elim (P := fun ex => ∃ o x p, ex = .UnaryOp o x p ∧ f o x = true) h (fun _ _ _ z => (Bool.false_ne_true z).elim) (fun _ _ z => (Bool.false_ne_true z).elim) (fun _ _ _ _ z => (Bool.false_ne_true z).elim) (fun o x p z => ⟨o, x, p, rfl, z⟩) (fun _ _ _ _ z => (Bool.false_ne_true z).elim) (fun _ _ _ z => (Bool.false_ne_true z).elim) (fun _ _ _ _ z => (Bool.false_ne_true z).elim) (fun _ _ z => (Bool.false_ne_true z).elim) (fun _ _ _ z => (Bool.false_ne_true z).elim) (fun _ _ _ z => (Bool.false_ne_true z).elim) (fun _ _ _ _ z => (Bool.false_ne_true z).elim) (fun _ _ _ _ z => (Bool.false_ne_true z).elim) (fun _ _ _ z => (Bool.false_ne_true z).elim) (fun _ _ _ _ z => (Bool.false_ne_true z).elim) (fun _ _ _ z => (Bool.false_ne_true z).elim) (fun _ _ _ _ z => (Bool.false_ne_true z).elim) (fun _ _ _ _ _ z => (Bool.false_ne_true z).elim)
theorem onE_cmp {f} (h : onE { cmp := f } ex = true) : ∃ l o r p, ex = .Compare l o r p ∧ f l o r = true :=
  onE_elim (P := fun ex => ∃ l o r p, ex = .Compare l o r p ∧ f l o r = true) h (fun _ _ _ z => (Bool.false_ne_true z).elim) (fun _ _ z => (Bool.false_ne_true z).elim) (fun _ _ _ _ z => (Bool.false_ne_true z).elim) (fun _ _ _ z => (Bool.false_ne_true z).elim) (fun l o r p z => ⟨l, o, r, p, rfl, z⟩) (fun _ _ _ z => (Bool.false_ne_true z).elim) (fun _ _ _ _ z => (Bool.false_ne_true z).elim) (fun _ _ z => (Bool.false_ne_true z).elim) (fun _ _ _ z => (Bool.false_ne_true z).elim) (fun _ _ _ z => (Bool.false_ne_true z).elim) (fun _ _ _ _ z => (Bool.false_ne_true z).elim) (fun _ _ _ _ z => (Bool.false_ne_true z).elim) (fun _ _ _ z => (Bool.false_ne_true z).elim) (fun _ _ _ _ z => (Bool.false_ne_true z).elim) (fun _ _ _ z => (Bool.false_ne_true z).elim) (fun _ _ _ _ z => (Bool.false_ne_true z).elim) (fun _ _ _ _ _ z => (Bool.false_ne_true z).elim)
theorem onE_bop {f} (h : onE { bop := f } ex = true) : ∃ o l p, ex = .BoolOp o l p ∧ f o l = true :=
  onE_elim (P := fun ex => ∃ o l p, ex = .BoolOp o l p ∧ f o l = true) h (fun _ _ _ z => (Bool.false_ne_true z).elim) (fun _ _ z => (Bool.false_ne_true z).elim) (fun _ _ _ _ z => (Bool.false_ne_true z).elim) (fun _ _ _ z => (Bool.false_ne_true z).elim) (fun _ _ _ _ z => (Bool.false_ne_true z).elim) (fun o l p z => ⟨o, l, p, rfl, z⟩) (fun _ _ _ _ z => (Bool.false_ne_true z).elim) (fun _ _ z => (Bool.false_ne_true z).elim) (fun _ _ _ z => (Bool.false_ne_true z).elim) (fun _ _ _ z => (Bool.false_ne_true z).elim) (fun _ _ _ _ z => (Bool.false_ne_true z).elim) (fun _ _ _ _ z => (Bool.false_ne_true z).elim) (fun _ _ _ z => (Bool.false_ne_true z).elim) (fun _ _ _ _ z => (Bool.false_ne_true z).elim) (fun _ _ _ z => (Bool.false_ne_true z).elim) (fun _ _ _ _ z => (Bool.false_ne_true z).elim) (fun _ _ _ _ _ z => (Bool.false_ne_true z).elim)
theorem onE_ife {f} (h : onE { ife := f } ex = true) : ∃ t a b p, ex = .IfExp t a b p ∧ f t a b = true :=
  onE_elim (P := fun ex => ∃ t a b p, ex = .IfExp t a b p ∧ f t a b = true) h (fun _ _ _ z => (Bool.false_ne_true z).elim) (fun _ _ z => (Bool.false_ne_true z).elim) (fun _ _ _ _ z => (Bool.false_ne_true z).elim) (fun _ _ _ z => (Bool.false_ne_true z).elim) (fun _ _ _ _ z => (Bool.false_ne_true z).elim) (fun _ _ _ z => (Bool.false_ne_true z).elim) (fun t a b p z => ⟨t, a, b, p, rfl, z⟩) (fun _ _ z => (Bool.false_ne_true z).elim) (fun _ _ _ z => (Bool.false_ne_true z).elim) (fun _ _ _ z => (Bool.false_ne_true z).elim) (fun _ _ _ _ z => (Bool.false_ne_true z).elim) (fun _ _ _ _ z => (Bool.false_ne_true z).elim) (fun _ _ _ z => (Bool.false_ne_true z).elim) (fun _ _ _ _ z => (Bool.false_ne_true z).elim) (fun _ _ _ z => (Bool.false_ne_true z).elim) (fun _ _ _ _ z => (Bool.false_ne_true z).elim) (fun _ _ _ _ _ z => (Bool.false_ne_true z).elim)
theorem onE_list {f} (h : onE { list := f } ex = true) : ∃ l p, ex = .List l p ∧ f l = true :=
  onE_elim (P := fun ex => ∃ l p, ex = .List l p ∧ f l = true) h (fun _ _ _ z => (Bool.false_ne_true z).elim) (fun _ _ z => (Bool.false_ne_true z).elim) (fun _ _ _ _ z => (Bool.false_ne_true z).elim) (fun _ _ _ z => (Bool.false_ne_true z).elim) (fun _ _ _ _ z => (Bool.false_ne_true z).elim) (fun _ _ _ z => (Bool.false_ne_true z).elim) (fun _ _ _ _ z => (Bool.false_ne_true z).elim) (fun l p z => ⟨l, p, rfl, z⟩) (fun _ _ _ z => (Bool.false_ne_true z).elim) (fun _ _ _ z => (Bool.false_ne_true z).elim) (fun _ _ _ _ z => (Bool.false_ne_true z).elim) (fun _ _ _ _ z => (Bool.false_ne_true z).elim) (fun _ _ _ z => (Bool.false_ne_true z).elim) (fun _ _ _ _ z => (Bool.false_ne_true z).elim) (fun _ _ _ z => (Bool.false_ne_true z).elim) (fun _ _ _ _ z => (Bool.false_ne_true z).elim) (fun _ _ _ _ _ z => (Bool.false_ne_true z).elim)
theorem onE_tup {f} (h : onE { tup := f } ex = true) : ∃ l k p, ex = .Tuple l k p ∧ f l k p = true :=
  onE_elim (P := fun ex => ∃ l k p, ex = .Tuple l k p ∧ f l k p = true) h (fun _ _ _ z => (Bool.false_ne_true z).elim) (fun _ _ z => (Bool.false_ne_true z).elim) (fun _ _ _ _ z => (Bool.false_ne_true z).elim) (fun _ _ _ z => (Bool.false_ne_true z).elim) (fun _ _ _ _ z => (Bool.false_ne_true z).elim) (fun _ _ _ z => (Bool.false_ne_true z).elim) (fun _ _ _ _ z => (Bool.false_ne_true z).elim) (fun _ _ z => (Bool.false_ne_true z).elim) (fun l k p z => ⟨l, k, p, rfl, z⟩) (fun _ _ _ z => (Bool.false_ne_true z).elim) (fun _ _ _ _ z => (Bool.false_ne_true z).elim) (fun _ _ _ _ z => (Bool.false_ne_true z).elim) (fun _ _ _ z => (Bool.false_ne_true z).elim) (fun _ _ _ _ z => (Bool.false_ne_true z).elim) (fun _ _ _ z => (Bool.false_ne_true z).elim) (fun _ _ _ _ z => (Bool.false_ne_true z).elim) (fun _ _ _ _ _ z => (Bool.false_ne_true z).elim)
theorem onE_sub {f} (h : onE { sub := f } ex = true) : ∃ o i p, ex = .Subscript o i p ∧ f o i = true :=
  onE_elim (P := fun ex => ∃ o i p, ex = .Subscript o i p ∧ f o i = true) h (fun _ _ _ z => (Bool.false_ne_true z).elim) (fun _ _ z => (Bool.false_ne_true z).elim) (fun _ _ _ _ z => (Bool.false_ne_true z).elim) (fun _ _ _ z => (Bool.false_ne_true z).elim) (fun _ _ _ _ z => (Bool.false_ne_true z).elim) (fun _ _ _ z => (Bool.false_ne_true z).elim) (fun _ _ _ _ z => (Bool.false_ne_true z).elim) (fun _ _ z => (Bool.false_ne_true z).elim) (fun _ _ _ z => (Bool.false_ne_true z).elim) (fun o i p z => ⟨o, i, p, rfl, z⟩) (fun _ _ _ _ z => (Bool.false_ne_true z).elim) (fun _ _ _ _ z => (Bool.false_ne_true z).elim) (fun _ _ _ z => (Bool.false_ne_true z).elim) (fun _ _ _ _ z => (Bool.false_ne_true z).elim) (fun _ _ _ z => (Bool.false_ne_true z).elim) (fun _ _ _ _ z => (Bool.false_ne_true z).elim) (fun _ _ _ _ _ z => (Bool.false_ne_true z).elim)
theorem onE_slice {f} (h : onE { slice := f } ex = true) : ∃ a b c p, ex = .Slice a b c p ∧ f a b c = true :=
  onE_elim (P := fun ex => ∃ a b c p, ex = .Slice a b c p ∧ f a b c = true) h (fun _ _ _ z => (Bool.false_ne_true z).elim) (fun _ _ z => (Bool.false_ne_true z).elim) (fun _ _ _ _ z => (Bool.false_ne_true z).elim) (fun _ _ _ z => (Bool.false_ne_true z).elim) (fun _ _ _ _ z => (Bool.false_ne_true z).elim) (fun _ _ _ z => (Bool.false_ne_true z).elim) (fun _ _ _ _ z => (Bool.false_ne_true z).elim) (fun _ _ z => (Bool.false_ne_true z).elim) (fun _ _ _ z => (Bool.false_ne_true z).elim) (fun _ _ _ z => (Bool.false_ne_true z).elim) (fun a b c p z => ⟨a, b, c, p, rfl, z⟩) (fun _ _ _ _ z => (Bool.false_ne_true z).elim) (fun _ _ _ z => (Bool.false_ne_true z).elim) (fun _ _ _ _ z => (Bool.false_ne_true z).elim) (fun _ _ _ z => (Bool.false_ne_true z).elim) (fun _ _ _ _ z => (Bool.false_ne_true z).elim) (fun _ _ _ _ _ z => (Bool.false_ne_true z).elim)
theorem onE_call {f} (h : onE { call := f } ex = true) : ∃ g a k p, ex = .Call g a k p ∧ f g a k p = true :=
  onE_elim (P := fun ex => ∃ g a k p, ex = .Call g a k p ∧ f g a k p = true) h (fun _ _ _ z => (Bool.false_ne_true z).elim) (fun _ _ z => (Bool.false_ne_true z).elim) (fun _ _ _ _ z => (Bool.false_ne_true z).elim) (fun _ _ _ z => (Bool.false_ne_true z).elim) (fun _ _ _ _ z => (Bool.false_ne_true z).elim) (fun _ _ _ z => (Bool.false_ne_true z).elim) (fun _ _ _ _ z => (Bool.false_ne_true z).elim) (fun _ _ z => (Bool.false_ne_true z).elim) (fun _ _ _ z => (Bool.false_ne_true z).elim) (fun _ _ _ z => (Bool.false_ne_true z).elim) (fun _ _ _ _ z => (Bool.false_ne_true z).elim) (fun g a k p z => ⟨g, a, k, p, rfl, z⟩) (fun _ _ _ z => (Bool.false_ne_true z).elim) (fun _ _ _ _ z => (Bool.false_ne_true z).elim) (fun _ _ _ z => (Bool.false_ne_true z).elim) (fun _ _ _ _ z => (Bool.false_ne_true z).elim) (fun _ _ _ _ _ z => (Bool.false_ne_true z).elim)
theorem onE_attr {f} (h : onE { attr := f } ex = true) : ∃ o n p, ex = .Attribute o n p ∧ f o n p = true :=
  onE_elim (P := fun ex => ∃ o n p, ex = .Attribute o n p ∧ f o n p = true) h (fun _ _ _ z => (Bool.false_ne_true z).elim) (fun _ _ z => (Bool.false_ne_true z).elim) (fun _ _ _ _ z => (Bool.false_ne_true z).elim) (fun _ _ _ z => (Bool.false_ne_true z).elim) (fun _ _ _ _ z => (Bool.false_ne_true z).elim) (fun _ _ _ z => (Bool.false_ne_true z).elim) (fun _ _ _ _ z => (Bool.false_ne_true z).elim) (fun _ _ z => (Bool.false_ne_true z).elim) (fun _ _ _ z => (Bool.false_ne_true z).elim) (fun _ _ _ z => (Bool.false_ne_true z).elim) (fun _ _ _ _ z => (Bool.false_ne_true z).elim) (fun _ _ _ _ z => (Bool.false_ne_true z).elim) (fun o n p z => ⟨o, n, p, rfl, z⟩) (fun _ _ _ _ z => (Bool.false_ne_true z).elim) (fun _ _ _ z => (Bool.false_ne_true z).elim) (fun _ _ _ _ z => (Bool.false_ne_true z).elim) (fun _ _ _ _ _ z => (Bool.false_ne_true z).elim)
theorem onE_comp {f} (h : onE { comp := f } ex = true) : ∃ e g s p, ex = .ListComp e g s p ∧ f e g s = true :=
  onE_elim (P := fun ex => ∃ e g s p, ex = .ListComp e g s p ∧ f e g s = true) h (fun _ _ _ z => (Bool.false_ne_true z).elim) (fun _ _ z => (Bool.false_ne_true z).elim) (fun _ _ _ _ z => (Bool.false_ne_true z).elim) (fun _ _ _ z => (Bool.false_ne_true z).elim) (fun _ _ _ _ z => (Bool.false_ne_true z).elim) (fun _ _ _ z => (Bool.false_ne_true z).elim) (fun _ _ _ _ z => (Bool.false_ne_true z).elim) (fun _ _ z => (Bool.false_ne_true z).elim) (fun _ _ _ z => (Bool.false_ne_true z).elim) (fun _ _ _ z => (Bool.false_ne_true z).elim) (fun _ _ _ _ z => (Bool.false_ne_true z).elim) (fun _ _ _ _ z => (Bool.false_ne_true z).elim) (fun _ _ _ z => (Bool.false_ne_true z).elim) (fun e g s p z => ⟨e, g, s, p, rfl, z⟩) (fun _ _ _ z => (Bool.false_ne_true z).elim) (fun _ _ _ _ z => (Bool.false_ne_true z).elim) (fun _ _ _ _ _ z => (Bool.false_ne_true z).elim)
theorem onE_set {f} (h : onE { set := f } ex = true) : ∃ l k p, ex = .Set l k p ∧ f l k = true :=
  onE_elim (P := fun ex => ∃ l k p, ex = .Set l k p ∧ f l k = true) h (fun _ _ _ z => (Bool.false_ne_true z).elim) (fun _ _ z => (Bool.false_ne_true z).elim) (fun _ _ _ _ z => (Bool.false_ne_true z).elim) (fun _ _ _ z => (Bool.false_ne_true z).elim) (fun _ _ _ _ z => (Bool.false_ne_true z).elim) (fun _ _ _ z => (Bool.false_ne_true z).elim) (fun _ _ _ _ z => (Bool.false_ne_true z).elim) (fun _ _ z => (Bool.false_ne_true z).elim) (fun _ _ _ z => (Bool.false_ne_true z).elim) (fun _ _ _ z => (Bool.false_ne_true z).elim) (fun _ _ _ _ z => (Bool.false_ne_true z).elim) (fun _ _ _ _ z => (Bool.false_ne_true z).elim) (fun _ _ _ z => (Bool.false_ne_true z).elim) (fun _ _ _ _ z => (Bool.false_ne_true z).elim) (fun l k p z => ⟨l, k, p, rfl, z⟩) (fun _ _ _ _ z => (Bool.false_ne_true z).elim) (fun _ _ _ _ _ z => (Bool.false_ne_true z).elim)
/-- a call of a name, no keywords -/
noncomputable def onNC (ex : Expr) (f : Str → List Expr → Bool) : Bool := onE { call := fun g es ks _ => onE { name := fun x => nil? ks (f x es) } g } ex
theorem onNC_eq {f} (h : onNC ex f = true) : ∃ x px es p, ex = .Call (.Name x px) es [] p ∧ f x es = true := by
  obtain ⟨g, es, ks, p, rfl, h⟩ := onE_call h
  obtain ⟨x, px, rfl, h⟩ := onE_name h
  obtain ⟨rfl, h⟩ := nil?_eq h
  exact ⟨x, px, es, p, rfl, h⟩
/-- a method's call, no keywords -/
noncomputable def onMC (ex : Expr) (f : Expr → Str → Pos → List Expr → Pos → Bool) : Bool := onE { call := fun g es ks p => onE { attr := fun o n ap => nil? ks (f o n ap es p) } g } ex
theorem onMC_eq {f} (h : onMC ex f = true) : ∃ o n ap es p, ex = .Call (.Attribute o n ap) es [] p ∧ f o n ap es p = true := by
  obtain ⟨g, es, ks, p, rfl, h⟩ := onE_call h
  obtain ⟨o, n, ap, rfl, h⟩ := onE_attr h
  obtain ⟨rfl, h⟩ := nil?_eq h
  exact ⟨o, n, ap, es, p, rfl, h⟩
/-- a comparison of two -/
noncomputable def onC1 (ex : Expr) (f : Expr → CmpOp → Expr → Bool) : Bool := onE { cmp := fun l os rs => one? os fun o => one? rs fun r => f l o r } ex
theorem onC1_eq {f} (h : onC1 ex f = true) : ∃ l o r p, ex = .Compare l [o] [r] p ∧ f l o r = true := by
  obtain ⟨l, os, rs, p, rfl, h⟩ := onE_cmp h
  obtain ⟨o, rfl, h⟩ := one?_eq h
  obtain ⟨r, rfl, h⟩ := one?_eq h
  exact ⟨l, o, r, p, rfl, h⟩
end

/-- a comprehension over one row -/
noncomputable def onLC (ex : Expr) (f : Expr → Str → Expr → List Expr → Scope → Bool) : Bool := onE { comp := fun e gs sc => one? gs fun g => onE { name := fun x => g.is_async == 0 && f e x g.iter g.ifs sc } g.target } ex
theorem onLC_eq {ex : Expr} {f} (h : onLC ex f = true) : ∃ e x px it ifs sc p, ex = .ListComp e [⟨.Name x px, it, ifs, 0⟩] sc p ∧ f e x it ifs sc = true := by
  obtain ⟨e, gs, sc, p, rfl, h⟩ := onE_comp h
  obtain ⟨⟨tg, it, ifs, as⟩, rfl, h⟩ := one?_eq h
  obtain ⟨x, px, e2, h⟩ := onE_name h
  rw [Bool.and_eq_true] at h
  obtain ⟨h1, h⟩ := h
  have h1 := eq_of_beq h1
  simp only at h1 e2
  subst h1; subst e2
  exact ⟨e, x, px, it, ifs, sc, p, rfl, h⟩
/-- a plain thing ahead of a dot -/
noncomputable def baseOk (ex : Expr) : Bool := onE { name := fun _ => true, cst := fun _ => true, sub := fun _ _ => true, call := fun g es ks _ => onE { name := fun _ => one? es fun _ => nil? ks true } g } ex
theorem baseOk_eq {o : Expr} (h : baseOk o = true) (n : Str) (env : Env) (w : Sem Value) : attributeBase o n env w = w := by
  cases o with
  | Constant c k p => rfl
  | Name x p => rfl
  | Subscript a b p => rfl
  | Call g es ks p =>
    obtain ⟨x, px, rfl, h⟩ := onE_name (show onE _ g = true from h)
    obtain ⟨e, rfl, h⟩ := one?_eq h
    obtain ⟨rfl, _⟩ := nil?_eq h
    rfl
  | _ => exact (Bool.false_ne_true h).elim
noncomputable def isSetd : PE → Bool
  | .setd _ => true
  | _ => false
noncomputable def isNone' : PE → Bool
  | .const .none => true
  | _ => false
section
variable (frees : List Str) (fname : Nat → Str)
mutual
noncomputable def encE (ks : List (Str × NameKind)) (ns : List Str) : PE → Expr → Bool
  | .const v, ex => onE { cst := encC v } ex
  | .name i, ex => onE { name := fun x => ns[i]? == some x && !(x == ("__debug__" : Str)) } ex
  | .glob b, ex => onE { name := fun x => b.isTy && x == Str.ofString b.name && isGlob ks x && frees.contains x } ex
  | .bin op l r, ex => onE { bin := fun l' op' r' => op == op' && encE ks ns l l' && encE ks ns r r' } ex
  | .un op x, ex => onE { un := fun op' x' => op == op' && encE ks ns x x' } ex
  | .cmp op l r, ex => onC1 ex fun l' op' r' => op == op' && encE ks ns l l' && encE ks ns r r' && !(behindInMarks op r')
  | .bop op xs, ex => onE { bop := fun op' xs' => op == op' && encEs ks ns xs xs' } ex
  | .ife t a b, ex => onE { ife := fun t' a' b' => encE ks ns t t' && encE ks ns a a' && encE ks ns b b' } ex
  | .list xs, ex => onE { list := fun es => encEs ks ns xs es } ex
  | .tup xs, ex => onE { tup := fun es _ _ => encEs ks ns xs es } ex
  | .sub o i, ex => onE { sub := fun o' i' => encE ks ns o o' && encE ks ns i i' } ex
  | .slice o a b s, ex => onE { sub := fun o' sl => onE { slice := fun a' b' s' => encE ks ns o o' && (match a' with | some e => encE ks ns a e | none => isNone' a) && (match b' with | some e => encE ks ns b e | none => isNone' b) && (match s' with | some e => encE ks ns s e | none => isNone' s) } sl } ex
  | .call f xs, ex => onNC ex fun x es => x == fname f && isGlob ks x && encEs ks ns xs es
  | .bcall f xs, ex => onNC ex fun x es => x == Str.ofString f.name && isGlob ks x && frees.contains x && encEs ks ns xs es
  | .meth o m xs, ex => onMC ex fun o' n apos es pos => n == Str.ofString m.name && baseOk o' && apos.endLine == pos.line && decide (es.length < 20) && encE ks ns o o' && encEs ks ns xs es
  | .attr x n, ex => onE { attr := fun x' a _ => a == Str.ofString n.name && baseOk x' && encE ks ns x x' } ex
  | .comp caps elt src conds, ex => onLC ex fun e' x it ifs scope => encE ks ns src it && !(isSetd src) && compOkB ks ns scope x caps && encE (relab ks scope.names) (ns ++ [x]) elt e' && encEs (relab ks scope.names) (ns ++ [x]) conds ifs
  | .compc caps elt src conds, ex => onLC ex fun e' x it ifs scope => encE ks ns src it && !(isSetd src) && compOkCB ks ns scope x caps && encE (relab ks scope.names) (ns ++ [x]) elt e' && encEs (relab ks scope.names) (ns ++ [x]) conds ifs
  | .cat l r, ex => onE { bin := fun l' op r' => op == .Add && encE ks ns l l' && encE ks ns r r' } ex
  | .setd x, ex => onE { set := fun es k => one? es fun e => k == 0 && encE ks ns x e } ex
noncomputable def encEs (ks : List (Str × NameKind)) (ns : List Str) : PEs → List Expr → Bool
  | .nil, es => (match es with | [] => true | _ => false)
  | .cons p ps, es => (match es with | e :: r => encE ks ns p e && encEs ks ns ps r | _ => false)
end
end
theorem encC_cases {v : AV} {c : Const} (h : encC v c = true) : (∃ i, v = .int i ∧ c = .int i) ∨ (∃ b, v = .bool b ∧ c = .bool b) ∨ (v = .none ∧ c = .none) ∨ ∃ s, v = .str s ∧ c = .str s := by
  unfold encC at h
  split at h
  · exact .inl ⟨_, rfl, by rw [eq_of_beq h]⟩
  · exact .inr (.inl ⟨_, rfl, by rw [eq_of_beq h]⟩)
  · exact .inr (.inr (.inl ⟨rfl, rfl⟩))
  · exact .inr (.inr (.inr ⟨_, rfl, by rw [eq_of_beq h]⟩))
  · cases h
theorem isNone'_eq {p : PE} (h : isNone' p = true) : p = .const .none := by
  unfold isNone' at h
  split at h
  · rfl
  · cases h

theorem compOk_of {ks : List (Str × NameKind)} {ns : List Str} {scope : Scope} {x : Str} {caps : List Nat} {env : Env} (hks : env.scope.names = ks) (h : compOkB ks ns scope x caps = true) : CompOk ns env scope x caps := by
  simp only [compOkB, Bool.and_eq_true, List.all_eq_true, Bool.not_eq_true', beq_eq_false_iff_ne, beq_iff_eq, Bool.or_eq_true] at h
  obtain ⟨⟨⟨⟨⟨h1, h2⟩, h3⟩, h4⟩, h5⟩, h6⟩ := h
  refine ⟨h1, h2, fun y hy e => (h3 y hy).resolve_left fun n => n e, h4, fun y hy => ?_, fun i hi y hy => ?_⟩
  · have := (h5 _ hy).resolve_left fun n => n rfl
    show env.scope.names.lookup y = some .cell
    rw [hks]; exact this
  · have := h6 i hi
    rw [hy] at this
    exact beq_iff_eq.mp this

theorem compOkC_of {ks : List (Str × NameKind)} {ns : List Str} {scope : Scope} {x : Str} {caps : List Nat} {env : Env} (hks : env.scope.names = ks) (h : compOkCB ks ns scope x caps = true) : CompOkC ns env scope x caps ∧ (x, NameKind.free) ∉ scope.names := by
  simp only [compOkCB, Bool.and_eq_true, List.all_eq_true, Bool.not_eq_true', beq_eq_false_iff_ne, beq_iff_eq, Bool.or_eq_true] at h
  obtain ⟨⟨⟨⟨⟨⟨h1, h2⟩, h3⟩, h4⟩, h5⟩, h6⟩, h7⟩ := h
  refine ⟨⟨h1, h2, fun y hy e => (h3 y hy).resolve_left fun n => n e, h4, fun y hy => ?_, fun i hi y hy => ?_⟩, fun z => ?_⟩
  · have := (h5 _ hy).resolve_left fun n => n rfl
    show env.scope.names.lookup y = some .cell
    rw [hks]; exact this
  · have := h6 i hi
    rw [hy] at this
    exact beq_iff_eq.mp this
  · rw [List.contains_iff_mem.mpr z] at h7; cases h7
theorem relab_eq {ks : List (Str × NameKind)} {scope : Scope} {env : Env} (hks : env.scope.names = ks) (hk : env.scope.kind = .function) : (relabel scope env).names = relab ks scope.names := by
  unfold relabel relab
  simp only [hk]
  refine List.map_congr_left fun p _ => ?_
  obtain ⟨n, k⟩ := p
  have : env.kindOf n = ks.lookup n := by rw [← hks]; rfl
  simp [this]

/- equations -/
section
variable {frees : List Str} {fname : Nat → Str} {ks : List (Str × NameKind)} {ns : List Str}
theorem ec_const {v ex} : encE frees fname ks ns (.const v) ex = onE { cst := encC v } ex := rfl
theorem ec_name {i ex} : encE frees fname ks ns (.name i) ex = onE { name := fun x => ns[i]? == some x && !(x == ("__debug__" : Str)) } ex := rfl
theorem ec_glob {b ex} : encE frees fname ks ns (.glob b) ex = onE { name := fun x => b.isTy && x == Str.ofString b.name && isGlob ks x && frees.contains x } ex := rfl
theorem ec_bin {op l r ex} : encE frees fname ks ns (.bin op l r) ex = onE { bin := fun l' op' r' => op == op' && encE frees fname ks ns l l' && encE frees fname ks ns r r' } ex := rfl
theorem ec_un {op x ex} : encE frees fname ks ns (.un op x) ex = onE { un := fun op' x' => op == op' && encE frees fname ks ns x x' } ex := rfl
theorem ec_cmp {op l r ex} : encE frees fname ks ns (.cmp op l r) ex = onC1 ex fun l' op' r' => op == op' && encE frees fname ks ns l l' && encE frees fname ks ns r r' && !(behindInMarks op r') := rfl
theorem ec_bop {op xs ex} : encE frees fname ks ns (.bop op xs) ex = onE { bop := fun op' xs' => op == op' && encEs frees fname ks ns xs xs' } ex := rfl
theorem ec_ife {t a b ex} : encE frees fname ks ns (.ife t a b) ex = onE { ife := fun t' a' b' => encE frees fname ks ns t t' && encE frees fname ks ns a a' && encE frees fname ks ns b b' } ex := rfl
theorem ec_list {xs ex} : encE frees fname ks ns (.list xs) ex = onE { list := fun es => encEs frees fname ks ns xs es } ex := rfl
theorem ec_tup {xs ex} : encE frees fname ks ns (.tup xs) ex = onE { tup := fun es _ _ => encEs frees fname ks ns xs es } ex := rfl
theorem ec_sub {o i ex} : encE frees fname ks ns (.sub o i) ex = onE { sub := fun o' i' => encE frees fname ks ns o o' && encE frees fname ks ns i i' } ex := rfl
theorem ec_slice {o a b s ex} : encE frees fname ks ns (.slice o a b s) ex = onE { sub := fun o' sl => onE { slice := fun a' b' s' => encE frees fname ks ns o o' && (match a' with | some e => encE frees fname ks ns a e | none => isNone' a) && (match b' with | some e => encE frees fname ks ns b e | none => isNone' b) && (match s' with | some e => encE frees fname ks ns s e | none => isNone' s) } sl } ex := rfl
theorem ec_call {f xs ex} : encE frees fname ks ns (.call f xs) ex = onNC ex fun x es => x == fname f && isGlob ks x && encEs frees fname ks ns xs es := rfl
theorem ec_bcall {f xs ex} : encE frees fname ks ns (.bcall f xs) ex = onNC ex fun x es => x == Str.ofString f.name && isGlob ks x && frees.contains x && encEs frees fname ks ns xs es := rfl
theorem ec_meth {o m xs ex} : encE frees fname ks ns (.meth o m xs) ex = onMC ex fun o' n apos es pos => n == Str.ofString m.name && baseOk o' && apos.endLine == pos.line && decide (es.length < 20) && encE frees fname ks ns o o' && encEs frees fname ks ns xs es := rfl
theorem ec_attr {x n ex} : encE frees fname ks ns (.attr x n) ex = onE { attr := fun x' a _ => a == Str.ofString n.name && baseOk x' && encE frees fname ks ns x x' } ex := rfl
theorem ec_comp {caps elt src conds ex} : encE frees fname ks ns (.comp caps elt src conds) ex = onLC ex fun e' x it ifs scope => encE frees fname ks ns src it && !(isSetd src) && compOkB ks ns scope x caps && encE frees fname (relab ks scope.names) (ns ++ [x]) elt e' && encEs frees fname (relab ks scope.names) (ns ++ [x]) conds ifs := rfl
theorem ec_compc {caps elt src conds ex} : encE frees fname ks ns (.compc caps elt src conds) ex = onLC ex fun e' x it ifs scope => encE frees fname ks ns src it && !(isSetd src) && compOkCB ks ns scope x caps && encE frees fname (relab ks scope.names) (ns ++ [x]) elt e' && encEs frees fname (relab ks scope.names) (ns ++ [x]) conds ifs := rfl
theorem ec_cat {l r ex} : encE frees fname ks ns (.cat l r) ex = onE { bin := fun l' op r' => op == .Add && encE frees fname ks ns l l' && encE frees fname ks ns r r' } ex := rfl
theorem ec_setd {x ex} : encE frees fname ks ns (.setd x) ex = onE { set := fun es k => one? es fun e => k == 0 && encE frees fname ks ns x e } ex := rfl
theorem ecs_nil {es} : encEs frees fname ks ns (.nil) es = (match es with | [] => true | _ => false) := rfl
theorem ecs_cons {p ps es} : encEs frees fname ks ns (.cons p ps) es = (match es with | e :: r => encE frees fname ks ns p e && encEs frees fname ks ns ps r | _ => false) := rfl
end
/- equations end -/
end Mine
end
section
open PySem PySem.W PyProof.Rows
namespace Mine

theorem Fm.ss {c : Cx} {A : Around} {ns : List Str} {env : Env} {st : Fs} {fe : FE} {H H' : Hd} {s s' : Shared} {σ' : Store} (F : Fm c (FrA A) ns env st fe H s.heap) (X : Ss A st.lo st.σ H s σ' H' s') : Fm c (FrA A) ns env (st.at σ') fe H' s'.heap := by
  have wr : ∀ b, Wr st.σ H st.lo b → ∃ o, s.heap.get? b = some o ∧ (∀ es ep, o.data ≠ .dict es ep) ∧ (∀ v, o.data ≠ .cell v) := fun b ⟨n, mo, _, e1, e2⟩ => by
    obtain ⟨a, e3, r⟩ := F.sto.at' n mo e1
    rw [e2] at e3; cases e3
    obtain ⟨o, e, d1, d2, _⟩ := r.data
    exact ⟨o, e, d1, d2⟩
  have nsk : ∀ {a m}, s.heap.Ns a m → s'.heap.Ns a m := fun {a m} n => by
    obtain ⟨o, es, ep, e, d, r⟩ := n
    have nw : ¬ Wr st.σ H st.lo a := fun w => by
      obtain ⟨o', e', d', _⟩ := wr a w
      rw [e] at e'; cases e'
      exact d' _ _ d
    obtain ⟨sl, q⟩ := (X.kv a o nw e).2
    exact ⟨_, es, ep, q, d, r⟩
  have clk : ∀ {a v}, s.heap.IsCell a v → s'.heap.IsCell a v := fun {a v} n => by
    obtain ⟨o, e, d⟩ := n
    have nw : ¬ Wr st.σ H st.lo a := fun w => by
      obtain ⟨o', e', _, d'⟩ := wr a w
      rw [e] at e'; cases e'
      exact d' _ d
    obtain ⟨sl, q⟩ := (X.kv a o nw e).2
    exact ⟨_, q, d⟩
  have nvk : ∀ {x v}, NV s.heap env x v → NV s'.heap env x v := fun {x v} n => by
    rcases n with ⟨k1, m, n, e⟩ | ⟨k1, cc, e, n⟩
    · exact .inl ⟨k1, m, nsk n, e⟩
    · exact .inr ⟨k1, cc, e, clk n⟩
  have ownk : ∀ i a vs, H.o i = some a → IsL s.heap a vs → IsL s'.heap a vs := fun i a vs e l => l.at fun o e' => (X.kv a o (fun ⟨n, _, _, _, e2⟩ => (F.own i a e).2.2.1 n e2) e').2
  have fes : ∀ b o, fe.h.get? b = some o → ∃ o', s.heap.get? b = some o' := fun b o e => F.keep.nw (fun b w => F.hlt b (F.hle b (F.wsub b w))) e
  exact {
    keep := fun b o n e => by
      obtain ⟨p1, sl, p2⟩ := F.keep b o n e
      have nw : ¬ Wr st.σ H st.lo b := fun ⟨m, mo, l1, e1, e2⟩ => by
        rcases Nat.lt_or_ge m st.n0 with hl | hl
        · exact n (F.mw m b mo hl l1 e1 e2)
        · rw [F.mnew m b hl e2] at e; cases e
      obtain ⟨q1, sl', q2⟩ := X.kv b _ nw p2
      exact ⟨fun f => (X.kv b o nw (p1 f)).1 f, sl', q2⟩
    wsub := F.wsub
    base := F.base
    baseF := F.baseF
    basew := F.basew
    hle := fun b q => X.hp b (F.hle b q)
    mle := fun n a e => X.mx n a (F.mle n a e)
    mold := fun n a l e => by
      rcases X.mn n a e with e | ⟨z, _⟩
      · exact F.mold n a l e
      · exact absurd (Nat.lt_of_lt_of_le l F.n0le) (Nat.not_lt.mpr z)
    mnew := fun n a l e => by
      rcases X.mn n a e with e | ⟨_, z⟩
      · exact F.mnew n a l e
      · cases q : fe.h.get? a with
        | none => rfl
        | some o => obtain ⟨o', e'⟩ := fes a o q; rw [z] at e'; cases e'
    mw := fun n a mo l l' q e => by
      have hl := Nat.lt_of_lt_of_le l F.n0le
      obtain ⟨mo', q'⟩ := X.rv n mo hl q
      rcases X.mn n a e with e | ⟨z, _⟩
      · exact F.mw n a mo' l l' q' e
      · exact absurd hl (Nat.not_lt.mpr z)
    hlt := X.live
    felt := F.felt
    wlt := F.wlt
    kind := F.kind
    glob := F.glob
    bi := F.bi
    code := F.code
    ns := let ⟨m, n⟩ := F.ns; ⟨m, nsk n⟩
    hl := X.hp _ F.hl
    lnew := F.lnew
    hc := fun x cc a b => ⟨X.hp _ (F.hc x cc a b).1, (F.hc x cc a b).2⟩
    cl := fun x q => let ⟨cc, v, e, n⟩ := F.cl x q; ⟨cc, v, e, clk n⟩
    capart := F.capart
    vals := fun i x t a b => let ⟨v, n, r⟩ := F.vals i x t a b; ⟨v, nvk n, r.mono (X.vis F.sto) (fun a e => by rw [X.o]; exact e) fun a vs e l => ownk i a vs e l⟩
    own := fun i a e => by
      rw [X.o] at e
      obtain ⟨p, q, r, vs, l⟩ := F.own i a e
      refine ⟨X.hp a p, q, fun n z => ?_, vs, ownk i a vs e l⟩
      rcases X.mn n a z with z | ⟨_, z⟩
      · exact r n z
      · obtain ⟨o, _, e', _⟩ := l; rw [z] at e'; cases e'
    oinj := fun i j a => by rw [X.o]; exact F.oinj i j a
    sto := X.sto
    mh0 := fun n a e => by
      rcases X.mn n a e with e | ⟨_, z⟩
      · exact F.mh0 n a e
      · cases q : c.h0.get? a with
        | none => rfl
        | some o => obtain ⟨o', e'⟩ := fes a o (F.base a o q); rw [z] at e'; cases e'
    n0le := Nat.le_trans F.n0le X.len }

theorem RepO.derefS {c : Cx} {Fr : Addr → Prop} {ns : List Str} {env : Env} {st : Fs} {fe : FE} {H : Hd} {h : Heap} (F : Fm c Fr ns env st fe H h) (hlen : st.ρ.length = ns.length) {w : Value} : ∀ {v : OV}, RepW H (vis h H) w v → RepO h H w (derefS st.ρ st.σ v)
  | .av x, r => RepO.deref F.sto r
  | .own i, ⟨a, e, q⟩ => by
    unfold Mine.derefS
    dsimp only
    split
    · rename_i xs hs
      have hi : i < ns.length := by
        rcases Nat.lt_or_ge i st.ρ.length with h | h
        · omega
        · rw [List.getElem?_eq_none h] at hs; cases hs
      obtain ⟨v, n, z, a', vs, e', o', l, r⟩ := F.vals i _ _ (List.getElem?_eq_getElem hi) hs
      rw [e] at o'; cases o'
      exact ⟨z, a, vs, q, l, r⟩
    · simp [RepO, Rep]
theorem RepOL.derefS {c : Cx} {Fr : Addr → Prop} {ns : List Str} {env : Env} {st : Fs} {fe : FE} {H : Hd} {h : Heap} (F : Fm c Fr ns env st fe H h) (hlen : st.ρ.length = ns.length) : ∀ {ws : List Value} {vs : List OV}, RepWL H (vis h H) ws vs → RepOL h H ws (vs.map (Mine.derefS st.ρ st.σ))
  | [], [], _ => trivial
  | [], _ :: _, r => r.elim
  | _ :: _, [], r => r.elim
  | _ :: _, _ :: _, r => ⟨RepO.derefS F hlen r.1, RepOL.derefS F hlen r.2⟩
theorem plains_rep {H : Hd} {R : Vw} : ∀ {vs : List OV} {ws : List Value} {xs : List AV}, RepWL H R ws vs → plains vs = some xs → RepL R ws xs
  | [], [], xs, _, h => by simp only [plains, Option.some.injEq] at h; subst h; simp [RepL]
  | [], _ :: _, _, r, _ => r.elim
  | _ :: _, [], _, r, _ => r.elim
  | .av x :: vs, w :: ws, xs, r, h => by
    simp only [plains, Option.map_eq_some_iff] at h
    obtain ⟨ys, h1, rfl⟩ := h
    simp only [RepL]
    exact ⟨r.1, plains_rep r.2 h1⟩
  | .own _ :: _, _ :: _, _, _, h => by simp [plains] at h

/-- an expression comes to what is told of it -/
structure PrOk (c : Cx) (q : Bool) (A : Around) (lo : Nat) (σ : Store) (H : Hd) (ex : Expr) (env : Env) (p : PR) (s : Shared) : Prop where
  v : Ev c q A lo σ H (eval ex env) p.v s
  t : EvB c A lo σ H (isTrue ex env (eval ex env)) p.t s

section
variable {c : Cx} {q : Bool} {k : Nat} {A : Around} {lo : Nat} {σ : Store} {H : Hd} {s : Shared}

theorem Ev.bindK {t : Sem Value} {r : ER} {f : OV → Store → ER} {Q E Q' : Value → Shared → Prop} (X : Ev c q A lo σ H t r s) (P : PostE q A lo σ H (r.bind f) s Q E)
    (h : ∀ v σ₁, r = .ok v σ₁ → ∀ w H₁ s₁, Ss A lo σ H s σ₁ H₁ s₁ → RepW H₁ (vis s₁.heap H₁) w v → PostE q A lo σ₁ H₁ (f v σ₁) s₁ Q E → Q' w s₁) : wpAny c.M A t Q' E s := by
  cases r with
  | ok v σ₁ => exact X _ _ fun w H₁ s₁ x r => h v σ₁ rfl w H₁ s₁ x r (P.ss x)
  | exc x σ₁ => exact X _ _ P
  | stuck => exact P.elim
theorem Ev.bindAK {t : Sem Value} {r : ER} {f : AV → Store → ER} {Q E Q' : Value → Shared → Prop} (X : Ev c q A lo σ H t r s) (P : PostE q A lo σ H (r.bindA f) s Q E)
    (h : ∀ v σ₁, r = .ok (.av v) σ₁ → ∀ w H₁ s₁, Ss A lo σ H s σ₁ H₁ s₁ → Rep (vis s₁.heap H₁) w v → PostE q A lo σ₁ H₁ (f v σ₁) s₁ Q E → Q' w s₁) : wpAny c.M A t Q' E s := by
  cases r with
  | ok v σ₁ =>
    cases v with
    | av v => exact X _ _ fun w H₁ s₁ x r => h v σ₁ rfl w H₁ s₁ x r (PostE.ss (r := f v σ₁) P x)
    | own i => exact P.elim
  | exc x σ₁ => exact X _ _ P
  | stuck => exact P.elim
theorem EvL.onK {t : Sem (List Value)} {r : Option (List OV × Store)} {f : List OV → Store → ER} {Q E : Value → Shared → Prop} {Q' : List Value → Shared → Prop} (X : EvL c A lo σ H t r s) (P : PostE q A lo σ H (onL r f) s Q E)
    (h : ∀ l σ₁, r = some (l, σ₁) → ∀ ws H₁ s₁, Ss A lo σ H s σ₁ H₁ s₁ → RepWL H₁ (vis s₁.heap H₁) ws l → PostE q A lo σ₁ H₁ (f l σ₁) s₁ Q E → Q' ws s₁) : wpAny c.M A t Q' E s := by
  cases r with
  | none => exact P.elim
  | some p =>
    obtain ⟨l, σ₁⟩ := p
    exact X l σ₁ rfl _ _ fun ws H₁ s₁ x r => h l σ₁ rfl ws H₁ s₁ x r (PostE.ss (r := f l σ₁) P x)
theorem EvL.onPK {t : Sem (List Value)} {r : Option (List OV × Store)} {f : List AV → Store → ER} {Q E : Value → Shared → Prop} {Q' : List Value → Shared → Prop} (X : EvL c A lo σ H t r s) (P : PostE q A lo σ H (onP r f) s Q E)
    (h : ∀ l σ₁ ol, r = some (ol, σ₁) → plains ol = some l → ∀ ws H₁ s₁, Ss A lo σ H s σ₁ H₁ s₁ → RepL (vis s₁.heap H₁) ws l → PostE q A lo σ₁ H₁ (f l σ₁) s₁ Q E → Q' ws s₁) : wpAny c.M A t Q' E s := by
  refine X.onK P fun ol σ₁ e ws H₁ s₁ x rr P' => ?_
  cases hp : plains ol with
  | none => rw [hp] at P'; exact P'.elim
  | some l => rw [hp] at P'; exact h l σ₁ ol e hp ws H₁ s₁ x (plains_rep rr hp) P'
theorem starEach_cons {env : Env} {e : Expr} {es : List Expr} (h : ∀ x z, e ≠ .Starred x z) : starEach (e :: es) env = (false, eval e env) :: starEach es env := by
  cases e <;> first | rfl | exact absurd rfl (h _ _)
/-- a pure end -/
theorem PostE.res {r : Res} {Q E : Value → Shared → Prop} (P : PostE q A lo σ H (ofRes r σ) s Q E) (S : Sto σ H s.heap) (L : Live H s.heap) : Post q A H r s Q E := by
  cases r with
  | ok v => exact fun w s' k r => P w H s' (.of_kp k S L) r
  | exc x => exact ⟨P.1, fun e s' X => P.2 e H s s' (.of_kp (Kp.refl _ _) S L) X⟩
  | stuck => exact P
end

section
variable {c : Cx} {O : OpsF} (OK : OpsOk c O) {q : Bool} {k : Nat} {A : Around} {H : Hd} {env : Env} {s : Shared} {ns : List Str} {st : Fs} {fe : FE}
include OK
theorem isT_value {ex : Expr} {r : ER} (hm : Rm c q (k + 1) A s.heap) (F : Fm c (FrA A) ns env st fe H s.heap) (hlen : st.ρ.length = ns.length) (X : Ev c q A st.lo st.σ H (eval ex env) r s)
    (he : isTrue ex env (eval ex env) = (do let v ← eval ex env; standAt ex.pos; holding [v] (truthy v))) : EvB c A st.lo st.σ H (isTrue ex env (eval ex env)) (r.truth O.truth st.ρ) s := fun b σ' ht Q E P => by
  cases r with
  | exc _ _ => cases ht
  | stuck => cases ht
  | ok v σ₁ =>
    simp only [ER.truth, Option.map_eq_some_iff, Prod.mk.injEq] at ht
    obtain ⟨b', ht, rfl, rfl⟩ := ht
    refine wpAny_isTrue_value (X _ _ fun w H₁ s₁ x r₁ => ?_) he
    have F₁ := F.ss x
    exact OK.truth (hm.nf x.nf) F₁.hlt (RepO.derefS F₁ hlen r₁) ht _ _ fun s₂ k₂ => P H₁ s₂ (x.trans (.of_kp k₂ F₁.sto F₁.hlt))
theorem prOk_of {ex : Expr} {r : ER} (hm : Rm c q (k + 1) A s.heap) (F : Fm c (FrA A) ns env st fe H s.heap) (hlen : st.ρ.length = ns.length) (X : Ev c q A st.lo st.σ H (eval ex env) r s)
    (he : isTrue ex env (eval ex env) = (do let v ← eval ex env; standAt ex.pos; holding [v] (truthy v))) : PrOk c q A st.lo st.σ H ex env (.of O.truth st.ρ r) s := ⟨X, isT_value OK hm F hlen X he⟩
end
end Mine
end
section
open PySem PySem.W PyProof.Rows
namespace Mine

/-- more is hidden -/
theorem Fm.hide {c : Cx} {Fr : Addr → Prop} {ns : List Str} {env : Env} {st : Fs} {fe : FE} {H H₂ : Hd} {h h₂ : Heap} (F : Fm c Fr ns env st fe H h) (kk : Kh Fr h h₂) (hH : ∀ b, H.p b → H₂.p b) (hN : ∀ b, H₂.p b → H.p b ∨ h.get? b = none) (hM : H₂.m = H.m) (hO : H₂.o = H.o) (hL : Live H₂ h₂) : Fm c Fr ns env st fe H₂ h₂ :=
  let G := F.step kk
  { keep := G.keep, wsub := G.wsub, base := G.base, baseF := G.baseF, basew := G.basew, hle := fun b z => hH b (F.hle b z)
    mle := fun n a e => by rw [hM]; exact F.mle n a e
    mold := fun n a l e => F.mold n a l (by rw [← hM]; exact e)
    mnew := fun n a l e => F.mnew n a l (by rw [← hM]; exact e)
    mw := fun n a mo l l' q e => F.mw n a mo l l' q (by rw [← hM]; exact e)
    hlt := hL, felt := G.felt, wlt := G.wlt, kind := G.kind, glob := G.glob, bi := G.bi, code := G.code, ns := G.ns, hl := hH _ G.hl, lnew := G.lnew
    hc := fun x cc y z => ⟨hH _ (G.hc x cc y z).1, (G.hc x cc y z).2⟩, cl := G.cl, capart := G.capart
    vals := fun i x t a b => let ⟨v, n, r⟩ := F.vals i x t a b; ⟨v, n.kh kk, r.mono (vis_new kk hN fun n a e => by rw [hM]; exact e) (fun a e => by rw [hO]; exact e) fun a vs _ l => kk.isL l⟩
    own := fun i a e => by
      rw [hO] at e
      obtain ⟨p, q, r, vs, l⟩ := F.own i a e
      exact ⟨hH a p, q, fun n => by rw [hM]; exact r n, vs, kk.isL l⟩
    oinj := fun i j a => by rw [hO]; exact F.oinj i j a
    sto := F.sto.new kk hH hN hM
    mh0 := fun n a e => F.mh0 n a (by rw [← hM]; exact e)
    n0le := F.n0le }

section
variable {c : Cx} {O : OpsF} (OK : OpsOk c O) {q : Bool} {k : Nat} {A : Around} {H : Hd} {env : Env} {ns : List Str} {st : Fs} {fe : FE} {s : Shared}

theorem stays_ns {a b : Heap} (k : a.StaysIn b) {d : Addr} {m : Str → Option Value} (n : a.Ns d m) : b.Ns d m := let ⟨o, es, ep, e, r⟩ := n; ⟨o, es, ep, k _ _ e, r⟩

theorem ld_glob {x : Str} {pos : Pos} {v : Value} {Q E : Value → Shared → Prop} (F : Fm c (FrA A) ns env st fe H s.heap) (hk : env.kindOf x = some .globalImplicit) (hd : (x == ("__debug__" : Str)) = false) (hv : c.mg x = some v) (h : Q v s) :
    wpAny c.M A (eval (.Name x pos) env) Q E s :=
  Calls.Name_function_global F.kind hk (Calls.loadGlobal_global (by rw [F.glob]; exact stays_ns F.base' c.g) hv h) hd
theorem ld_boot {x : Str} {pos : Pos} {v : Value} {Q E : Value → Shared → Prop} (F : Fm c (FrA A) ns env st fe H s.heap) (hk : env.kindOf x = some .globalImplicit) (hd : (x == ("__debug__" : Str)) = false) (hn : x ≠ "__name__") (hf : c.mg x = none) (hv : bootBuiltins x = some v) (h : Q v s) :
    wpAny c.M A (eval (.Name x pos) env) Q E s :=
  Calls.Name_function_global F.kind hk (Calls.loadGlobal_builtin (by rw [F.glob]; exact stays_ns F.base' c.g) hf (by rw [F.bi]; exact stays_ns F.base' c.b) ((c.builtins x hn).trans hv) h) hd

include OK
/-- a list's comprehension; T says what is made of the row -/
theorem ev_compL {elt iter : Expr} {x : Str} {px pos : Pos} {ifs : List Expr} {scope : Scope} {r : ER} {f : Store → AV → Option (Option AV)} (hq : q = true) (hm : Rm c q (k + 1) A s.heap) (F : Fm c (FrA A) ns env st fe H s.heap) (hlen : st.ρ.length = ns.length)
    (hkd : scope.kind = .function) (hlc : ∀ y ∈ scope.names, y.2 = .local → scope.names.lookup y.1 = some .local) (hfr : ∀ y, (y, NameKind.free) ∈ scope.names → env.kindOf y = some .cell)
    (hs : ∀ x, foldedSetIterable iter env x = pure x) (X : Ev c q A st.lo st.σ H (eval iter env) r s) (T : ∀ σ₁ H₁ l ys, mapF (f σ₁) l = some ys → CompSpec c q (k + 1) A ns env (st.at σ₁) fe scope (.ListComp elt [⟨.Name x px, iter, ifs, 0⟩] scope pos) H₁ l ys) :
    Ev c q A st.lo st.σ H (eval (.ListComp elt [⟨.Name x px, iter, ifs, 0⟩] scope pos) env) (r.bind fun a σ₁ => onItems (O.items (derefS st.ρ σ₁ a)) fun l => onItems (mapF (f σ₁) l) fun ys => .ok (.av (.lst ys)) σ₁) s := fun Q E P => by
  obtain ⟨cl, hclos, hcl1, hcl2, hcl3⟩ := closureFor_ok3 (env := env) (scope := scope) fun y hy => by
    obtain ⟨cc, _, e, _⟩ := F.cl y (hfr y hy)
    rw [e]; rfl
  rw [eval_ListComp]
  refine wpAny_comprehension_free (use := none) rfl hs hclos hkd hlc (X.bindK P fun a σ₁ hr xv H₁ s₁ x₁ r₁ P₁ => ?_)
  have F₁ := F.ss x₁
  have hm₁ := hm.nf x₁.nf
  cases hit : O.items (derefS st.ρ σ₁ a) with
  | none => rw [hit] at P₁; exact P₁.elim
  | some l =>
  rw [hit] at P₁
  simp only [onItems] at P₁
  cases hf : mapF (f σ₁) l with
  | none => rw [hf] at P₁; exact P₁.elim
  | some ys =>
  rw [hf] at P₁
  refine OK.items hm₁ hq F₁.hlt (RepO.derefS F₁ hlen r₁) hit _ _ fun I fp PP St h' tk hk hI hfI hl _ hsz W hst hP => ?_
  refine T σ₁ H₁ l ys hf (RR := fun acc C => compPost c.M A E none Q acc C) (s₁ := s₁) hm₁ F₁ hcl1 hcl2 hcl3 ⟨_, _, rfl⟩ hk hI hl hfI W hst hsz hP ?_
  intro D C h'' tk' m' vs hD hC hDC hn hl hr hkv
  refine ⟨m', hn, fun h₃ hs₃ => P₁ _ H₁ _ (.of_kp ⟨h₃, tk', rfl, ?_⟩ F₁.sto F₁.hlt) ?_⟩
  · have k1 : Kh (FrA A) s₁.heap h'' := (Kh.of_keeps hk).trans' hkv fun b o e z => by rw [z, hI] at e; cases e
    refine k1.trans' (Kv.of_sameBut (W := fun b => b = C) hs₃ rfl) fun b o e z => ?_
    have := hk b o e
    rw [z, hC] at this; cases this
  · simp only [RepW, Rep]
    have hl₃ : IsL h₃ D vs := hl.at' fun o e => hs₃.extBut D o hDC e
    obtain ⟨o, n, e, c1, d1, f1⟩ := hl₃
    refine ⟨Nat.le_trans (mapF_length hf) hsz, D, vs, n, rfl, ⟨fun z => ?_, o, e, c1, d1, f1, .inl rfl, fun ⟨_, z⟩ => by cases z⟩, ?_⟩
    · obtain ⟨o', e'⟩ := F₁.hlt D z
      have := hk D o' e'
      rw [hD] at this; cases this
    · have r2 := RepL.mono ((Kv.of_sameBut (F := FrA A) (W := fun b => b = C) hs₃ rfl).vis (H := H₁.add fun b => b = C ∨ b = D ∨ b = I) fun b z => .inr (.inl z)) hr
      exact RepL.mono (vis_hide (H := H₁) (H' := H₁.add fun b => b = C ∨ b = D ∨ b = I) (fun b z => .inl z) fun n a e => e) r2
theorem ev_listcomp {elt iter : Expr} {x : Str} {px pos : Pos} {ifs : List Expr} {scope : Scope} {caps : List Nat} {r : ER} {f : Store → AV → Option (Option AV)} (hq : q = true) (hm : Rm c q (k + 1) A s.heap) (F : Fm c (FrA A) ns env st fe H s.heap) (hlen : st.ρ.length = ns.length)
    (K : CompOk ns env scope x caps) (hs : ∀ x, foldedSetIterable iter env x = pure x) (X : Ev c q A st.lo st.σ H (eval iter env) r s) (T : ∀ σ₁, TurnOk c q (k + 1) A ns env (st.at σ₁) fe scope x caps elt ifs (f σ₁)) :
    Ev c q A st.lo st.σ H (eval (.ListComp elt [⟨.Name x px, iter, ifs, 0⟩] scope pos) env) (r.bind fun a σ₁ => onItems (O.items (derefS st.ρ σ₁ a)) fun l => onItems (mapF (f σ₁) l) fun ys => .ok (.av (.lst ys)) σ₁) s :=
  ev_compL OK (f := f) hq hm F hlen K.kind K.loc K.free hs X fun σ₁ H₁ l ys hf => comp_spec1 (st := st.at σ₁) hlen K hf (T σ₁)
theorem ev_listcompC {elt iter : Expr} {x : Str} {px pos : Pos} {ifs : List Expr} {scope : Scope} {caps : List Nat} {r : ER} {f : Store → AV → Option (Option AV)} (hq : q = true) (hm : Rm c q (k + 1) A s.heap) (F : Fm c (FrA A) ns env st fe H s.heap) (hlen : st.ρ.length = ns.length)
    (K : CompOkC ns env scope x caps) (hxf : (x, NameKind.free) ∉ scope.names) (hs : ∀ x, foldedSetIterable iter env x = pure x) (X : Ev c q A st.lo st.σ H (eval iter env) r s) (T : ∀ σ₁, TurnOk c q (k + 1) A ns env (st.at σ₁) fe scope x caps elt ifs (f σ₁)) :
    Ev c q A st.lo st.σ H (eval (.ListComp elt [⟨.Name x px, iter, ifs, 0⟩] scope pos) env) (r.bind fun a σ₁ => onItems (O.items (derefS st.ρ σ₁ a)) fun l => onItems (mapF (f σ₁) l) fun ys => .ok (.av (.lst ys)) σ₁) s :=
  ev_compL OK (f := f) hq hm F hlen K.kind K.loc K.free hs X fun σ₁ H₁ l ys hf => comp_specC (st := st.at σ₁) hlen K hxf hf (T σ₁)
end
/-- behind a thing made anew, hidden while the rest is reckoned, and filled -/
theorem fresh_ss {c : Cx} {A : Around} {ns : List Str} {env : Env} {st : Fs} {fe : FE} {H H₁ : Hd} {s s₁ s₂ : Shared} {hp : Heap} {a : Addr} {σ₁ : Store} (F : Fm c (FrA A) ns env st fe H s.heap) (k0 : Kp A s { s with heap := hp }) (hnew : s.heap.get? a = none) (ea : ∃ o, hp.get? a = some o)
    (x₁ : Ss A st.lo st.σ (H.add fun b => b = a) { s with heap := hp } σ₁ H₁ s₁) (hr : ∃ h' tk, s₂ = { s₁ with heap := h', toks := tk }) (hs : ∀ b o, b ≠ a → s₁.heap.get? b = some o → s₂.heap.get? b = some o) : Ss A st.lo st.σ H s σ₁ ⟨fun b => H₁.p b ∧ b ≠ a, H₁.m, H₁.o⟩ s₂ := by
  have hnH : ¬ H.p a := fun z => by
    obtain ⟨o', e'⟩ := F.hlt _ z
    rw [hnew] at e'; cases e'
  have nea : ∀ {b o}, s.heap.get? b = some o → b ≠ a := fun {b o} e z => by rw [z, hnew] at e; cases e
  have live1 : ∀ n b mo, σ₁[n]? = some (some mo) → H₁.m n = some b → b ≠ a := fun n b mo e1 e2 z => by
    subst z
    rcases x₁.mn n b e2 with e | ⟨_, e⟩
    · obtain ⟨mo', e3⟩ := x₁.rv n mo (x₁.hm0 n b e) e1
      exact hnH (F.sto.hid n b mo' e3 e)
    · obtain ⟨o, e'⟩ := ea
      have e : hp.get? b = none := e
      rw [e'] at e; cases e
  have le : (vis s₁.heap H₁).Le (vis s₂.heap ⟨fun b => H₁.p b ∧ b ≠ a, H₁.m, H₁.o⟩) := ⟨by
    rintro x c d ⟨n, o, e, r⟩
    refine ⟨fun z => n z.1, o, hs x o (fun z => n (z ▸ x₁.hp a (.inr rfl))) e, r⟩, fun _ _ e => e⟩
  have kv2 : Kv (FrA A) (fun b => b = a) s₁.heap s₂.heap := Kv.of_but (fun b o n e => hs b o n e) rfl
  exact {
    rest := by
      obtain ⟨h', tk, rfl⟩ := hr
      obtain ⟨h'', tk', rfl⟩ := x₁.rest
      exact ⟨h', tk, rfl⟩
    kv := fun b o n e => by
      have nb := nea e
      obtain ⟨p1, sl, p2⟩ := k0.kh b o e
      obtain ⟨q1, sl', q2⟩ := x₁.kv b _ n p2
      exact ⟨fun f => hs b _ nb ((x₁.kv b o n (p1 f)).1 f), sl', hs b _ nb q2⟩
    lv := fun b o e => by
      obtain ⟨_, sl, p2⟩ := k0.kh b o e
      obtain ⟨o', e'⟩ := x₁.lv b _ p2
      exact ⟨o', hs b o' (nea e) e'⟩
    nf := fun b o e nf => by
      obtain ⟨o', e', n'⟩ := (k0.kh.nf.trans x₁.nf) b o e nf
      exact ⟨o', hs b o' (nea e) e', n'⟩
    hp := fun b z => ⟨x₁.hp b (.inl z), fun y => hnH (y ▸ z)⟩
    hid := fun b z => by
      rcases x₁.hid b z.1 with y | y
      · exact .inl (y.resolve_right z.2)
      · exact .inr (none_back k0.kh y)
    mx := fun n b e => x₁.mx n b e
    mn := fun n b e => (x₁.mn n b e).imp id fun ⟨y, z⟩ => ⟨y, none_back k0.kh z⟩
    o := x₁.o
    sto := ⟨fun n mo e => by
        obtain ⟨b, e1, r⟩ := x₁.sto.at' n mo e
        exact ⟨b, e1, r.kv kv2 (live1 n b mo e e1) le⟩, x₁.sto.inj, x₁.sto.lt, fun n b mo e e1 => ⟨x₁.sto.hid n b mo e e1, live1 n b mo e e1⟩, fun n b e => by
        obtain ⟨o, e'⟩ := x₁.sto.al n b e
        refine ⟨o, hs b o (fun z => ?_) e'⟩
        subst z
        rcases x₁.mn n b e with e | ⟨_, e⟩
        · obtain ⟨o', e''⟩ := F.sto.al n b e
          rw [hnew] at e''; cases e''
        · obtain ⟨o', e''⟩ := ea
          have e : hp.get? b = none := e
          (rw [e''] at e; cases e), x₁.sto.tot⟩
    live := fun b z => by
      obtain ⟨o, e⟩ := x₁.live b z.1
      exact ⟨o, hs b o z.2 e⟩
    len := x₁.len
    rv := x₁.rv
    hm0 := fun n b e => x₁.hm0 n b e }

/-- a display of one thing -/
theorem display_one {prog : Program} {w : World} {A : Around} {E : Value → Shared → Prop} {s : Shared} {b : Bool} {t : Sem Value} {Q : Value → Shared → Prop}
    (h : wpAny (model prog w) A t (fun v s' => wpAny (model prog w) A (setAdd s.heap.objs.size v) (fun _ s'' => Q (.ref s.heap.objs.size) s'') E s') E { s with heap := s.heap.push (setObj "set" (ldW w)) }) :
    wpAny (model prog w) A (setDisplay .oneByOne b [(false, t)]) Q E s := by
  unfold setDisplay
  rw [if_neg (by decide)]
  refine wpAny_bind (newSet_T ?_)
  dsimp only
  refine wpAny_bind (wpAny_holding ?_)
  refine wpAny_bind (m := evalAll [t]) ?_
  show wpAny _ _ (t >>= fun v => holding [v] (evalAll []) >>= fun r => pure (v :: r)) _ _ _
  refine wpAny_bind (wpAny_mono h (fun v s' h' => ?_) fun _ _ e => e)
  refine wpAny_bind (wpAny_holding (wpAny_pure (wpAny_pure ?_)))
  refine wpAny_bind (wpAny_holding ?_)
  refine wpAny_bind ?_
  rw [List.forIn_cons]
  refine wpAny_bind (wpAny_bind (wpAny_mono h' (fun _ s2 h2 => wpAny_pure ?_) fun _ _ e => e))
  dsimp only
  rw [List.forIn_nil]
  refine wpAny_pure ?_
  rw [if_neg (by decide)]
  refine wpAny_pure ?_
  refine wpAny_bind (m := forIn (m := Sem) ([] : List (Bool × Sem Value)) PUnit.unit _) ?_
  rw [List.forIn_nil]
  exact wpAny_pure (wpAny_pure (wpAny_pure h2))

section
variable {c : Cx} {q : Bool} {k : Nat} {A : Around} {H : Hd} {env : Env} {ns : List Str} {st : Fs} {fe : FE} {s : Shared}
theorem ev_setd {x : Expr} {pos : Pos} {r : ER} (hm : Rm c q (k + 1) A s.heap) (F : Fm c (FrA A) ns env st fe H s.heap) (hx : ∀ y z, x ≠ .Starred y z) (X : ∀ s' H', Kp A s s' → Fm c (FrA A) ns env st fe H' s'.heap → Ev c q A st.lo st.σ H' (eval x env) r s') :
    Ev c q A st.lo st.σ H (eval (.Set [x] 0 pos) env) (r.bindA fun a σ₁ => match a with | .int i => (if 0 ≤ i ∧ i < 32 then .ok (.av (.set false (ldW c.w) [i])) σ₁ else .stuck) | _ => .stuck) s := fun Q E P => by
  rw [arm_eval_Set]
  refine wpAny_bind (wpAny_standAt ?_)
  have main : ∀ (Q' : Bool → Shared → Prop), (∀ b, Q' b s) → wpAny c.M A (inMainModule env) Q' E s := fun Q' h => by
    obtain ⟨cd, o, vs, e, ho, hd⟩ := F.code
    unfold inMainModule
    rw [e]
    split
    · exact wpAny_pure (h _)
    · refine wpAny_bind (wpAny_fieldsOf (F.base' cd o ho) hd ?_)
      split
      · exact wpAny_bind (wpAny_askSetting (wpAny_pure (h _)))
      · exact wpAny_pure (h _)
  refine wpAny_bind (main _ fun b => ?_)
  have hst : starEach [x] env = [(false, eval x env)] := by rw [starEach_cons hx]; rfl
  rw [hst]
  have road : displayRoad 0 [x] = .oneByOne := by simp [displayRoad]
  rw [road]
  refine display_one (t := do let v ← eval x env; standAt pos; pure v) ?_
  have k0 : Kp A s { s with heap := s.heap.push (setObj "set" (ldW c.w)) } := Kp.push _
  have hnew : s.heap.get? s.heap.objs.size = none := Heap.get?_none_of_le (Nat.le_refl _)
  generalize ha : s.heap.objs.size = a at hnew ⊢
  have hnF : ¬ FrA A a := by
    rintro ⟨l, hl, hb⟩
    obtain ⟨l', hl', ff⟩ := hm.frames
    rw [hl] at hl'; cases hl'
    obtain ⟨_, o, e, _⟩ := ff.mem hb
    rw [hnew] at e; cases e
  have hnH : ¬ H.p a := fun z => by
    obtain ⟨o', e'⟩ := F.hlt _ z
    rw [hnew] at e'; cases e'
  have ea : (s.heap.push (setObj "set" (ldW c.w))).get? a = some (setObj "set" (ldW c.w)) := by rw [← ha]; exact Heap.get?_push_size _ rfl
  generalize hs0 : s.heap.push (setObj "set" (ldW c.w)) = hp at k0 ea ⊢
  have F0 : Fm c (FrA A) ns env st fe (H.add fun b => b = a) hp := F.hide k0.kh (fun b z => .inl z) (fun b z => z.imp id fun (z : b = a) => z ▸ hnew) rfl rfl fun b z => by
    rcases z with z | z
    · obtain ⟨o, e⟩ := F.hlt b z
      obtain ⟨sl, e'⟩ := (k0.kh b o e).2
      exact ⟨_, e'⟩
    · exact ⟨_, z ▸ ea⟩
  refine wpAny_bind ?_
  have X0 := X { s with heap := hp } (H.add fun b => b = a) k0 F0
  -- an exception
  cases hr : r with
  | stuck => rw [hr] at P; exact P.elim
  | exc z σ₁ =>
    rw [hr] at P X0
    refine X0 _ _ ⟨P.1, fun e H' sr s' x₁ Y => P.2 e ⟨fun b => H'.p b ∧ b ≠ a, H'.m, H'.o⟩ sr s' ?_ Y⟩
    exact fresh_ss F k0 hnew ⟨_, ea⟩ x₁ ⟨_, _, rfl⟩ fun b o _ e => e
  | ok v σ₁ =>
  rw [hr] at P X0
  cases v with
  | own i => exact P.elim
  | av av =>
  refine X0 _ _ fun v H₁ s₁ x₁ r₁ => wpAny_bind (wpAny_standAt (wpAny_pure ?_))
  simp only [ER.bindA] at P
  split at P
  case h_2 => exact P.elim
  rename_i i
  split at P
  case isFalse => exact P.elim
  rename_i hi
  simp only [RepW, Rep] at r₁
  obtain ⟨t, rfl⟩ := r₁
  have hnW : ¬ Wr st.σ (H.add fun b => b = a) st.lo a := fun ⟨n, mo, _, e1, e2⟩ => hnH (F.sto.hid n _ mo e1 e2)
  have e1 : s₁.heap.get? a = some (setObj "set" (ldW c.w)) := (x₁.kv _ _ hnW ea).1 (.inl hnF)
  unfold setAdd
  refine wpAny_holding (wpAny_bind ((PySem.intKind c.prog c.w).pyHash (k := i) (by simp [PySem.intKind, Value.isInt]) ?_))
  refine setAddG (s := { s₁ with toks := s₁.toks + 1 }) e1 rfl (SetG.empty 0 0 (ldW c.w)) hi fun h₂ es' ep' t' S2 hg hsb => ?_
  refine P _ ⟨fun b => H₁.p b ∧ b ≠ a, H₁.m, H₁.o⟩ _ (fresh_ss F k0 hnew ⟨_, ea⟩ x₁ ⟨_, _, rfl⟩ fun b o nb e => (hsb.2 b nb).trans e) ?_
  simp only [RepW, Rep]
  exact ⟨_, es', ep', t', rfl, ⟨fun z => z.2 rfl, _, hg, rfl, rfl, rfl, .inr (.inr (.inr (.inl rfl))), fun _ => rfl⟩, S2⟩
end
end Mine
end
section
open PySem PySem.W PyProof.Rows
namespace Mine

theorem encE_notStar {frees : List Str} {fname : Nat → Str} {ks : List (Str × NameKind)} {ns : List Str} {p : PE} {ex : Expr} (h : encE frees fname ks ns p ex = true) : ∀ x z, ex ≠ .Starred x z := by
  rintro x z rfl
  cases p <;> exact Bool.false_ne_true h
theorem encE_notSet {frees : List Str} {fname : Nat → Str} {ks : List (Str × NameKind)} {ns : List Str} {p : PE} {ex : Expr} (h : encE frees fname ks ns p ex = true) (hs : isSetd p = false) (env : Env) : ∀ x, foldedSetIterable ex env x = pure x := by
  intro x
  cases ex <;> first | rfl | (cases p <;> first | exact (Bool.false_ne_true h).elim | exact (Bool.false_ne_true hs.symm).elim)
theorem encE_notSlice {frees : List Str} {fname : Nat → Str} {ks : List (Str × NameKind)} {ns : List Str} {p : PE} {ex : Expr} (h : encE frees fname ks ns p ex = true) : ∀ a b z w, ex ≠ .Slice a b z w := by
  rintro a b z w rfl
  cases p <;> exact Bool.false_ne_true h
theorem subscripted_plain {ex : Expr} (h : ∀ a b z w, ex ≠ .Slice a b z w) (o i : Value) : subscripted ex false o i = operate [o, i] (getItem o i) := by
  cases ex <;> first | rfl | exact absurd rfl (h _ _ _ _)
theorem isGlob_of {ks : List (Str × NameKind)} {x : Str} {env : Env} (hks : env.scope.names = ks) (h : isGlob ks x = true) : env.kindOf x = some .globalImplicit ∧ (x == ("__debug__" : Str)) = false ∧ x ≠ "__name__" := by
  simp only [isGlob, Bool.and_eq_true, Bool.not_eq_true', beq_iff_eq] at h
  refine ⟨?_, h.1.2, by simpa using h.2⟩
  show env.scope.names.lookup x = _
  rw [hks]; exact h.1.1

theorem Rm.down {c : Cx} {q : Bool} {k : Nat} {A : Around} {h : Heap} (X : Rm c q (k + 1) A h) : Rm c q k A h := ⟨by have := X.depth; omega, by have := X.units; omega, X.hand, X.frames⟩
theorem pes_nil {frees : List Str} {fname : Nat → Str} {ks : List (Str × NameKind)} {ns : List Str} {ps : PEs} (h : encEs frees fname ks ns ps [] = true) : ps = .nil := by
  cases ps with
  | nil => rfl
  | cons _ _ => simp [ecs_nil, ecs_cons] at h
theorem encEs_head {frees : List Str} {fname : Nat → Str} {ks : List (Str × NameKind)} {ns : List Str} {ps : PEs} {e : Expr} {es : List Expr} (h : encEs frees fname ks ns ps (e :: es) = true) : ∀ x z, e ≠ .Starred x z := by
  cases ps with
  | nil => simp [ecs_nil, ecs_cons] at h
  | cons p ps => simp only [ecs_nil, ecs_cons, Bool.and_eq_true] at h; exact encE_notStar h.1
theorem star_plain {frees : List Str} {fname : Nat → Str} {ks : List (Str × NameKind)} {ns : List Str} {pos : Pos} {env : Env} : ∀ {ps : PEs} {es : List Expr}, encEs frees fname ks ns ps es = true → (backTo pos (starEach es env)).any (·.1) = false
  | _, [], _ => rfl
  | .nil, _ :: _, h => by simp [ecs_nil, ecs_cons] at h
  | .cons p ps, e :: es, h => by
    have h' := h
    simp only [ecs_nil, ecs_cons, Bool.and_eq_true] at h
    rw [starEach_cons (encEs_head h')]
    show (false || (backTo pos (starEach es env)).any (·.1)) = false
    rw [star_plain h.2]; rfl

/-- a thing that can turn is taken up -/
noncomputable def Hd.put (H : Hd) (n : Nat) (a : Addr) : Hd := ⟨fun b => H.p b ∨ b = a, fun i => if i = n then some a else H.m i, H.o⟩
theorem vis_put {Fr : Addr → Prop} {H : Hd} {h h' : Heap} {n : Nat} {a : Addr} (k : Kh Fr h h') (hnew : h.get? a = none) (hn : H.m n = none) : (vis h H).Le (vis h' (H.put n a)) :=
  vis_new k (fun b z => z.imp id fun (z : b = a) => z ▸ hnew) fun i b e => by
    show (if i = n then some a else H.m i) = some b
    rw [if_neg (fun z => by rw [z, hn] at e; cases e)]; exact e
theorem adopt_ss {A : Around} {lo : Nat} {σ : Store} {H : Hd} {s s' : Shared} {a : Addr} {mo : MO} (S : Sto σ H s.heap) (L : Live H s.heap) (k : Kp A s s') (hnew : s.heap.get? a = none) (r : RepM s'.heap (vis s'.heap (H.put σ.length a)) a mo) :
    Ss A lo σ H s (σ ++ [some mo]) (H.put σ.length a) s' := by
  have hn : H.m σ.length = none := by
    cases e : H.m σ.length with
    | none => rfl
    | some b => have := S.lt _ _ e; omega
  have le := vis_put (H := H) (n := σ.length) k.kh hnew hn
  have mget : ∀ i b, (H.put σ.length a).m i = some b → (i = σ.length ∧ b = a) ∨ (i ≠ σ.length ∧ H.m i = some b) := fun i b e => by
    have e : (if i = σ.length then some a else H.m i) = some b := e
    split at e
    · cases e; exact .inl ⟨by assumption, rfl⟩
    · exact .inr ⟨by assumption, e⟩
  have mold : ∀ i b, H.m i = some b → (H.put σ.length a).m i = some b := fun i b e => le.m i b e
  have olda : ∀ i b mo, σ[i]? = some (some mo) → H.m i = some b → b ≠ a := fun i b mo e1 e2 z => by
    subst z
    obtain ⟨o, e⟩ := L b (S.hid i b mo e1 e2)
    rw [hnew] at e; cases e
  obtain ⟨oa, ea, _⟩ := r.data
  exact {
    rest := let ⟨h, t, e, _⟩ := k; ⟨h, t, e⟩
    kv := k.kh.kv
    lv := fun b o e => let ⟨_, q⟩ := (k.kh b o e).2; ⟨_, q⟩
    nf := k.kh.nf
    hp := fun b z => .inl z
    hid := fun b z => z.imp id fun (z : b = a) => z ▸ hnew
    mx := mold
    mn := fun i b e => by
      rcases mget i b e with ⟨rfl, rfl⟩ | ⟨_, e⟩
      · exact .inr ⟨Nat.le_refl _, hnew⟩
      · exact .inl e
    o := rfl
    sto := ⟨fun i mo' e => by
        rcases Nat.lt_or_ge i σ.length with hl | hl
        · rw [List.getElem?_append_left hl] at e
          obtain ⟨b, e1, r1⟩ := S.at' i mo' e
          exact ⟨b, mold i b e1, r1.kv (k.kh.kv (W := fun _ => False)) id le⟩
        · rw [List.getElem?_append_right hl] at e
          have hi : i = σ.length := by
            rcases Nat.lt_or_ge (i - σ.length) 1 with h | h
            · omega
            · rw [List.getElem?_eq_none (by simpa using h)] at e; cases e
          subst hi
          simp at e
          subst e
          exact ⟨a, if_pos rfl, r⟩, fun i j b e1 e2 => by
        rcases mget i b e1 with ⟨rfl, rfl⟩ | ⟨n1, f1⟩ <;> rcases mget j b e2 with ⟨rfl, e3⟩ | ⟨n2, f2⟩
        · rfl
        · obtain ⟨o, e⟩ := S.al j b f2; rw [hnew] at e; cases e
        · obtain ⟨o, e⟩ := S.al i b f1; rw [e3, hnew] at e; cases e
        · exact S.inj i j b f1 f2, fun i b e => by
        rw [List.length_append]
        rcases mget i b e with ⟨rfl, _⟩ | ⟨_, e⟩
        · simp
        · have := S.lt i b e; simp; omega, fun i b mo' e e1 => by
        rcases mget i b e1 with ⟨_, rfl⟩ | ⟨n1, e1⟩
        · exact .inr rfl
        · have hl := S.lt i b e1
          rw [List.getElem?_append_left hl] at e
          exact .inl (S.hid i b mo' e e1), fun i b e => by
        rcases mget i b e with ⟨_, rfl⟩ | ⟨_, e⟩
        · exact ⟨oa, ea⟩
        · obtain ⟨o, e'⟩ := S.al i b e
          obtain ⟨sl, e''⟩ := (k.kh b o e').2
          exact ⟨_, e''⟩, fun i b e => by
        rcases mget i b e with ⟨rfl, _⟩ | ⟨_, e⟩
        · exact ⟨mo, by simp⟩
        · obtain ⟨mo', e'⟩ := S.tot i b e
          exact ⟨mo', by rw [List.getElem?_append_left (S.lt i b e)]; exact e'⟩⟩
    live := fun b z => by
      rcases z with z | z
      · exact L.kp k b z
      · exact ⟨oa, z ▸ ea⟩
    len := by simp
    rv := fun i mo' hl e => by rw [List.getElem?_append_left hl] at e; exact ⟨mo', e⟩
    hm0 := S.lt }

end Mine
end
section
open PySem PySem.W PyProof.Rows
namespace Mine
set_option linter.unusedVariables false
/- comprehensions that make sets and dicts -/
section
variable {prog : Program} {w : World} {A : Around} {E : Value → Shared → Prop} {R : Result → Shared → Prop} {s : Shared}
end
section
variable {c : Cx} {A : Around}
end
section
variable {c : Cx} {O : OpsF} (OK : OpsOk c O) {q : Bool} {k : Nat} {A : Around} {H : Hd} {env : Env} {ns : List Str} {st : Fs} {fe : FE} {s : Shared}
include OK
end
end Mine
end
section
open PySem PySem.W PyProof.Rows
set_option linter.unusedVariables false
set_option linter.unusedSectionVars false
namespace Mine
section
variable {c : Cx} {q : Bool} {k : Nat} {A : Around} {H : Hd} {env : Env} {ns : List Str} {st : Fs} {fe : FE} {s : Shared} {O : OpsF} (OK : OpsOk c O)
include OK
end
end Mine
end
section
open PySem PySem.W PyProof.Rows
set_option maxHeartbeats 2000000
set_option linter.unusedVariables false
set_option linter.unusedSectionVars false
namespace Mine

theorem star_all {frees : List Str} {fname : Nat → Str} {ks : List (Str × NameKind)} {ns : List Str} {pos : Pos} {env : Env} {ps : PEs} {es : List Expr} (h : encEs frees fname ks ns ps es = true) (hl : es.length < 20) :
    ((backTo pos (starEach es env)).all (fun x => !x.1) && (backToKw pos (keywordEach [] env)).all (fun x => x.1.isSome) && decide (es.length + ([] : List Keyword).length + (if ([] : List Keyword).isEmpty then 0 else 1) < 30)) = true := by
  have h1 := star_plain (pos := pos) (env := env) h
  have h2 : (backTo pos (starEach es env)).all (fun x => !x.1) = true := by
    rw [List.all_eq_true]
    intro x hx
    rw [List.any_eq_false] at h1
    have := h1 x hx
    simpa using this
  rw [h2]
  show decide (es.length + 0 + 0 < 30) = true
  exact decide_eq_true (by omega)

theorem emeth_plain : PlainAttrs "list" := PySem.F.plainAttrs_list
theorem comp_turn {c : Cx} {O : OpsF} {cal : Cal} {k : Nat} {elt : PE} {conds : PEs} {q : Bool} {ns : List Str} {st : Fs} {env : Env} {A : Around} {fe : FE} {scope : Scope} {x : Str} {caps : List Nat} {e' : Expr} {ifs : List Expr} {ks' : List (Str × NameKind)} (hk : (relabel scope env).names = ks') (hlen : st.ρ.length = ns.length)
    (Ie : ∀ {cenv : Env} {s : Shared} {H : Hd} {st' : Fs}, cenv.scope.names = ks' → Rm c q (k + 1) A s.heap → Fm c (FrA A) (ns ++ [x]) cenv st' fe H s.heap → st'.ρ.length = (ns ++ [x]).length → PrOk c q A st'.lo st'.σ H e' cenv (pe O cal q st' elt) s)
    (Ic : ∀ {cenv : Env} {s : Shared} {H : Hd} {st' : Fs}, cenv.scope.names = ks' → Rm c q (k + 1) A s.heap → Fm c (FrA A) (ns ++ [x]) cenv st' fe H s.heap → st'.ρ.length = (ns ++ [x]).length → EvB c A st'.lo st'.σ H (testsOf ifs cenv) (pall O cal q st' .And conds) s) :
    TurnOk c q (k + 1) A ns env st fe scope x caps e' ifs (fun x => compF st.σ.length (pall O cal q (st.inner caps x) .And conds) (pe O cal q (st.inner caps x) elt).v) := by
  intro item s₃ H₃ cenv hsc hm₃ F₃
  have hks' : cenv.scope.names = ks' := by rw [hsc]; exact hk
  have hlen' : (st.inner caps item).ρ.length = (ns ++ [x]).length := by simp [Fs.inner, mask_length, hlen]
  refine ⟨fun y hy => ?_, fun hn => ?_⟩
  · unfold compF at hy
    dsimp only at hy
    split at hy
    · rename_i σt ht
      have T := Ic hks' hm₃ F₃ hlen'
      rw [ht] at T
      refine ⟨T.pure (Nat.le_refl _), fun s₄ k₄ => ?_⟩
      have Y := (Ie hks' (hm₃.kp k₄) (F₃.kp k₄) hlen').v
      unfold elemF at hy
      split at hy
      · rename_i v σ' hv
        split at hy
        · rename_i hl
          simp only [Option.map_some, Option.some.injEq] at hy
          subst hy
          rw [hv] at Y
          exact Y.pure (Nat.le_refl _) hl
        · cases hy
      · cases hy
    · cases hy
    · cases hy
  · unfold compF at hn
    dsimp only at hn
    split at hn
    · simp only [Option.map_eq_some_iff] at hn
      obtain ⟨_, _, hn⟩ := hn
      cases hn
    · rename_i σt ht
      have T := Ic hks' hm₃ F₃ hlen'
      rw [ht] at T
      exact T.pure (Nat.le_refl _)
    · cases hn

/-- a comparison of two -/
theorem prOk_cmp {O : OpsF} {k : Nat} {c : Cx} (OK : OpsOk c O) {q : Bool} {ns : List Str} {st : Fs} {env : Env} {A : Around} {s : Shared} {fe : FE} {H : Hd} {op : CmpOp} {l' r' : Expr} {pos : Pos} {R : ER} (hm : Rm c q (k + 1) A s.heap) (F : Fm c (FrA A) ns env st fe H s.heap) (hlen : st.ρ.length = ns.length) (h3 : behindInMarks op r' = false)
    (core : ∀ (Q Q' : Value → Shared → Prop) (E : Value → Shared → Prop), PostE q A st.lo st.σ H R s Q E → (∀ t σ' H' s', R = .ok (.av (.bool t)) σ' → Ss A st.lo st.σ H s σ' H' s' → Q' (.bool t) s') → wpAny c.M A (eval l' env) (fun va s₁ => wpAny c.M A (eval r' env) (fun vb s₂ => wpAny c.M A (compareOp op va vb) Q' E s₂) E s₁) E s) :
    PrOk c q A st.lo st.σ H (.Compare l' [op] [r'] pos) env (.of O.truth st.ρ R) s := by
  have T : Ev c q A st.lo st.σ H (eval (.Compare l' [op] [r'] pos) env) R s := fun Q E P => wpAny_Compare1 (core Q Q E P fun t σ' H' s' e x => by subst e; exact P _ H' s' x (by simp [RepW, Rep])) h3
  refine ⟨T, fun b σ' hb Q E P => ?_⟩
  cases R with
  | exc _ _ => cases hb
  | stuck => cases hb
  | ok v σ₁ =>
    simp only [PR.of, ER.truth, Option.map_eq_some_iff, Prod.mk.injEq] at hb
    obtain ⟨b', hb, rfl, rfl⟩ := hb
    refine wpAny_isTrue_Compare1 (core (fun _ _ => True) _ E (fun _ _ _ _ _ => trivial) fun t σ'' H' s' e x => ?_) h3
    cases e
    have F' := F.ss x
    exact OK.truth (hm.nf x.nf) F'.hlt (a := .bool t) (by simp [RepO, Rep]) hb _ _ fun s'' k'' => P H' s'' (x.trans (.of_kp k'' F'.sto F'.hlt))

section
variable {c : Cx} {O : OpsF} (OK : OpsOk c O) {k : Nat} {cal : Cal} {fname : Nat → Str} (CO : CallsOk c k cal fname) {frees : List Str} (hfree : ∀ x ∈ frees, c.mg x = none)
include OK CO hfree

mutual
theorem pe_sound : ∀ (e : PE) {q : Bool} {ks : List (Str × NameKind)} {ns : List Str} {st : Fs} {ex : Expr} {env : Env} {A : Around} {s : Shared} {fe : FE} {H : Hd},
    encE frees fname ks ns e ex = true → env.scope.names = ks → Rm c q (k + 1) A s.heap → Fm c (FrA A) ns env st fe H s.heap → st.ρ.length = ns.length → PrOk c q A st.lo st.σ H ex env (pe O cal q st e) s
  | .const v, q, ks, ns, st, ex, env, A, s, fe, H, he, hks, hm, F, hlen => by
    rw [ec_const] at he
    obtain ⟨c', kk, pos, rfl, hz⟩ := onE_cst he
    replace he := hz; clear hz
    rw [qe_const]
    refine prOk_of OK hm F hlen ?_ rfl
    have T : Tr c q A H (eval (.Constant c' kk pos) env) (.ok v) s := by
      rcases encC_cases he with ⟨i, rfl, rfl⟩ | ⟨b, rfl, rfl⟩ | ⟨rfl, rfl⟩ | ⟨x, rfl, rfl⟩
      · exact tr_const_int
      · exact tr_const_bool
      · exact tr_const_none
      · exact tr_const_str
    exact Ev.of_tr F.sto F.hlt T
  | .name i, q, ks, ns, st, ex, env, A, s, fe, H, he, hks, hm, F, hlen => by
    rw [ec_name] at he
    obtain ⟨x, pos, rfl, hz⟩ := onE_name he
    replace he := hz; clear hz
    simp only [Bool.and_eq_true, beq_iff_eq, Bool.not_eq_true'] at he
    rw [qe_name]
    refine prOk_of OK hm F hlen ?_ rfl
    unfold slotV
    split
    · rename_i v hv
      obtain ⟨w, n, r⟩ := F.vals i x _ he.1 hv
      exact fun Q E P => wpAny_Name (n.load F.kind (P _ H s (.of_kp (Kp.refl _ _) F.sto F.hlt) r)) he.2
    · rename_i xs hv
      obtain ⟨w, n, z, a, vs, e, o, _⟩ := F.vals i x _ he.1 hv
      exact fun Q E P => wpAny_Name (n.load F.kind (P _ H s (.of_kp (Kp.refl _ _) F.sto F.hlt) ⟨a, o, e⟩)) he.2
    · exact Ev.stuck
  | .glob b, q, ks, ns, st, ex, env, A, s, fe, H, he, hks, hm, F, hlen => by
    rw [ec_glob] at he
    obtain ⟨x, pos, rfl, hz⟩ := onE_name he
    replace he := hz; clear hz
    simp only [Bool.and_eq_true, beq_iff_eq, List.contains_iff_mem] at he
    obtain ⟨⟨⟨h1, h2⟩, h3⟩, h4⟩ := he
    obtain ⟨g1, g2, g3⟩ := isGlob_of hks h3
    rw [qe_glob]
    refine prOk_of OK hm F hlen ?_ rfl
    exact fun Q E P => ld_boot F g1 g2 g3 (hfree x h4) (by rw [h2]; exact BI.boot_ty h1) (P _ H s (.of_kp (Kp.refl _ _) F.sto F.hlt) (by simp [RepW, Rep]))
  | .bin op l r, q, ks, ns, st, ex, env, A, s, fe, H, he, hks, hm, F, hlen => by
    rw [ec_bin] at he
    obtain ⟨l', op', r', pos, rfl, hz⟩ := onE_bin he
    replace he := hz; clear hz
    simp only [Bool.and_eq_true, beq_iff_eq] at he
    obtain ⟨⟨rfl, h1⟩, h2⟩ := he
    rw [qe_bin]
    refine prOk_of OK hm F hlen ?_ rfl
    intro Q E P
    refine wpAny_BinOp ((pe_sound l h1 hks hm F hlen).v.bindK P fun a σ₁ _ va H₁ s₁ x₁ r₁ P₁ => ?_)
    have F₁ := F.ss x₁
    refine (pe_sound r h2 hks (hm.nf x₁.nf) F₁ hlen).v.bindK P₁ fun b σ₂ _ vb H₂ s₂ x₂ r₂ P₂ => ?_
    have F₂ := F₁.ss x₂
    exact OK.bin ((hm.nf x₁.nf).nf x₂.nf) F₂.hlt (RepO.derefS F₂ hlen (r₁.ss x₂ F₁.sto)) (RepO.derefS F₂ hlen r₂) _ _ (P₂.res F₂.sto F₂.hlt)
  | .un op x, q, ks, ns, st, ex, env, A, s, fe, H, he, hks, hm, F, hlen => by
    rw [ec_un] at he
    obtain ⟨op', x', pos, rfl, hz⟩ := onE_un he
    replace he := hz; clear hz
    simp only [Bool.and_eq_true, beq_iff_eq] at he
    obtain ⟨rfl, h1⟩ := he
    rw [qe_un]
    have I := pe_sound x h1 hks hm F hlen
    have T : Ev c q A st.lo st.σ H (eval (.UnaryOp op x' pos) env) ((pe O cal q st x).v.bind fun a σ₁ => ofRes (O.un op (derefS st.ρ σ₁ a)) σ₁) s := by
      intro Q E P
      refine wpAny_UnaryOp (I.v.bindK P fun a σ₁ _ va H₁ s₁ x₁ r₁ P₁ => ?_)
      have F₁ := F.ss x₁
      exact OK.un (hm.nf x₁.nf) F₁.hlt (RepO.derefS F₁ hlen r₁) _ _ (P₁.res F₁.sto F₁.hlt)
    refine ⟨T, ?_⟩
    cases op with
    | Not =>
      intro b σ' hb Q E P
      simp only [Option.map_eq_some_iff, Prod.mk.injEq] at hb
      obtain ⟨⟨b', σ''⟩, hb', rfl, rfl⟩ := hb
      exact wpAny_isTrue_Not (I.t b' _ hb' _ _ P)
    | Invert => exact isT_value OK hm F hlen T rfl
    | UAdd => exact isT_value OK hm F hlen T rfl
    | USub => exact isT_value OK hm F hlen T rfl
  | .cmp op l r, q, ks, ns, st, ex, env, A, s, fe, H, he, hks, hm, F, hlen => by
    rw [ec_cmp] at he
    obtain ⟨l', op', r', pos, rfl, hz⟩ := onC1_eq he
    replace he := hz; clear hz
    all_goals
      simp only [Bool.and_eq_true, beq_iff_eq, Bool.not_eq_true'] at he
      obtain ⟨⟨⟨rfl, h1⟩, h2⟩, h3⟩ := he
      rw [qe_cmp]
      have fin := fun (R : ER) => prOk_cmp OK (R := R) (l' := l') (r' := r') (op := op) (env := env) (pos := pos) hm F hlen h3
      have isCase : (op = .Is ∨ op = .IsNot) → PrOk c q A st.lo st.σ H (.Compare l' [op] [r'] pos) env (.of O.truth st.ρ ((pe O cal q st l).v.bindA fun a σ₁ => (pe O cal q (st.at σ₁) r).v.bindA fun b σ₂ => ofB ((O.is_ a b).map fun z => if op = .Is then z else !z) σ₂)) s := fun hop => by
        refine fin _ fun Q Q' E P h => (pe_sound l h1 hks hm F hlen).v.bindAK P fun a σ₁ e₁ va H₁ s₁ x₁ r₁ P₁ => ?_
        have F₁ := F.ss x₁
        refine (pe_sound r h2 hks (hm.nf x₁.nf) F₁ hlen).v.bindAK P₁ fun b σ₂ e₂ vb H₂ s₂ x₂ r₂ P₂ => ?_
        have F₂ := F₁.ss x₂
        have x12 := x₁.trans x₂
        cases hc : O.is_ a b with
        | none => rw [hc] at P₂; exact P₂.elim
        | some t =>
          refine OK.is_ (hm.nf x12.nf) F₂.sto (Rep.mono (x₂.vis F₁.sto) r₁) r₂ hc hop _ _ fun v s₃ k₃ r₃ => ?_
          simp only [Rep] at r₃
          subst r₃
          exact h _ σ₂ H₂ s₃ (by simp only [e₁, ER.bindA, e₂, hc, Option.map_some, ofB]) (x12.trans (.of_kp k₃ F₂.sto F₂.hlt))
      have cmpCase : PrOk c q A st.lo st.σ H (.Compare l' [op] [r'] pos) env (.of O.truth st.ρ ((pe O cal q st l).v.bind fun a σ₁ => (pe O cal q (st.at σ₁) r).v.bind fun b σ₂ => ofB (O.cmp op (derefS st.ρ σ₂ a) (derefS st.ρ σ₂ b)) σ₂)) s := by
        refine fin _ fun Q Q' E P h => (pe_sound l h1 hks hm F hlen).v.bindK P fun a σ₁ e₁ va H₁ s₁ x₁ r₁ P₁ => ?_
        have F₁ := F.ss x₁
        refine (pe_sound r h2 hks (hm.nf x₁.nf) F₁ hlen).v.bindK P₁ fun b σ₂ e₂ vb H₂ s₂ x₂ r₂ P₂ => ?_
        have F₂ := F₁.ss x₂
        have x12 := x₁.trans x₂
        cases hc : O.cmp op (derefS st.ρ σ₂ a) (derefS st.ρ σ₂ b) with
        | none => rw [hc] at P₂; exact P₂.elim
        | some t =>
          refine OK.cmp (hm.nf x12.nf) F₂.hlt (RepO.derefS F₂ hlen (r₁.ss x₂ F₁.sto)) (RepO.derefS F₂ hlen r₂) hc _ _ fun v s₃ k₃ r₃ => ?_
          simp only [Rep] at r₃
          subst r₃
          exact h _ σ₂ H₂ s₃ (by simp only [e₁, ER.bind, e₂, hc, ofB]) (x12.trans (.of_kp k₃ F₂.sto F₂.hlt))
      cases op
      case Is => exact (by simpa using isCase (.inl rfl))
      case IsNot => exact (by simpa using isCase (.inr rfl))
      all_goals exact cmpCase
  | .bop op xs, q, ks, ns, st, ex, env, A, s, fe, H, he, hks, hm, F, hlen => by
    rw [ec_bop] at he
    obtain ⟨op', xs', pos, rfl, hz⟩ := onE_bop he
    replace he := hz; clear hz
    simp only [Bool.and_eq_true, beq_iff_eq] at he
    obtain ⟨rfl, h1⟩ := he
    rw [qe_bop]
    exact ⟨fun Q E P => pbop_sound xs h1 hks hm F hlen Q E P, fun b σ' hb Q E P => wpAny_isTrue_BoolOp (pall_sound xs h1 hks hm F hlen b σ' hb _ _ P)⟩
  | .ife t a b, q, ks, ns, st, ex, env, A, s, fe, H, he, hks, hm, F, hlen => by
    rw [ec_ife] at he
    obtain ⟨t', a', b', pos, rfl, hz⟩ := onE_ife he
    replace he := hz; clear hz
    simp only [Bool.and_eq_true] at he
    obtain ⟨⟨h1, h2⟩, h3⟩ := he
    rw [qe_ife]
    have I := pe_sound t h1 hks hm F hlen
    split
    · rename_i σ₁ ht
      exact ⟨fun Q E P => wpAny_IfExp (I.t _ _ ht _ _ fun H₁ s₁ x₁ => (pe_sound a h2 hks (hm.nf x₁.nf) (F.ss x₁) hlen).v _ _ (P.ss x₁)),
        fun z σ' hz Q E P => isTrue_IfExp (I.t _ _ ht _ _ fun H₁ s₁ x₁ => (pe_sound a h2 hks (hm.nf x₁.nf) (F.ss x₁) hlen).t z σ' hz _ _ fun H₂ s₂ x₂ => P H₂ s₂ (x₁.trans x₂))⟩
    · rename_i σ₁ ht
      exact ⟨fun Q E P => wpAny_IfExp (I.t _ _ ht _ _ fun H₁ s₁ x₁ => (pe_sound b h3 hks (hm.nf x₁.nf) (F.ss x₁) hlen).v _ _ (P.ss x₁)),
        fun z σ' hz Q E P => isTrue_IfExp (I.t _ _ ht _ _ fun H₁ s₁ x₁ => (pe_sound b h3 hks (hm.nf x₁.nf) (F.ss x₁) hlen).t z σ' hz _ _ fun H₂ s₂ x₂ => P H₂ s₂ (x₁.trans x₂))⟩
    · exact ⟨Ev.stuck, fun b σ' hb => by cases hb⟩
  | .list xs, q, ks, ns, st, ex, env, A, s, fe, H, he, hks, hm, F, hlen => by
    rw [ec_list] at he
    obtain ⟨es, pos, rfl, hz⟩ := onE_list he
    replace he := hz; clear hz
    rw [qe_list]
    refine prOk_of OK hm F hlen ?_ rfl
    intro Q E P
    refine wpAny_List_spliced ((pes_sound xs he hks hm F hlen).onPK P fun l σ₁ _ _ _ vs H₁ s₁ x₁ r₁ P₁ => ?_)
    split at P₁
    · rename_i hl
      have F₁ := F.ss x₁
      exact ⟨by rw [r₁.length]; exact line_ok (by omega), P₁ _ H₁ _ (.of_kp (Kp.push _) F₁.sto F₁.hlt) (rep_fresh_list F₁.hlt (by omega) r₁)⟩
    · exact P₁.elim
  | .tup xs, q, ks, ns, st, ex, env, A, s, fe, H, he, hks, hm, F, hlen => by
    rw [ec_tup] at he
    obtain ⟨es, kk, pos, rfl, hz⟩ := onE_tup he
    replace he := hz; clear hz
    rw [qe_tup]
    refine prOk_of OK hm F hlen ?_ rfl
    intro Q E P
    refine wpAny_Tuple_spliced ((pes_sound xs he hks hm F hlen).onPK P fun l σ₁ _ _ _ vs H₁ s₁ x₁ r₁ P₁ => ?_)
    split at P₁
    · rename_i hl
      have F₁ := F.ss x₁
      exact ⟨by rw [r₁.length]; exact line_ok (by omega), P₁ _ H₁ _ (.of_kp (Kp.push _) F₁.sto F₁.hlt) (rep_fresh_tup F₁.hlt (by omega) r₁)⟩
    · exact P₁.elim
  | .sub o i, q, ks, ns, st, ex, env, A, s, fe, H, he, hks, hm, F, hlen => by
    rw [ec_sub] at he
    obtain ⟨o', i', pos, rfl, hz⟩ := onE_sub he
    replace he := hz; clear hz
    simp only [Bool.and_eq_true] at he
    obtain ⟨h1, h2⟩ := he
    rw [qe_sub]
    refine prOk_of OK hm F hlen ?_ rfl
    intro Q E P
    refine Subscript_ ((pe_sound o h1 hks hm F hlen).v.bindK P fun a σ₁ _ va H₁ s₁ x₁ r₁ P₁ => ?_)
    have F₁ := F.ss x₁
    refine (pe_sound i h2 hks (hm.nf x₁.nf) F₁ hlen).v.bindK P₁ fun b σ₂ _ vb H₂ s₂ x₂ r₂ P₂ => ?_
    have F₂ := F₁.ss x₂
    have ra := RepO.derefS F₂ hlen (r₁.ss x₂ F₁.sto)
    have hne : O.idx (derefS st.ρ σ₂ a) (derefS st.ρ σ₂ b) ≠ .stuck := fun z => by rw [z] at P₂; exact P₂
    obtain ⟨T, id, hT, hid⟩ := OK.idxT ra hne
    exact tail_any hT hid (OK.idx ((hm.nf x₁.nf).nf x₂.nf) F₂.hlt ra (RepO.derefS F₂ hlen r₂) _ _ (P₂.res F₂.sto F₂.hlt)) (subscripted_plain (encE_notSlice h2) _ _)
  | .slice o a b sp, q, ks, ns, st, ex, env, A, s, fe, H, he, hks, hm, F, hlen => by
    rw [ec_slice] at he
    obtain ⟨o', sl', pos, rfl, hz⟩ := onE_sub he
    replace he := hz; clear hz
    obtain ⟨a', b', s', p', rfl, hz⟩ := onE_slice he
    replace he := hz; clear hz
    simp only [Bool.and_eq_true] at he
    obtain ⟨⟨⟨h1, h2⟩, h3⟩, h4⟩ := he
    rw [qe_slice]
    refine prOk_of OK hm F hlen ?_ rfl
    have part : ∀ (p : PE) (x : Option Expr) (st₁ : Fs) (H₁ : Hd) (s₁ : Shared), (∀ e, encE frees fname ks ns p e = true → Ev c q A st₁.lo st₁.σ H₁ (eval e env) (pe O cal q st₁ p).v s₁) → (match x with | some e => encE frees fname ks ns p e | none => isNone' p) = true → Fm c (FrA A) ns env st₁ fe H₁ s₁.heap →
        Ev c q A st₁.lo st₁.σ H₁ (evalPart x env) (pe O cal q st₁ p).v s₁ := by
      intro p x st₁ H₁ s₁ I hx F₁ Q E P
      cases x with
      | none =>
        have hx := isNone'_eq hx
        subst hx
        simp only [qe_const, PR.of] at P
        exact wpAny_evalPart_none (P _ H₁ s₁ (.of_kp (Kp.refl _ _) F₁.sto F₁.hlt) (by simp [RepW, Rep]))
      | some e => exact wpAny_evalPart_some (I e hx _ _ P)
    intro Q E P
    refine Subscript_ ((pe_sound o h1 hks hm F hlen).v.bindK P fun ov σ₁ _ va H₁ s₁ x₁ r₁ P₁ => wpAny_Slice ?_)
    have F₁ := F.ss x₁
    have m₁ := hm.nf x₁.nf
    refine (part a a' (st.at σ₁) H₁ s₁ (fun e he => (pe_sound a he hks m₁ F₁ hlen).v) h2 F₁).bindAK P₁ fun av σ₂ _ wa H₂ s₂ x₂ ra P₂ => ?_
    have F₂ := F₁.ss x₂
    have m₂ := m₁.nf x₂.nf
    refine (part b b' (st.at σ₂) H₂ s₂ (fun e he => (pe_sound b he hks m₂ F₂ hlen).v) h3 F₂).bindAK P₂ fun bv σ₃ _ wb H₃ s₃ x₃ rb P₃ => ?_
    have F₃ := F₂.ss x₃
    have m₃ := m₂.nf x₃.nf
    refine (part sp s' (st.at σ₃) H₃ s₃ (fun e he => (pe_sound sp he hks m₃ F₃ hlen).v) h4 F₃).bindAK P₃ fun sv σ₄ _ ws H₄ s₄ x₄ rs P₄ => ?_
    have F₄ := F₃.ss x₄
    have k5 : Kp A s₄ { s₄ with heap := s₄.heap.push { cls := .type "slice", data := .fields #[wa, wb, ws] } } := Kp.push _
    have x₅ : Ss A st.lo σ₄ H₄ s₄ σ₄ H₄ _ := .of_kp k5 F₄.sto F₄.hlt
    have F₅ := F₄.ss x₅
    have ro := RepO.derefS F₅ hlen ((((r₁.ss x₂ F₁.sto).ss x₃ F₂.sto).ss x₄ F₃.sto).ss x₅ F₄.sto)
    have hne : O.slice (derefS st.ρ σ₄ ov) av bv sv ≠ .stuck := fun z => by rw [z] at P₄; exact P₄
    obtain ⟨T, id, hT, hid⟩ := OK.sliceT ro hne
    refine tail_any (ops := ?_) hT hid (OK.slice (((m₃.nf x₄.nf).nf x₅.nf)) F₅.hlt ro (Rep.mono (((x₃.vis F₂.sto).trans (x₄.vis F₃.sto)).trans (x₅.vis F₄.sto)) ra) (Rep.mono ((x₄.vis F₃.sto).trans (x₅.vis F₄.sto)) rb) (Rep.mono (x₅.vis F₄.sto) rs) (Heap.get?_push_size _ rfl) _ _ ((P₄.ss x₅).res F₅.sto F₅.hlt)) ?_
    · exact match s' with | none => [.ref s₄.heap.objs.size, va] | some _ => [va, .ref s₄.heap.objs.size]
    · cases s' <;> rfl
  | .call f xs, q, ks, ns, st, ex, env, A, s, fe, H, he, hks, hm, F, hlen => by
    rw [ec_call] at he
    obtain ⟨x, px, es, pos, rfl, hz⟩ := onNC_eq he
    replace he := hz; clear hz
    simp only [Bool.and_eq_true, beq_iff_eq] at he
    obtain ⟨⟨h1, h2⟩, h3⟩ := he
    subst h1
    obtain ⟨g1, g2, _⟩ := isGlob_of hks h2
    rw [qe_call]
    refine prOk_of OK hm F hlen ?_ rfl
    cases q with
    | false => exact Ev.stuck
    | true =>
      intro Q E P
      obtain ⟨ol, σ₁, l, hpes, hpl⟩ : ∃ ol σ₁ l, pes O cal true st xs = some (ol, σ₁) ∧ plains ol = some l := by
        cases h : pes O cal true st xs with
        | none => simp only [onP, onL, h] at P; exact P.elim
        | some p =>
          cases hl : plains p.1 with
          | none => simp only [onP, onL, h, hl] at P; exact P.elim
          | some l => exact ⟨p.1, p.2, l, rfl, hl⟩
      have hne : cal σ₁ st.lo f l ≠ .stuck := fun z => by
        simp only [onP, onL, hpes, hpl, z] at P; exact P
      obtain ⟨hc, fa, fo, fd, hg, ho, hd⟩ := CO.ok σ₁ st.lo f l hne
      refine wpAny_Call_NameR (ld_glob F g1 g2 hg ?_)
      refine Calls.callWith_function (o := fo) (fd := fd) ?_
      have fin : wpAny c.M A (spliced (backTo pos (starEach es env))) (fun vs s₁ => (s₁.heap.get? fa = some fo ∧ fo.data = .func fd) ∧ wpAny c.M A (PySem.call (.ref fa) ([] ++ vs) []) Q E s₁) E s :=
        (pes_sound xs h3 hks hm F hlen).onPK P fun l' σ₁' ol' e1 e2 vs H₁ s₁ x₁ r₁ P₁ => by
          rw [hpes] at e1; cases e1
          rw [hpl] at e2; cases e2
          have F₁ := F.ss x₁
          exact ⟨⟨F₁.base' fa fo ho, hd⟩, hc A s₁ H₁ vs fa (hm.nf x₁.nf).down F₁.base' F₁.hlt F₁.sto F₁.mh0 r₁ hg _ _ P₁⟩
      cases es with
      | nil => exact PySem.evalArgs_none (by
          have := pes_nil h3
          subst this
          rw [qes_nil] at hpes
          cases hpes
          simp only [plains] at hpl
          cases hpl
          simp only [onP, onL, qes_nil, plains] at P
          exact ⟨⟨F.base' fa fo ho, hd⟩, hc A s H [] fa hm.down F.base' F.hlt F.sto F.mh0 (by simp [RepL]) hg _ _ P⟩)
      | cons e es =>
        have hst : starEach (e :: es) env = (false, eval e env) :: starEach es env := starEach_cons (encEs_head h3)
        rw [hst] at fin ⊢
        exact Calls.evalArgs_plain fin
  | .bcall f xs, q, ks, ns, st, ex, env, A, s, fe, H, he, hks, hm, F, hlen => by
    rw [ec_bcall] at he
    obtain ⟨x, px, es, pos, rfl, hz⟩ := onNC_eq he
    replace he := hz; clear hz
    simp only [Bool.and_eq_true, beq_iff_eq, List.contains_iff_mem] at he
    obtain ⟨⟨⟨h1, h2⟩, h3⟩, h4⟩ := he
    obtain ⟨g1, g2, g3⟩ := isGlob_of hks h2
    have hb := BI.boot f
    rw [← h1] at hb
    rw [qe_bcall]
    refine prOk_of OK hm F hlen ?_ rfl
    have hq : q = true ∨ q = false := by cases q <;> simp
    rcases hq with hq | hq
    case inr => rw [hq]; exact Ev.stuck
    intro Q E P
    have P : PostE q A st.lo st.σ H (onL (pes O cal q st xs) fun l σ₁ => ofRes (O.bcall f (l.map (derefS st.ρ σ₁))) σ₁) s Q E := by rw [hq] at P ⊢; exact P
    refine wpAny_Call_NameR (ld_boot F g1 g2 g3 (hfree x h3) hb ?_)
    have S : wpAny c.M A (spliced (backTo pos (starEach es env))) (fun vs s' => wpAny c.M A (PySem.call f.val ([] ++ vs) []) Q E s') E s :=
      (pes_sound xs h4 hks hm F hlen).onK P fun l σ₁ _ vs H₁ s₁ x₁ r₁ P₁ => by
        have F₁ := F.ss x₁
        exact OK.bcall hq (hm.nf x₁.nf) F₁.base' F₁.hlt (RepOL.derefS F₁ hlen r₁) (BI.boot f) _ _ (P₁.res F₁.sto F₁.hlt)
    have args : wpAny c.M A (evalArgs f.val true (backTo pos (starEach es env)) []) (fun a s₁ => wpAny c.M A (PySem.call f.val ([] ++ a.pos) a.kw) Q E s₁) E s := by
      cases es with
      | nil => exact PySem.evalArgs_none (by
          have := pes_nil h4
          subst this
          simp only [onL, qes_nil, List.map_nil] at P
          exact OK.bcall hq hm F.base' F.hlt (vs := []) (xs := []) trivial (BI.boot f) _ _ (P.res F.sto F.hlt))
      | cons e es =>
        have hst : starEach (e :: es) env = (false, eval e env) :: starEach es env := starEach_cons (encEs_head h4)
        rw [hst] at S ⊢
        exact Calls.evalArgs_plain S
    have plain := star_plain (pos := pos) (env := env) h4
    unfold BI.val at args ⊢
    split at args
    · rw [if_pos (by assumption)]; exact PySem.callWith_type plain args
    · rw [if_neg (by assumption)]; exact Calls.callWith_builtin plain args
  | .meth o m xs, q, ks, ns, st, ex, env, A, s, fe, H, he, hks, hm, F, hlen => by
    rw [ec_meth] at he
    obtain ⟨o', n, apos, es, pos, rfl, hz⟩ := onMC_eq he
    replace he := hz; clear hz
    simp only [Bool.and_eq_true, beq_iff_eq, decide_eq_true_eq] at he
    obtain ⟨⟨⟨⟨⟨h1, h2⟩, h3⟩, h4⟩, h5⟩, h6⟩ := he
    subst h1
    rw [qe_meth]
    refine prOk_of OK hm F hlen ?_ rfl
    have hq : q = true ∨ q = false := by cases q <;> simp
    rcases hq with hq | hq
    case inr => rw [hq]; exact Ev.stuck
    intro Q E P
    have P : PostE q A st.lo st.σ H ((pe O cal q st o).v.bind fun a σ₁ => onL (pes O cal q (st.at σ₁) xs) fun l σ₂ => (match O.mty m (derefS st.ρ σ₁ a), O.mty m (derefS st.ρ σ₂ a) with
      | some T, some T' => if T = T' then ofRes (O.meth m (derefS st.ρ σ₂ a) (l.map (derefS st.ρ σ₂))) σ₂ else .stuck
      | _, _ => .stuck)) s Q E := by rw [hq] at P ⊢; exact P
    refine wpAny_Call_method_lateS (baseOk_eq h2 _ _ _) (star_all h6 h4) (by simpa using h3) ((pe_sound o h5 hks hm F hlen).v.bindK P fun a σ₁ _ va H₁ s₁ x₁ r₁ P₁ => ?_)
    have F₁ := F.ss x₁
    obtain ⟨ol, σ₂, hpes⟩ : ∃ ol σ₂, pes O cal q (st.at σ₁) xs = some (ol, σ₂) := by
      unfold onL at P₁
      split at P₁
      · rename_i ol σ₂ h; exact ⟨ol, σ₂, h⟩
      · exact P₁.elim
    have P₁' := P₁
    simp only [onL, hpes] at P₁'
    split at P₁'
    case h_2 => exact P₁'.elim
    rename_i T T' hT hT'
    split at P₁'
    case isFalse => exact P₁'.elim
    rename_i hTT
    subst hTT
    obtain ⟨t1, t2, t3, t4, t5⟩ := OK.methT (RepO.derefS F₁ hlen r₁) hT
    refine ⟨T, T ++ "." ++ m.name, t1, t2, t3, t4, t5, ?_⟩
    have plain := star_plain (pos := pos) (env := env) h6
    refine Calls.callWith_builtin plain ?_
    have S : wpAny c.M A (spliced (backTo pos (starEach es env))) (fun vs s' => wpAny c.M A (PySem.call (.builtin (T ++ "." ++ m.name)) ([va] ++ vs) []) Q E s') E s₁ :=
      (pes_sound xs h6 hks (hm.nf x₁.nf) F₁ hlen).onK P₁ fun l σ₂' e2 vs H₂ s₂ x₂ r₂ P₂ => by
        rw [hpes] at e2; cases e2
        have F₂ := F₁.ss x₂
        simp only [hT, hT', if_true] at P₂
        exact OK.meth hq ((hm.nf x₁.nf).nf x₂.nf) F₂.hlt (RepO.derefS F₂ hlen (r₁.ss x₂ F₁.sto)) (RepOL.derefS F₂ hlen r₂) hT' _ _ (P₂.res F₂.sto F₂.hlt)
    cases es with
    | nil => exact PySem.evalArgs_none (by
        have := pes_nil h6
        subst this
        rw [qes_nil] at hpes
        cases hpes
        exact OK.meth hq (hm.nf x₁.nf) F₁.hlt (RepO.derefS F₁ hlen r₁) (vs := []) (xs := []) trivial hT _ _ (P₁'.res F₁.sto F₁.hlt))
    | cons e es =>
      have hst : starEach (e :: es) env = (false, eval e env) :: starEach es env := starEach_cons (encEs_head h6)
      rw [hst] at S ⊢
      exact Calls.evalArgs_plain S
  | .attr x n, q, ks, ns, st, ex, env, A, s, fe, H, he, hks, hm, F, hlen => by
    rw [ec_attr] at he
    obtain ⟨x', a, pos, rfl, hz⟩ := onE_attr he
    replace he := hz; clear hz
    simp only [Bool.and_eq_true, beq_iff_eq] at he
    obtain ⟨⟨h1, h2⟩, h3⟩ := he
    subst h1
    rw [qe_attr]
    refine prOk_of OK hm F hlen ?_ rfl
    have hq : q = true ∨ q = false := by cases q <;> simp
    rcases hq with hq | hq
    case inr => rw [hq]; exact Ev.stuck
    intro Q E P
    have P : PostE q A st.lo st.σ H ((pe O cal q st x).v.bind fun a σ₁ => ofRes (O.attr n (derefS st.ρ σ₁ a)) σ₁) s Q E := by rw [hq] at P ⊢; exact P
    rw [arm_eval_Attribute, baseOk_eq h2]
    refine wpAny_bind ((pe_sound x h3 hks hm F hlen).v.bindK P fun a σ₁ _ va H₁ s₁ x₁ r₁ P₁ => wpAny_bind (wpAny_standAt (wpAny_bind (wpAny_holding ?_))))
    have F₁ := F.ss x₁
    exact OK.attr hq (hm.nf x₁.nf) F₁.hlt (RepO.derefS F₁ hlen r₁) _ _ (by
      have P₂ := P₁.res F₁.sto F₁.hlt
      cases hr : O.attr n (derefS st.ρ σ₁ a) with
      | stuck => rw [hr] at P₂; exact P₂
      | exc z => rw [hr] at P₂; exact P₂
      | ok v => rw [hr] at P₂; exact fun w s' k' r' => wpAny_bind (wpAny_letTemporaryGo (wpAny_pure (P₂ w s' k' r'))))
  | .comp caps elt src conds, q, ks, ns, st, ex, env, A, s, fe, H, he, hks, hm, F, hlen => by
    rw [ec_comp] at he
    obtain ⟨e', x, px, it, ifs, scope, pos, rfl, hz⟩ := onLC_eq he
    replace he := hz; clear hz
    all_goals
      simp only [Bool.and_eq_true] at he
      obtain ⟨⟨⟨⟨h1, h0⟩, h2⟩, h3⟩, h4⟩ := he
      have h0 : isSetd src = false := by simpa using h0
      rw [qe_comp]
      refine prOk_of OK hm F hlen ?_ rfl
      cases q with
      | false => exact Ev.stuck
      | true =>
        exact ev_listcomp OK (f := fun σ₁ x => compF σ₁.length (pall O cal true ((st.at σ₁).inner caps x) .And conds) (pe O cal true ((st.at σ₁).inner caps x) elt).v) rfl hm F hlen (compOk_of hks h2) (encE_notSet h1 h0 env) (pe_sound src h1 hks hm F hlen).v fun σ₁ => comp_turn (relab_eq hks F.kind) hlen (fun a b c d => pe_sound elt h3 a b c d) (fun a b c d => ptests_sound conds h4 a b c d)
  | .compc caps elt src conds, q, ks, ns, st, ex, env, A, s, fe, H, he, hks, hm, F, hlen => by
    rw [ec_compc] at he
    obtain ⟨e', x, px, it, ifs, scope, pos, rfl, hz⟩ := onLC_eq he
    replace he := hz; clear hz
    simp only [Bool.and_eq_true] at he
    obtain ⟨⟨⟨⟨h1, h0⟩, h2⟩, h3⟩, h4⟩ := he
    have h0 : isSetd src = false := by simpa using h0
    rw [qe_compc]
    refine prOk_of OK hm F hlen ?_ rfl
    cases q with
    | false => exact Ev.stuck
    | true =>
      obtain ⟨K, hxf⟩ := compOkC_of (ns := ns) (caps := caps) hks h2
      exact ev_listcompC OK (f := fun σ₁ x => compF σ₁.length (pall O cal true ((st.at σ₁).inner caps x) .And conds) (pe O cal true ((st.at σ₁).inner caps x) elt).v) rfl hm F hlen K hxf (encE_notSet h1 h0 env) (pe_sound src h1 hks hm F hlen).v fun σ₁ => comp_turn (relab_eq hks F.kind) hlen (fun a b c d => pe_sound elt h3 a b c d) (fun a b c d => ptests_sound conds h4 a b c d)
  | .cat l r, q, ks, ns, st, ex, env, A, s, fe, H, he, hks, hm, F, hlen => by
    rw [ec_cat] at he
    obtain ⟨l', op', r', pos, rfl, hz⟩ := onE_bin he
    replace he := hz; clear hz
    simp only [Bool.and_eq_true, beq_iff_eq] at he
    obtain ⟨⟨rfl, h1⟩, h2⟩ := he
    rw [qe_cat]
    refine prOk_of OK hm F hlen ?_ rfl
    intro Q E P
    refine wpAny_BinOp ((pe_sound l h1 hks hm F hlen).v.bindK P fun a σ₁ _ va H₁ s₁ x₁ r₁ P₁ => ?_)
    have F₁ := F.ss x₁
    refine (pe_sound r h2 hks (hm.nf x₁.nf) F₁ hlen).v.bindK P₁ fun b σ₂ _ vb H₂ s₂ x₂ r₂ P₂ => ?_
    have F₂ := F₁.ss x₂
    have ra := RepO.derefS F₂ hlen (r₁.ss x₂ F₁.sto)
    have rb := RepO.derefS F₂ hlen r₂
    cases hc : O.cat (derefS st.ρ σ₂ a) (derefS st.ρ σ₂ b) with
    | none =>
      rw [hc] at P₂
      exact OK.bin ((hm.nf x₁.nf).nf x₂.nf) F₂.hlt ra rb _ _ (PostE.res (r := O.bin .Add (derefS st.ρ σ₂ a) (derefS st.ρ σ₂ b)) P₂ F₂.sto F₂.hlt)
    | some xs =>
      rw [hc] at P₂
      obtain ⟨hz, X⟩ := OK.cat ((hm.nf x₁.nf).nf x₂.nf) F₂.hlt ra rb hc
      refine X _ _ fun D vs s' kp hnew hl rl => ?_
      have hn : H₂.m σ₂.length = none := by
        cases e : H₂.m σ₂.length with
        | none => rfl
        | some b => have := x₂.sto.lt _ _ e; omega
      refine P₂ _ (H₂.put σ₂.length D) _ (adopt_ss F₂.sto F₂.hlt kp hnew ⟨hz, vs, hl, RepL.mono (vis_put (Kh.refl (fun _ => False) _) hnew hn |>.trans ?_) rl⟩) ?_
      · exact kp.kh.vis
      · simp only [RepW, Rep]
        exact ⟨_, if_pos rfl, rfl⟩
  | .setd x, q, ks, ns, st, ex, env, A, s, fe, H, he, hks, hm, F, hlen => by
    rw [ec_setd] at he
    obtain ⟨es', k', pos, rfl, hz⟩ := onE_set he
    replace he := hz; clear hz
    obtain ⟨e, rfl, hz⟩ := one?_eq he
    replace he := hz; clear hz
    simp only [Bool.and_eq_true, beq_iff_eq] at he
    obtain ⟨rfl, he⟩ := he
    rw [qe_setd, OK.ld]
    refine prOk_of OK hm F hlen ?_ rfl
    exact ev_setd hm F (encE_notStar he) fun s' H' k' F' => (pe_sound x he hks (hm.kp k') F' hlen).v
theorem pes_sound : ∀ (es : PEs) {q : Bool} {ks : List (Str × NameKind)} {ns : List Str} {st : Fs} {exs : List Expr} {env : Env} {A : Around} {s : Shared} {fe : FE} {H : Hd} {pos : Pos},
    encEs frees fname ks ns es exs = true → env.scope.names = ks → Rm c q (k + 1) A s.heap → Fm c (FrA A) ns env st fe H s.heap → st.ρ.length = ns.length → EvL c A st.lo st.σ H (spliced (backTo pos (starEach exs env))) (pes O cal q st es) s
  | .nil, q, ks, ns, st, exs, env, A, s, fe, H, pos, he, hks, hm, F, hlen => fun xs σ' hx Q E P => by
    cases exs with
    | nil =>
      simp only [qes_nil, qes_cons] at hx
      cases hx
      exact Calls.spliced_nil (P _ H s (.of_kp (Kp.refl _ _) F.sto F.hlt) trivial)
    | cons _ _ => simp [ecs_nil, ecs_cons] at he
  | .cons p ps, q, ks, ns, st, exs, env, A, s, fe, H, pos, he, hks, hm, F, hlen => fun xs σ' hx Q E P => by
    cases exs with
    | nil => simp [ecs_nil, ecs_cons] at he
    | cons e r =>
      have he' := he
      simp only [ecs_nil, ecs_cons, Bool.and_eq_true] at he
      simp only [qes_nil, qes_cons] at hx
      have I := (pe_sound p he.1 hks hm F hlen).v
      split at hx
      case h_2 => cases hx
      rename_i v σ₁ hv
      rw [hv] at I
      split at hx
      case h_2 => cases hx
      rename_i l σ₂ hl
      cases hx
      rw [starEach_cons (encE_notStar he.1)]
      show wpAny c.M A (spliced ((false, eval e env) :: backTo pos (starEach r env))) Q E s
      refine Calls.spliced_cons (I _ _ fun w H₁ s₁ x₁ r₁ => ?_)
      have F₁ := F.ss x₁
      exact pes_sound ps he.2 hks (hm.nf x₁.nf) F₁ hlen l _ hl _ _ fun ws H₂ s₂ x₂ r₂ => P _ H₂ s₂ (x₁.trans x₂) ⟨r₁.ss x₂ F₁.sto, r₂⟩
theorem pall_sound : ∀ (es : PEs) {q : Bool} {op : BoolOp} {ks : List (Str × NameKind)} {ns : List Str} {st : Fs} {exs : List Expr} {env : Env} {A : Around} {s : Shared} {fe : FE} {H : Hd},
    encEs frees fname ks ns es exs = true → env.scope.names = ks → Rm c q (k + 1) A s.heap → Fm c (FrA A) ns env st fe H s.heap → st.ρ.length = ns.length → EvB c A st.lo st.σ H (allTrue op exs env) (pall O cal q st op es) s
  | .nil, q, op, ks, ns, st, exs, env, A, s, fe, H, he, hks, hm, F, hlen => fun b σ' hx Q E P => by
    cases exs with
    | nil =>
      simp only [pall] at hx
      cases hx
      exact wpAny_pure (P H s (.of_kp (Kp.refl _ _) F.sto F.hlt))
    | cons _ _ => simp [ecs_nil, ecs_cons] at he
  | .cons p ps, q, op, ks, ns, st, exs, env, A, s, fe, H, he, hks, hm, F, hlen => fun b σ' hx Q E P => by
    cases exs with
    | nil => simp [ecs_nil, ecs_cons] at he
    | cons e r =>
      simp only [ecs_nil, ecs_cons, Bool.and_eq_true] at he
      simp only [pall] at hx
      have I := (pe_sound p he.1 hks hm F hlen).t
      cases op with
      | And =>
        refine wpAny_allTrue_And_cons ?_
        split at hx
        · rename_i σ₁ hv; cases hx; exact I _ _ hv _ _ fun H₁ s₁ x₁ => P H₁ s₁ x₁
        · rename_i h _; cases h
        · rename_i σ₁ hv; exact I _ _ hv _ _ fun H₁ s₁ x₁ => pall_sound ps he.2 hks (hm.nf x₁.nf) (F.ss x₁) hlen b σ' hx _ _ fun H₂ s₂ x₂ => P H₂ s₂ (x₁.trans x₂)
        · rename_i h _; cases h
        · cases hx
      | Or =>
        refine wpAny_allTrue_Or_cons ?_
        split at hx
        · rename_i h _; cases h
        · rename_i σ₁ hv; cases hx; exact I _ _ hv _ _ fun H₁ s₁ x₁ => P H₁ s₁ x₁
        · rename_i h _; cases h
        · rename_i σ₁ hv; exact I _ _ hv _ _ fun H₁ s₁ x₁ => pall_sound ps he.2 hks (hm.nf x₁.nf) (F.ss x₁) hlen b σ' hx _ _ fun H₂ s₂ x₂ => P H₂ s₂ (x₁.trans x₂)
        · cases hx
theorem ptests_sound : ∀ (es : PEs) {q : Bool} {ks : List (Str × NameKind)} {ns : List Str} {st : Fs} {exs : List Expr} {env : Env} {A : Around} {s : Shared} {fe : FE} {H : Hd},
    encEs frees fname ks ns es exs = true → env.scope.names = ks → Rm c q (k + 1) A s.heap → Fm c (FrA A) ns env st fe H s.heap → st.ρ.length = ns.length → EvB c A st.lo st.σ H (testsOf exs env) (pall O cal q st .And es) s
  | .nil, q, ks, ns, st, exs, env, A, s, fe, H, he, hks, hm, F, hlen => fun b σ' hx Q E P => by
    cases exs with
    | nil =>
      simp only [pall] at hx
      cases hx
      unfold testsOf
      rw [List.forIn_nil]
      exact wpAny_pure (P H s (.of_kp (Kp.refl _ _) F.sto F.hlt))
    | cons _ _ => simp [ecs_nil, ecs_cons] at he
  | .cons p ps, q, ks, ns, st, exs, env, A, s, fe, H, he, hks, hm, F, hlen => fun b σ' hx Q E P => by
    cases exs with
    | nil => simp [ecs_nil, ecs_cons] at he
    | cons e r =>
      simp only [ecs_nil, ecs_cons, Bool.and_eq_true] at he
      simp only [pall] at hx
      have I := (pe_sound p he.1 hks hm F hlen).t
      unfold testsOf
      rw [List.forIn_cons]
      simp only [if_true]
      split at hx
      · rename_i σ₁ hv
        cases hx
        refine wpAny_bind (wpAny_bind (I _ _ hv _ _ fun H₁ s₁ x₁ => wpAny_pure ?_))
        have skip : ∀ (l : List Expr), (forIn l false fun c r => if r = true then do let ok ← isTrue c env (eval c env); pure (ForInStep.yield ok) else pure (ForInStep.yield r) : Sem Bool) = pure false := by
          intro l
          induction l with
          | nil => rw [List.forIn_nil]
          | cons y l ih => rw [List.forIn_cons]; simpa using ih
        show wpAny c.M A (forIn r false _) _ _ _
        rw [skip]
        exact wpAny_pure (P H₁ s₁ x₁)
      · rename_i h _; cases h
      · rename_i σ₁ hv
        refine wpAny_bind (wpAny_bind (I _ _ hv _ _ fun H₁ s₁ x₁ => wpAny_pure ?_))
        exact ptests_sound ps he.2 hks (hm.nf x₁.nf) (F.ss x₁) hlen b σ' hx _ _ fun H₂ s₂ x₂ => P H₂ s₂ (x₁.trans x₂)
      · rename_i h _; cases h
      · cases hx
theorem pbop_sound : ∀ (es : PEs) {q : Bool} {op : BoolOp} {ks : List (Str × NameKind)} {ns : List Str} {st : Fs} {exs : List Expr} {env : Env} {A : Around} {s : Shared} {fe : FE} {H : Hd} {pos : Pos},
    encEs frees fname ks ns es exs = true → env.scope.names = ks → Rm c q (k + 1) A s.heap → Fm c (FrA A) ns env st fe H s.heap → st.ρ.length = ns.length → Ev c q A st.lo st.σ H (boolOp pos op (evalEach exs env)) (pbop O cal q st op es) s
  | .nil, q, op, ks, ns, st, exs, env, A, s, fe, H, pos, he, hks, hm, F, hlen => by
    simp only [pbop]; exact Ev.stuck
  | .cons p .nil, q, op, ks, ns, st, exs, env, A, s, fe, H, pos, he, hks, hm, F, hlen => by
    match exs, he with
    | [], he => simp [ecs_nil, ecs_cons] at he
    | [e], he =>
      simp only [ecs_nil, ecs_cons, Bool.and_eq_true] at he
      simp only [pbop]
      exact (pe_sound p he.1 hks hm F hlen).v
    | _ :: _ :: _, he => simp [ecs_nil, ecs_cons] at he
  | .cons p (.cons p' ps), q, op, ks, ns, st, exs, env, A, s, fe, H, pos, he, hks, hm, F, hlen => by
    match exs, he with
    | [], he => simp [ecs_nil, ecs_cons] at he
    | [e], he => simp [ecs_nil, ecs_cons] at he
    | e :: e' :: r, he =>
      have he' : encE frees fname ks ns p e = true ∧ encEs frees fname ks ns (.cons p' ps) (e' :: r) = true := by
        rw [ecs_cons] at he
        simpa only [Bool.and_eq_true] using he
      intro Q E P
      simp only [pbop] at P
      show wpAny c.M A (do
        let v ← eval e env
        standAt pos
        let t ← holding [v] (truthy v)
        match op, t with
        | .And, false | .Or, true => pure v
        | _, _ => boolOp pos op (evalEach (e' :: r) env)) Q E s
      refine wpAny_bind ((pe_sound p he'.1 hks hm F hlen).v.bindK P fun v σ₁ _ w H₁ s₁ x₁ r₁ P₁ => wpAny_bind (wpAny_standAt (wpAny_bind (wpAny_holding ?_))))
      have F₁ := F.ss x₁
      cases ht : O.truth (derefS st.ρ σ₁ v) with
      | none => rw [ht] at P₁; cases op <;> exact P₁.elim
      | some b =>
        rw [ht] at P₁
        refine OK.truth (hm.nf x₁.nf) F₁.hlt (RepO.derefS F₁ hlen r₁) ht _ _ fun s₂ k₂ => ?_
        have x₂ : Ss A st.lo σ₁ H₁ s₁ σ₁ H₁ s₂ := .of_kp k₂ F₁.sto F₁.hlt
        have F₂ := F₁.ss x₂
        cases op <;> cases b
        · exact wpAny_pure (P₁ _ H₁ s₂ x₂ (r₁.ss x₂ F₁.sto))
        · exact pbop_sound (.cons p' ps) he'.2 hks ((hm.nf x₁.nf).nf x₂.nf) F₂ hlen _ _ (P₁.ss x₂)
        · exact pbop_sound (.cons p' ps) he'.2 hks ((hm.nf x₁.nf).nf x₂.nf) F₂ hlen _ _ (P₁.ss x₂)
        · exact wpAny_pure (P₁ _ H₁ s₂ x₂ (r₁.ss x₂ F₁.sto))
end
end
end Mine
end
section
open PySem PySem.W PyProof.Rows
set_option linter.unusedVariables false
namespace Mine

theorem not_isL_ns {h : Heap} {a : Addr} {m : Str → Option Value} (n : h.Ns a m) (vs : List Value) : ¬ IsL h a vs := fun ⟨o, k, e, _, d, _⟩ => by
  obtain ⟨o', es, ep, e', d', _⟩ := n
  rw [e] at e'; cases e'
  rw [d] at d'; cases d'
theorem not_isL_cell {h : Heap} {a : Addr} {v : Option Value} (n : h.IsCell a v) (vs : List Value) : ¬ IsL h a vs := fun ⟨o, k, e, _, d, _⟩ => by
  obtain ⟨o', e', d'⟩ := n
  rw [e] at e'; cases e'
  rw [d] at d'; cases d'
theorem get_set {ρ : List (Option Ent)} {i j : Nat} {t u : Ent} (h : (ρ.set i (some t))[j]? = some (some u)) : (j = i ∧ u = t) ∨ (j ≠ i ∧ ρ[j]? = some (some u)) := by
  rw [List.getElem?_set] at h
  split at h
  · rename_i e
    split at h
    · simp only [Option.some.injEq] at h
      exact .inl ⟨e.symm, h.symm⟩
    · cases h
  · rename_i e
    exact .inr ⟨Ne.symm e, h⟩
/-- nothing else stands at that name -/
noncomputable def OneName (ns : List Str) (i : Nat) (x : Str) : Prop := ∀ j : Nat, ns[j]? = some x → j = i

/-- the store stays where one thing apart from it turns -/
theorem Sto.chg {σ : Store} {H H' : Hd} {h h' : Heap} {a : Addr} (S : Sto σ H h) (hk : ∀ b o, b ≠ a → h.get? b = some o → h'.get? b = some o) (na : ∀ n, H.m n ≠ some a) (le : (vis h H).Le (vis h' H')) (hm : H'.m = H.m) (hh : ∀ n b, H.m n = some b → H'.p b) : Sto σ H' h' where
  at' := fun n mo e => by
    obtain ⟨b, e1, r⟩ := S.at' n mo e
    exact ⟨b, by rw [hm]; exact e1, r.kv (Kv.of_but (F := fun _ => False) (W := fun b => b = a) hk rfl) (fun z => na n (z ▸ e1)) le⟩
  inj := fun n n' b e e' => S.inj n n' b (by rw [← hm]; exact e) (by rw [← hm]; exact e')
  lt := fun n b e => S.lt n b (by rw [← hm]; exact e)
  hid := fun n b mo _ e => hh n b (by rw [← hm]; exact e)
  al := fun n b e => by
    rw [hm] at e
    obtain ⟨o, e'⟩ := S.al n b e
    exact ⟨o, hk b o (fun z => na n (z ▸ e)) e'⟩
  tot := fun n b e => S.tot n b (by rw [← hm]; exact e)
theorem Sto.hidden {σ : Store} {H : Hd} {h : Heap} (S : Sto σ H h) {n : Nat} {b : Addr} (e : H.m n = some b) : H.p b := let ⟨mo, q⟩ := S.tot n b e; S.hid n b mo q e
theorem Sto.notNs {σ : Store} {H : Hd} {h : Heap} (S : Sto σ H h) {a : Addr} {m : Str → Option Value} (n : h.Ns a m) (i : Nat) : H.m i ≠ some a := fun e => by
  obtain ⟨mo, q⟩ := S.tot i a e
  obtain ⟨b, e1, r⟩ := S.at' i mo q
  rw [e] at e1; cases e1
  obtain ⟨o, e2, d, _⟩ := r.data
  obtain ⟨o', es, ep, e3, d', _⟩ := n
  rw [e2] at e3; cases e3
  exact d _ _ d'
theorem Sto.notCell {σ : Store} {H : Hd} {h : Heap} (S : Sto σ H h) {a : Addr} {v : Option Value} (n : h.IsCell a v) (i : Nat) : H.m i ≠ some a := fun e => by
  obtain ⟨mo, q⟩ := S.tot i a e
  obtain ⟨b, e1, r⟩ := S.at' i mo q
  rw [e] at e1; cases e1
  obtain ⟨o, e2, _, d, _⟩ := r.data
  obtain ⟨o', e3, d'⟩ := n
  rw [e2] at e3; cases e3
  exact d _ d'

/-- one thing that is not of the frame's beginning turns -/
theorem Fm.chg {c : Cx} {Fr : Addr → Prop} {ns : List Str} {env : Env} {st : Fs} {ρ' : List (Option Ent)} {fe : FE} {H H' : Hd} {h h' : Heap} {a : Addr} (F : Fm c Fr ns env st fe H h) (hk : ∀ b o, b ≠ a → h.get? b = some o → h'.get? b = some o) (hfe : fe.h.get? a = none)
    (hle : ∀ b, fe.H.p b → H'.p b) (hm : H'.m = H.m) (live : Live H' h') (hns : ∃ m, h'.Ns env.locals m) (hl : H'.p env.locals) (hc : ∀ x cc, env.kindOf x = some .cell → env.cells.lookup x = some cc → H'.p cc ∧ fe.h.get? cc = none)
    (hcl : ∀ x, env.kindOf x = some .cell → ∃ cc v, env.cells.lookup x = some cc ∧ h'.IsCell cc v) (vals : ∀ (i : Nat) x t, ns[i]? = some x → ρ'[i]? = some (some t) → ∃ v, NV h' env x v ∧ RepE h' H' i v t)
    (own : ∀ i a, H'.o i = some a → H'.p a ∧ fe.h.get? a = none ∧ (∀ n, H'.m n ≠ some a) ∧ ∃ vs, IsL h' a vs) (oinj : ∀ i j a, H'.o i = some a → H'.o j = some a → i = j) (sto : Sto st.σ H' h') : Fm c Fr ns env { st with ρ := ρ' } fe H' h' where
  keep := fun b o n e => by
    have hb : b ≠ a := fun z => by rw [z, hfe] at e; cases e
    obtain ⟨p1, sl, p2⟩ := F.keep b o n e
    exact ⟨fun f => hk b _ hb (p1 f), sl, hk b _ hb p2⟩
  wsub := F.wsub
  base := F.base
  baseF := F.baseF
  basew := F.basew
  hle := hle
  mle := fun n b e => by rw [hm]; exact F.mle n b e
  mold := fun n b l e => F.mold n b l (by rw [← hm]; exact e)
  mnew := fun n b l e => F.mnew n b l (by rw [← hm]; exact e)
  mw := fun n b mo l l' q e => F.mw n b mo l l' q (by rw [← hm]; exact e)
  hlt := live
  felt := F.felt
  wlt := F.wlt
  kind := F.kind
  glob := F.glob
  bi := F.bi
  code := F.code
  ns := hns
  hl := hl
  lnew := F.lnew
  hc := hc
  cl := hcl
  capart := F.capart
  vals := vals
  own := own
  oinj := oinj
  sto := sto
  mh0 := fun n b e => F.mh0 n b (by rw [← hm]; exact e)
  n0le := F.n0le

section
variable {c : Cx} {Fr : Addr → Prop} {ns : List Str} {env : Env} {st : Fs} {fe : FE} {H : Hd} {h h' : Heap}

/-- a slot is forgotten -/
theorem Fm.kill (F : Fm c Fr ns env st fe H h) (i : Nat) : Fm c Fr ns env { st with ρ := st.ρ.set i none } fe H h := { F with
  vals := fun j x t a b => F.vals j x t a (by
    have b : (st.ρ.set i none)[j]? = some (some t) := b
    rw [List.getElem?_set] at b
    split at b
    · split at b <;> simp at b
    · exact b) }

/-- all slots are forgotten, the names' table turns -/
theorem Fm.forget {m : Str → Option Value} (F : Fm c Fr ns env st fe H h) (hs : Heap.SameBut env.locals h h') (hn : h'.Ns env.locals m) : Fm c Fr ns env { st with ρ := [] } fe H h' := by
  obtain ⟨m₀, hm⟩ := F.ns
  have hk : ∀ b o, b ≠ env.locals → h.get? b = some o → h'.get? b = some o := fun b o n e => (hs.2 b n).trans e
  have le : (vis h H).Le (vis h' H) := (Kv.of_sameBut (F := fun _ => False) (W := fun b => b = env.locals) hs rfl).vis fun b z => z ▸ F.hl
  have lk : ∀ {b vs}, IsL h b vs → IsL h' b vs := fun {b vs} l => l.at' fun o e => hk b o (fun z => not_isL_ns hm vs (z ▸ l)) e
  refine F.chg (H' := H) (ρ' := []) hk F.lnew F.hle rfl (fun b q => ?_) ⟨m, hn⟩ F.hl F.hc (fun x q => ?_) (fun j y u hj hu => by simp at hu) (fun j b e => ?_) F.oinj (F.sto.chg hk (F.sto.notNs hm) le rfl fun n b e => F.sto.hidden e)
  · by_cases hb : b = env.locals
    · obtain ⟨o, _, _, e, _⟩ := hn; exact ⟨o, hb ▸ e⟩
    · obtain ⟨o, e⟩ := F.hlt b q; exact ⟨o, hk b o hb e⟩
  · obtain ⟨cc, v, e, n⟩ := F.cl x q
    refine ⟨cc, v, e, n.sameBut hs fun z => ?_⟩
    obtain ⟨o, e, d⟩ := n
    obtain ⟨o', _, _, e', d', _⟩ := hm
    rw [z, e'] at e; cases e; rw [d'] at d; cases d
  · obtain ⟨p, q, r, vs, l⟩ := F.own j b e
    exact ⟨p, q, r, vs, lk l⟩

/-- a slot's table turns -/
theorem fm_store {i : Nat} {x : Str} {t : Ent} {v : Value} {a : Addr} (F : Fm c Fr ns env st fe H h) (hx : ns[i]? = some x) (hnd : OneName ns i x)
    (hs : Heap.SameBut a h h') (hH : H.p a) (hfe : fe.h.get? a = none) (hn : ∀ vs, ¬ IsL h a vs) (nm : ∀ n, H.m n ≠ some a) (hlive : ∃ o, h'.get? a = some o) (nx : NV h' env x v) (ny : ∀ y w, y ≠ x → NV h env y w → NV h' env y w) (hns : ∃ m, h'.Ns env.locals m)
    (hcl : ∀ x, env.kindOf x = some .cell → ∃ cc v, env.cells.lookup x = some cc ∧ h'.IsCell cc v) (r : RepE h H i v t) : Fm c Fr ns env { st with ρ := st.ρ.set i (some t) } fe H h' := by
  have hk : ∀ b o, b ≠ a → h.get? b = some o → h'.get? b = some o := fun b o n e => (hs.2 b n).trans e
  have le : (vis h H).Le (vis h' H) := (Kv.of_sameBut (F := fun _ => False) (W := fun b => b = a) hs rfl).vis fun b z => z ▸ hH
  have lk : ∀ {b vs}, IsL h b vs → IsL h' b vs := fun {b vs} l => l.at' fun o e => hk b o (fun z => hn vs (z ▸ l)) e
  refine F.chg (H' := H) hk hfe F.hle rfl (fun b q => ?_) hns F.hl F.hc hcl (fun j y u hj hu => ?_) (fun j b e => ?_) F.oinj (F.sto.chg hk nm le rfl fun n b e => F.sto.hidden e)
  · by_cases hb : b = a
    · rw [hb]; exact hlive
    · obtain ⟨o, e⟩ := F.hlt b q
      exact ⟨o, hk b o hb e⟩
  · rcases get_set hu with ⟨rfl, rfl⟩ | ⟨ne, hu⟩
    · rw [hx] at hj; cases hj
      exact ⟨v, nx, r.mono le (fun _ e => e) fun _ _ _ l => lk l⟩
    · obtain ⟨w, nw, rw'⟩ := F.vals j y u hj hu
      refine ⟨w, ny y w (fun z => ne ?_) nw, rw'.mono le (fun _ e => e) fun _ _ _ l => lk l⟩
      subst z; exact hnd j hj
  · obtain ⟨p, q, r, vs, l⟩ := F.own j b e
    exact ⟨p, q, r, vs, lk l⟩

/-- an own list turns -/
theorem fm_own {i : Nat} {a : Addr} {vs' : List Value} {xs' : List AV} (F : Fm c Fr ns env st fe H h) (ho : H.o i = some a) (hr : ∃ xs, st.ρ[i]? = some (some (.own xs))) (hs : Heap.SameBut a h h') (hl' : IsL h' a vs') (hz : xs'.length ≤ 1048576) (hv : RepL (vis h H) vs' xs') :
    Fm c Fr ns env { st with ρ := st.ρ.set i (some (.own xs')) } fe H h' := by
  obtain ⟨hH, hfe, nm, vs, hl⟩ := F.own i a ho
  have hk : ∀ b o, b ≠ a → h.get? b = some o → h'.get? b = some o := fun b o n e => (hs.2 b n).trans e
  have le : (vis h H).Le (vis h' H) := (Kv.of_sameBut (F := fun _ => False) (W := fun b => b = a) hs rfl).vis fun b z => z ▸ hH
  have nsk : ∀ {b m}, h.Ns b m → h'.Ns b m := fun {b m} n => by
    have hb : b ≠ a := fun z => not_isL_ns n vs (z ▸ hl)
    obtain ⟨o, es, ep, e, r⟩ := n
    exact ⟨o, es, ep, hk b o hb e, r⟩
  have clk : ∀ {b v}, h.IsCell b v → h'.IsCell b v := fun {b v} n => by
    have hb : b ≠ a := fun z => not_isL_cell n vs (z ▸ hl)
    obtain ⟨o, e, r⟩ := n
    exact ⟨o, hk b o hb e, r⟩
  have nvk : ∀ {x v}, NV h env x v → NV h' env x v := fun {x v} n => by
    rcases n with ⟨k1, m, n, e⟩ | ⟨k1, cc, e, n⟩
    · exact .inl ⟨k1, m, nsk n, e⟩
    · exact .inr ⟨k1, cc, e, clk n⟩
  refine F.chg (H' := H) hk hfe F.hle rfl (fun b q => ?_) (let ⟨m, n⟩ := F.ns; ⟨m, nsk n⟩) F.hl F.hc (fun x q => let ⟨cc, v, e, n⟩ := F.cl x q; ⟨cc, v, e, clk n⟩) (fun j y u hj hu => ?_) (fun j b e => ?_) F.oinj (F.sto.chg hk nm le rfl fun n b e => F.sto.hidden e)
  · by_cases hb : b = a
    · obtain ⟨o, _, e, _⟩ := hl'; exact ⟨o, hb ▸ e⟩
    · obtain ⟨o, e⟩ := F.hlt b q
      exact ⟨o, hk b o hb e⟩
  · rcases get_set hu with ⟨rfl, rfl⟩ | ⟨ne, hu⟩
    · obtain ⟨xs, hr⟩ := hr
      obtain ⟨w, nw, z, a', vs₀, e, o', _⟩ := F.vals j y _ hj hr
      rw [ho] at o'; cases o'
      exact ⟨w, nvk nw, hz, a, vs', e, ho, hl', RepL.mono le hv⟩
    · obtain ⟨w, nw, rw'⟩ := F.vals j y u hj hu
      refine ⟨w, nvk nw, rw'.mono le (fun _ e => e) fun b ws e l => l.at' fun o e' => hk b o (fun z => ne ?_) e'⟩
      subst z; exact F.oinj j i b e ho
  · by_cases hb : b = a
    · subst hb; exact ⟨hH, hfe, nm, vs', hl'⟩
    · obtain ⟨p, q, r, ws, l⟩ := F.own j b e
      exact ⟨p, q, r, ws, l.at' fun o e' => hk b o hb e'⟩

/-- an own list taken up -/
noncomputable def Hd.putO (H : Hd) (i : Nat) (a : Addr) : Hd := ⟨fun b => H.p b ∨ b = a, H.m, fun j => if j = i then some a else H.o j⟩
theorem Fm.putO {i : Nat} {a : Addr} {vs : List Value} (F : Fm c Fr ns env st fe H h) (k : Kh Fr h h') (hnew : h.get? a = none) (hl : IsL h' a vs) : Fm c Fr ns env { st with ρ := st.ρ.set i none } fe (H.putO i a) h' := by
  have G := (F.kill i).step k
  have hN : ∀ b, (H.putO i a).p b → H.p b ∨ h.get? b = none := fun b z => z.imp id fun (z : b = a) => z ▸ hnew
  have le : (vis h H).Le (vis h' (H.putO i a)) := vis_new k hN fun _ _ e => e
  have og : ∀ j b, (H.putO i a).o j = some b → (j = i ∧ b = a) ∨ (j ≠ i ∧ H.o j = some b) := fun j b e => by
    have e : (if j = i then some a else H.o j) = some b := e
    split at e
    · cases e; exact .inl ⟨by assumption, rfl⟩
    · exact .inr ⟨by assumption, e⟩
  have nma : ∀ n, H.m n ≠ some a := fun n e => by
    obtain ⟨o, e'⟩ := F.sto.al n a e
    rw [hnew] at e'; cases e'
  have noa : ∀ j, H.o j ≠ some a := fun j e => by
    obtain ⟨_, _, _, ws, o, _, e', _⟩ := F.own j a e
    rw [hnew] at e'; cases e'
  have fen : fe.h.get? a = none := by
    cases q : fe.h.get? a with
    | none => rfl
    | some o =>
      obtain ⟨o', e'⟩ := F.keep.nw (fun b w => F.hlt b (F.hle b (F.wsub b w))) q
      rw [hnew] at e'; cases e'
  exact { G with
    hle := fun b z => .inl (F.hle b z)
    mle := F.mle
    mold := F.mold
    mnew := F.mnew
    mw := F.mw
    hlt := fun b z => by
      rcases z with z | z
      · exact G.hlt b z
      · obtain ⟨o, _, e, _⟩ := hl; exact ⟨o, z ▸ e⟩
    hl := .inl G.hl
    hc := fun x cc y z => ⟨.inl (G.hc x cc y z).1, (G.hc x cc y z).2⟩
    vals := fun j x t hj ht => by
      have ht : (st.ρ.set i none)[j]? = some (some t) := ht
      have hji : j ≠ i := fun z => by
        subst z
        rw [List.getElem?_set] at ht
        simp at ht
      obtain ⟨v, n, r⟩ := F.vals j x t hj (by rw [List.getElem?_set_ne (Ne.symm hji)] at ht; exact ht)
      exact ⟨v, n.kh k, r.mono le (fun b e => by show (if j = i then some a else H.o j) = some b; rw [if_neg hji]; exact e) fun b ws _ l => k.isL l⟩
    own := fun j b e => by
      rcases og j b e with ⟨_, rfl⟩ | ⟨_, e⟩
      · exact ⟨.inr rfl, fen, nma, vs, hl⟩
      · obtain ⟨p, q, r, ws, l⟩ := G.own j b e
        exact ⟨.inl p, q, r, ws, l⟩
    oinj := fun j l b e e' => by
      rcases og j b e with ⟨h1, h2⟩ | ⟨h1, h2⟩ <;> rcases og l b e' with ⟨h3, h4⟩ | ⟨h3, h4⟩
      · rw [h1, h3]
      · subst h2; exact absurd h4 (noa l)
      · subst h4; exact absurd h2 (noa j)
      · exact F.oinj j l b h2 h4
    sto := F.sto.new k (fun b z => .inl z) hN rfl
    mh0 := F.mh0
    n0le := F.n0le }

/-- an own list is given away -/
theorem Fm.freeze {j : Nat} {y : Str} {ys : List AV} (F : Fm c Fr ns env st fe H h) (hy : ns[j]? = some y) (hr : st.ρ[j]? = some (some (.own ys))) :
    ∃ H', (∀ b, H'.p b → H.p b) ∧ H'.m = H.m ∧ Fm c Fr ns env { st with ρ := st.ρ.set j (some (.val (.lst ys))) } fe H' h := by
  obtain ⟨v, nv, z, a, vs, e, ho, l, r⟩ := F.vals j y _ hy hr
  subst e
  obtain ⟨hH, hfe, nm, _⟩ := F.own j a ho
  have hL : env.locals ≠ a := fun q => by
    obtain ⟨m, n⟩ := F.ns
    exact not_isL_ns n vs (q ▸ l)
  have hC : ∀ x cc, env.kindOf x = some .cell → env.cells.lookup x = some cc → cc ≠ a := fun x cc hk q w => by
    obtain ⟨cc', v', e', n'⟩ := F.cl x hk
    rw [q] at e'; cases e'
    exact not_isL_cell n' vs (w ▸ l)
  refine ⟨⟨fun b => H.p b ∧ b ≠ a, H.m, fun i => if i = j then none else H.o i⟩, fun b q => q.1, rfl, ?_⟩
  have le : (vis h H).Le (vis h ⟨fun b => H.p b ∧ b ≠ a, H.m, fun i => if i = j then none else H.o i⟩) := ⟨fun x cc d q => ⟨fun w => q.1 w.1, q.2⟩, fun _ _ e => e⟩
  refine F.chg (a := a) (fun b o _ e => e) hfe (fun b q => ⟨F.hle b q, fun w => by obtain ⟨o, e⟩ := F.felt b q; rw [w, hfe] at e; cases e⟩) rfl (fun b q => F.hlt b q.1) F.ns ⟨F.hl, hL⟩ (fun x cc y q => ⟨⟨(F.hc x cc y q).1, hC x cc y q⟩, (F.hc x cc y q).2⟩) F.cl (fun i x t h1 h2 => ?_) (fun i b e => ?_) (fun i i' b e e' => ?_)
    (F.sto.chg (a := a) (fun b o _ e => e) nm le rfl fun n b e => ⟨F.sto.hidden e, fun z => nm n (z ▸ e)⟩)
  · rcases get_set h2 with ⟨rfl, rfl⟩ | ⟨ne, h2⟩
    · rw [hy] at h1; cases h1
      refine ⟨_, nv, ?_⟩
      obtain ⟨o, n, e, c1, d1, f1⟩ := l
      simp only [RepE, Rep]
      exact ⟨z, a, vs, n, rfl, ⟨fun w => w.2 rfl, o, e, c1, d1, f1, .inl rfl, fun ⟨_, z⟩ => by cases z⟩, RepL.mono le r⟩
    · obtain ⟨w, nw, rw'⟩ := F.vals i x t h1 h2
      exact ⟨w, nw, rw'.mono le (fun b e => by show (if i = j then none else H.o i) = some b; rw [if_neg ne]; exact e) fun _ _ _ l => l⟩
  · have e : (if i = j then none else H.o i) = some b := e
    split at e
    · cases e
    · rename_i ne
      obtain ⟨p, q, r, ws, l⟩ := F.own i b e
      exact ⟨⟨p, fun w => ne (F.oinj i j b e (w ▸ ho))⟩, q, r, ws, l⟩
  · have e : (if i = j then none else H.o i) = some b := e
    have e' : (if i' = j then none else H.o i') = some b := e'
    split at e
    · cases e
    · split at e'
      · cases e'
      · exact F.oinj i i' b e e'

/-- a thing of another kind turns -/
theorem Fm.touchV {a : Addr} {o : Obj} {fs : Array Value} (F : Fm c Fr ns env st fe H h) (hk : ∀ b o, b ≠ a → h.get? b = some o → h'.get? b = some o)
    (hfe : fe.h.get? a = none) (ho : h.get? a = some o) (hd : o.data = .fields fs) (hcl : ¬ okC o.cls) (hl : ¬ H.p a) : Fm c Fr ns env st fe H h' := by
  have le : (vis h H).Le (vis h' H) := ⟨by
    rintro x cc d ⟨n, o', e, r⟩
    refine ⟨n, o', hk x o' (fun z => ?_) e, r⟩
    rw [z, ho] at e; cases e
    exact hcl (r.1 ▸ r.2.2.2.1), fun _ _ e => e⟩
  have nsk : ∀ {b m}, h.Ns b m → h'.Ns b m := fun {b m} n => by
    obtain ⟨ob, es, ep, e, d, r⟩ := n
    refine ⟨ob, es, ep, hk b ob (fun z => ?_) e, d, r⟩
    rw [z, ho] at e; cases e; rw [hd] at d; cases d
  have clk : ∀ {b v}, h.IsCell b v → h'.IsCell b v := fun {b v} n => by
    obtain ⟨ob, e, d⟩ := n
    refine ⟨ob, hk b ob (fun z => ?_) e, d⟩
    rw [z, ho] at e; cases e; rw [hd] at d; cases d
  have lk : ∀ {b vs}, IsL h b vs → IsL h' b vs := fun {b vs} n => by
    obtain ⟨ob, m, e, c1, d, r⟩ := n
    refine ⟨ob, m, hk b ob (fun z => ?_) e, c1, d, r⟩
    rw [z, ho] at e; cases e; rw [hd] at d; cases d
  have nvk : ∀ {x v}, NV h env x v → NV h' env x v := fun {x v} n => by
    rcases n with ⟨k1, m, n, e⟩ | ⟨k1, cc, e, n⟩
    · exact .inl ⟨k1, m, nsk n, e⟩
    · exact .inr ⟨k1, cc, e, clk n⟩
  exact F.chg (H' := H) (ρ' := st.ρ) hk hfe F.hle rfl (fun b z => by
      have hb : b ≠ a := fun y => hl (y ▸ z)
      obtain ⟨o', e⟩ := F.hlt b z; exact ⟨o', hk b o' hb e⟩) (let ⟨m, n⟩ := F.ns; ⟨m, nsk n⟩) F.hl F.hc (fun x z => let ⟨cc, v, e, n⟩ := F.cl x z; ⟨cc, v, e, clk n⟩)
    (fun i x t h1 h2 => let ⟨v, n, r⟩ := F.vals i x t h1 h2; ⟨v, nvk n, r.mono le (fun _ e => e) fun _ _ _ l => lk l⟩) (fun i b e => let ⟨p, q, r, ws, l⟩ := F.own i b e; ⟨p, q, r, ws, lk l⟩) F.oinj
    (F.sto.chg hk (fun n e => hl (F.sto.hidden e)) le rfl fun n b e => F.sto.hidden e)

/-- a hidden thing that is no part of the frame is let go -/
theorem Fm.drop {a : Addr} (F : Fm c Fr ns env st fe (H.add fun b => b = a) h) (hk : ∀ b o, b ≠ a → h.get? b = some o → h'.get? b = some o)
    (hfe : fe.h.get? a = none) (hL : env.locals ≠ a) (hC : ∀ x cc, env.kindOf x = some .cell → env.cells.lookup x = some cc → cc ≠ a) (hnl : ∀ vs, ¬ IsL h a vs) (hle : ∀ b, fe.H.p b → H.p b) (hH : ¬ H.p a) (nm : ∀ n, H.m n ≠ some a) : Fm c Fr ns env st fe H h' := by
  have le : (vis h (H.add fun b => b = a)).Le (vis h' H) := ⟨by
    rintro x cc d ⟨n, o, e, r⟩
    exact ⟨fun z => n (.inl z), o, hk x o (fun z => n (.inr z)) e, r⟩, fun _ _ e => e⟩
  have nsk : ∀ {m}, h.Ns env.locals m → h'.Ns env.locals m := fun {m} n => by
    obtain ⟨ob, es, ep, e, d, r⟩ := n
    exact ⟨ob, es, ep, hk _ ob hL e, d, r⟩
  have clk : ∀ {x b v}, env.kindOf x = some .cell → env.cells.lookup x = some b → h.IsCell b v → h'.IsCell b v := fun {x b v} qk q n => by
    obtain ⟨ob, e, d⟩ := n
    exact ⟨ob, hk b ob (hC x b qk q) e, d⟩
  have lk : ∀ {b vs}, IsL h b vs → IsL h' b vs := fun {b vs} n => n.at' fun o e => hk b o (fun z => hnl vs (z ▸ n)) e
  have nvk : ∀ {x v}, NV h env x v → NV h' env x v := fun {x v} n => by
    rcases n with ⟨k1, m, n, e⟩ | ⟨k1, cc, e, n⟩
    · exact .inl ⟨k1, m, nsk n, e⟩
    · exact .inr ⟨k1, cc, e, clk k1 e n⟩
  exact F.chg (H' := H) (ρ' := st.ρ) hk hfe hle rfl (fun b z => by
      have hb : b ≠ a := fun y => hH (y ▸ z)
      obtain ⟨o', e⟩ := F.hlt b (.inl z); exact ⟨o', hk b o' hb e⟩) (let ⟨m, n⟩ := F.ns; ⟨m, nsk n⟩) (F.hl.resolve_right hL) (fun x cc y z => ⟨(F.hc x cc y z).1.resolve_right (hC x cc y z), (F.hc x cc y z).2⟩) (fun x z => let ⟨cc, v, e, n⟩ := F.cl x z; ⟨cc, v, e, clk z e n⟩)
    (fun i x t h1 h2 => let ⟨v, n, r⟩ := F.vals i x t h1 h2; ⟨v, nvk n, r.mono le (fun _ e => e) fun _ _ _ l => lk l⟩) (fun i b e => let ⟨p, q, r, ws, l⟩ := F.own i b e; ⟨p.resolve_right fun z => hnl ws (z ▸ l), q, r, ws, lk l⟩) F.oinj
    (F.sto.chg hk nm le rfl fun n b e => (F.sto.hidden e).resolve_right fun z => nm n (z ▸ e))
end

section
variable {c : Cx} {q : Bool} {k : Nat} {A : Around} {H : Hd} {env : Env} {ns : List Str} {st : Fs} {fe : FE} {s : Shared}

theorem wp_store {i : Nat} {x : Str} {v : Value} {t : Ent} {Q : Unit → Shared → Prop} {E : Value → Shared → Prop} (F : Fm c (FrA A) ns env st fe H s.heap) (hx : ns[i]? = some x) (hnd : OneName ns i x) (hk : env.kindOf x = some .local ∨ env.kindOf x = some .cell)
    (r : RepE s.heap H i v t)
    (h : ∀ h' tk, Fm c (FrA A) ns env { st with ρ := st.ρ.set i (some t) } fe H h' → Kv (FrA A) H.p s.heap h' → Nf s.heap h' → (∃ a, (a = env.locals ∨ ∃ y, env.kindOf y = some .cell ∧ env.cells.lookup y = some a) ∧ Heap.SameBut a s.heap h') → NV h' env x v → Q () { s with heap := h', toks := tk }) : wpAny c.M A (storeName env x v) Q E s := by
  rcases hk with hk | hk
  · obtain ⟨m, hm⟩ := F.ns
    refine wpAny_storeName_local hk hm (fun h' hn hs => ?_) (by rw [F.kind]; rfl)
    refine h h' _ (fm_store (v := v) F hx hnd hs F.hl F.lnew (not_isL_ns hm) (F.sto.notNs hm) (let ⟨o, _, _, e, _⟩ := hn; ⟨o, e⟩) (.inl ⟨hk, _, hn, by simp⟩) ?_ ⟨_, hn⟩ ?_ r) (Kv.of_sameBut hs F.hl) ?_ ⟨_, .inl rfl, hs⟩ (.inl ⟨hk, _, hn, by simp⟩)
    · rintro y w hy (⟨ky, m', n', e'⟩ | ⟨ky, cc, ec, n'⟩)
      · rw [Ns_uniq hm n'] at hn
        exact .inl ⟨ky, _, hn, by simp [hy, e']⟩
      · refine .inr ⟨ky, cc, ec, n'.sameBut hs fun z => ?_⟩
        obtain ⟨o, e, d⟩ := n'
        obtain ⟨o', _, _, e', d', _⟩ := hm
        rw [z, e'] at e; cases e; rw [d'] at d; cases d
    · intro y hy
      obtain ⟨cc, w, ec, n'⟩ := F.cl y hy
      refine ⟨cc, w, ec, n'.sameBut hs fun z => ?_⟩
      obtain ⟨o, e, d⟩ := n'
      obtain ⟨o', _, _, e', d', _⟩ := hm
      rw [z, e'] at e; cases e; rw [d'] at d; cases d
    · intro b o e nf
      by_cases hb : b = env.locals
      · obtain ⟨o', _, _, e', d', _⟩ := hn
        exact ⟨o', hb ▸ e', fun vs z => by rw [d'] at z; cases z⟩
      · exact ⟨o, (hs.2 b hb).trans e, nf⟩
  · obtain ⟨cc, v₀, hc, hcell⟩ := F.cl x hk
    obtain ⟨m, hm⟩ := F.ns
    refine wpAny_storeName_cell F.kind hk hc hcell fun h' hv hs => ?_
    have hLc : env.locals ≠ cc := fun z => by
      obtain ⟨o, e, d⟩ := hcell
      obtain ⟨o', _, _, e', d', _⟩ := hm
      rw [← z, e'] at e; cases e; rw [d'] at d; cases d
    refine h h' s.toks (fm_store (v := v) F hx hnd hs (F.hc x cc hk hc).1 (F.hc x cc hk hc).2 (not_isL_cell hcell) (F.sto.notCell hcell) (let ⟨o, e, _⟩ := hv; ⟨o, e⟩) (.inr ⟨hk, cc, hc, hv⟩) ?_ ⟨m, hm.sameBut hs hLc⟩ ?_ r) (Kv.of_sameBut hs (F.hc x cc hk hc).1) ?_ ⟨_, .inr ⟨x, hk, hc⟩, hs⟩ (.inr ⟨hk, cc, hc, hv⟩)
    · rintro y w hy (⟨ky, m', n', e'⟩ | ⟨ky, cy, ey, n'⟩)
      · exact .inl ⟨ky, m', n'.sameBut hs hLc, e'⟩
      · exact .inr ⟨ky, cy, ey, n'.sameBut hs fun z => hy (F.capart y x cc (z ▸ ey) hc)⟩
    · intro y hy
      obtain ⟨cy, w, ey, n'⟩ := F.cl y hy
      by_cases hyx : y = x
      · subst hyx; exact ⟨cc, _, hc, hv⟩
      · exact ⟨cy, w, ey, n'.sameBut hs fun z => hyx (F.capart y x cc (z ▸ ey) hc)⟩
    · intro b o e nf
      by_cases hb : b = cc
      · obtain ⟨o', e', d'⟩ := hv
        exact ⟨o', hb ▸ e', fun vs z => by rw [d'] at z; cases z⟩
      · exact ⟨o, (hs.2 b hb).trans e, nf⟩
end
end Mine
end
section
open PySem PySem.W PyProof.Rows
set_option linter.unusedVariables false
namespace Mine

mutual
inductive PS where
  | expr (e : PE)
  | assign (i : Nat) (e : PE)
  | ownl (i : Nat) (xs : PEs)
  | unpack2 (i j : Nat) (a b : PE)
  | ometh (i : Nat) (m : OMI) (xs : PEs) (fz : Option Nat)
  | ite (t : PE) (a b : PSs)
  | for_ (i : Nat) (src : PE) (body : PSs)
  | while_ (n : Nat) (t : PE) (body : PSs)
  | ret (e : PE)
  | retOwn (i : Nat)
  | brk
  | cont
  | try_ (body : PSs) (hs : PHs)
  | raiseM (e : PE)
inductive PSs where
  | nil
  | cons (s : PS) (r : PSs)
  | frz (i : Nat) (r : PSs)
inductive PHs where
  | nil
  | cons (x : EX) (body : PSs) (r : PHs)
  | asEq (i : Nat) (e : PE)
end

inductive FR where
  | next (st : Fs)
  | brk (st : Fs)
  | cont (st : Fs)
  | ret (v : AV) (σ : Store)
  | exc (x : EX) (st : Fs)
  | stuck

noncomputable def forF (f : AV → Fs → FR) : List AV → Fs → FR
  | [], st => .next st
  | x :: r, st => match f x st with
    | .next st' => forF f r st'
    | .cont st' => forF f r st'
    | .brk st' => .next st'
    | .ret v σ => .ret v σ
    | .exc _ _ => .stuck
    | .stuck => .stuck
noncomputable def whileF (t : Fs → Option (Bool × Store)) (f : Fs → FR) : Nat → Fs → FR
  | 0, _ => .stuck
  | n + 1, st => match t st with
    | some (true, σ) => (match f (st.at σ) with
      | .next st' => whileF t f n st'
      | .cont st' => whileF t f n st'
      | .brk st' => .next st'
      | .ret v σ => .ret v σ
      | .exc _ _ => .stuck
      | .stuck => .stuck)
    | some (false, σ) => .next (st.at σ)
    | none => .stuck

abbrev Fs.set (st : Fs) (i : Nat) (t : Ent) : Fs := { st with ρ := st.ρ.set i (some t) }
noncomputable def Fs.sets (st : Fs) : List Nat → List AV → Fs
  | i :: is, v :: vs => (st.set i (.val v)).sets is vs
  | _, _ => st
/-- the result of an expression in a statement -/
noncomputable def resS (r : ER) (st : Fs) (f : AV → Fs → FR) : FR := match r with
  | .ok (.av v) σ => f v (st.at σ)
  | .ok (.own _) _ => .stuck
  | .exc x σ => .exc x (st.at σ)
  | .stuck => .stuck
noncomputable def ownOf (st : Fs) (i : Nat) : Option (List AV) := match st.ρ[i]? with
  | some (some (.own xs)) => some xs
  | _ => none
section
variable (O : OpsF) (cal : Cal)
noncomputable def omethF (st : Fs) (i : Nat) (m : OMI) (r : Option (List OV × Store)) : FR := match r with
  | some (ol, σ) => (match plains ol, ownOf st i with
    | some l, some xs => (match O.ometh m xs l with
      | some xs' => .next ((st.at σ).set i (.own xs'))
      | none => .stuck)
    | _, _ => .stuck)
  | none => .stuck
noncomputable def unpackF (is : List Nat) (v : AV) (st : Fs) : FR := match v with
  | .tup xs => if xs.length = is.length then .next (st.sets is xs) else .stuck
  | _ => .stuck
mutual
noncomputable def px (q : Bool) (st : Fs) : PS → FR
  | .expr e => resS (pe O cal q st e).v st fun _ st' => .next st'
  | .assign i e => resS (pe O cal q st e).v st fun v st' => .next (st'.set i (.val v))
  | .ownl i xs => match pes O cal q st xs with
    | some (ol, σ) => (match plains ol with
      | some l => if l.length ≤ 100 then .next ((st.at σ).set i (.own l)) else .stuck
      | none => .stuck)
    | none => .stuck
  | .unpack2 i j a b => match q with
    | true => resS (pe O cal true st (.tup (.cons a (.cons b .nil)))).v st fun v st' => unpackF [i, j] v st'
    | false => .stuck
  | .ometh i m xs fz => match q with
    | true => (match fz with
      | none => omethF O st i m (pes O cal true st xs)
      | some j => (match ownOf st j with
        | some ys => omethF O (st.set j (.val (.lst ys))) i m (pes O cal true (st.set j (.val (.lst ys))) xs)
        | none => .stuck))
    | false => .stuck
  | .ite t a b => match (pe O cal q st t).t with
    | some (true, σ) => pxs q (st.at σ) a
    | some (false, σ) => pxs q (st.at σ) b
    | none => .stuck
  | .for_ i src body => match q, (pe O cal q st src).v with
    | true, .ok (.av v) σ => (match O.items v with | some l => forF (fun x st => pxs true (st.set i (.val x)) body) l (st.at σ) | none => .stuck)
    | _, _ => .stuck
  | .while_ n t body => whileF (fun st => (pe O cal q st t).t) (fun st => pxs q st body) n st
  | .ret e => resS (pe O cal q st e).v st fun v st' => .ret v st'.σ
  | .retOwn i => match ownOf st i with
    | some xs => .ret (.lst xs) st.σ
    | none => .stuck
  | .brk => .brk st
  | .cont => .cont st
  | .try_ body hs => match q with
    | true => (match pxs true st body with
      | .exc x st' => phs x st' hs
      | r => r)
    | false => .stuck
  | .raiseM e => match q with
    | true => resS (pe O cal true st e).v st fun v st' => match v with | .str m => .exc (.tm m) st' | _ => .stuck
    | false => .stuck
noncomputable def pxs (q : Bool) (st : Fs) : PSs → FR
  | .nil => .next st
  | .cons s r => match px q st s with
    | .next st' => pxs q st' r
    | f => f
  | .frz i r => match ownOf st i with
    | some ys => pxs q (st.set i (.val (.lst ys))) r
    | none => .stuck
noncomputable def phs (x : EX) (st : Fs) : PHs → FR
  | .nil => .stuck
  | .cons y body r => if (x.plain && y.plain) = true then (if x = y then (match pxs false st body with | .exc _ _ => .stuck | f => f) else phs x st r) else .stuck
  | .asEq i e => match x with
    | .tm m => (match (pe O cal false (st.set i (.val .any)) e).v with
      | .ok (.av (.str n)) σ => (match O.cmp .Eq (.str m) (.str n) with
        | some b => .ret (.bool b) σ
        | none => .stuck)
      | _ => .stuck)
    | _ => .stuck
end
end

noncomputable def nameAt (ks : List (Str × NameKind)) (ns : List Str) (i : Nat) (x : Str) : Bool :=
  ns[i]? == some x && (ks.lookup x == some .local || ks.lookup x == some .cell) && (List.range ns.length).all fun j => j == i || !(ns[j]? == some x)
noncomputable def isComp : PE → Bool
  | .comp .. => true
  | .compc .. => true
  | _ => false
noncomputable def isSC : PE → Bool
  | _ => false
/-- what is looked at of a statement -/
structure SH where
  expr : Expr → Bool := fun _ => false
  assign : List Expr → Expr → Bool := fun _ _ => false
  aug : Expr → Operator → Expr → Bool := fun _ _ _ => false
  iff : Expr → List Stmt → List Stmt → Bool := fun _ _ _ => false
  fo : Expr → Expr → List Stmt → List Stmt → Bool := fun _ _ _ _ => false
  wh : Expr → List Stmt → List Stmt → Bool := fun _ _ _ => false
  ret : Option Expr → Bool := fun _ => false
  brk : Bool := false
  cont : Bool := false
  pass : Bool := false
  tr : List Stmt → List ExceptHandler → List Stmt → List Stmt → Bool := fun _ _ _ _ => false
  raise : Option Expr → Option Expr → Bool := fun _ _ => false
noncomputable def onS (h : SH) : Stmt → Bool
  | .Expr e _ => h.expr e
  | .Assign ts e _ => h.assign ts e
  | .AugAssign t o e _ => h.aug t o e
  | .If t a b _ => h.iff t a b
  | .For t i a b _ => h.fo t i a b
  | .While t a b _ => h.wh t a b
  | .Return e _ => h.ret e
  | .Break _ => h.brk
  | .Continue _ => h.cont
  | .Pass _ => h.pass
  | .Try a b c d _ => h.tr a b c d
  | .Raise a b _ => h.raise a b
  | _ => false
section
variable {sm : Stmt}
theorem onS_elim {h : SH} {P : Stmt → Prop} {sm : Stmt} (he : onS h sm = true) (h0 : ∀ e p, h.expr e = true → P (.Expr e p)) (h1 : ∀ ts e p, h.assign ts e = true → P (.Assign ts e p)) (h2 : ∀ t o e p, h.aug t o e = true → P (.AugAssign t o e p)) (h3 : ∀ t a b p, h.iff t a b = true → P (.If t a b p)) (h4 : ∀ t i a b p, h.fo t i a b = true → P (.For t i a b p)) (h5 : ∀ t a b p, h.wh t a b = true → P (.While t a b p)) (h6 : ∀ e p, h.ret e = true → P (.Return e p)) (h7 : ∀ p, h.brk = true → P (.Break p)) (h8 : ∀ p, h.cont = true → P (.Continue p)) (h9 : ∀ p, h.pass = true → P (.Pass p)) (h10 : ∀ a b c d p, h.tr a b c d = true → P (.Try a b c d p)) (h11 : ∀ a b p, h.raise a b = true → P (.Raise a b p)) : P sm := by
  cases sm with
  | Expr e p => exact h0 e p he
  | Assign ts e p => exact h1 ts e p he
  | AugAssign t o e p => exact h2 t o e p he
  | If t a b p => exact h3 t a b p he
  | For t i a b p => exact h4 t i a b p he
  | While t a b p => exact h5 t a b p he
  | Return e p => exact h6 e p he
  | Break p => exact h7 p he
  | Continue p => exact h8 p he
  | Pass p => exact h9 p he
  | Try a b c d p => exact h10 a b c d p he
  | Raise a b p => exact h11 a b p he
  | _ => exact (Bool.false_ne_true he).elim
theorem onS_expr {f} (h : onS { expr := f } sm = true) : ∃ e p, sm = .Expr e p ∧ f e = true :=
  onS_elim (P := fun sm => ∃ e p, sm = .Expr e p ∧ f e = true) h (fun e p z => ⟨e, p, rfl, z⟩) (fun _ _ _ z => (Bool.false_ne_true z).elim) (fun _ _ _ _ z => (Bool.false_ne_true z).elim) (fun _ _ _ _ z => (Bool.false_ne_true z).elim) (fun _ _ _ _ _ z => (Bool.false_ne_true z).elim) (fun _ _ _ _ z => (Bool.false_ne_true z).elim) (fun _ _ z => (Bool.false_ne_true z).elim) (fun _ z => (Bool.false_ne_true z).elim) (fun _ z => (Bool.false_ne_true z).elim) (fun _ z => (Bool.false_ne_true z).elim) (fun _ _ _ _ _ z => (Bool.false_ne_true z).elim) (fun _ _ _ z => (Bool.false_ne_true z).elim)
theorem onS_assign {f} (h : onS { assign := f } sm = true) : ∃ ts e p, sm = .Assign ts e p ∧ f ts e = true :=
  onS_elim (P := fun sm => ∃ ts e p, sm = .Assign ts e p ∧ f ts e = true) h (fun _ _ z => (Bool.false_ne_true z).elim) (fun ts e p z => ⟨ts, e, p, rfl, z⟩) (fun _ _ _ _ z => (Bool.false_ne_true z).elim) (fun _ _ _ _ z => (Bool.false_ne_true z).elim) (fun _ _ _ _ _ z => (Bool.false_ne_true z).elim) (fun _ _ _ _ z => (Bool.false_ne_true z).elim) (fun _ _ z => (Bool.false_ne_true z).elim) (fun _ z => (Bool.false_ne_true z).elim) (fun _ z => (Bool.false_ne_true z).elim) (fun _ z => (Bool.false_ne_true z).elim) (fun _ _ _ _ _ z => (Bool.false_ne_true z).elim) (fun _ _ _ z => (Bool.false_ne_true z).elim)
theorem onS_iff {f} (h : onS { iff := f } sm = true) : ∃ t a b p, sm = .If t a b p ∧ f t a b = true :=
  onS_elim (P := fun sm => ∃ t a b p, sm = .If t a b p ∧ f t a b = true) h (fun _ _ z => (Bool.false_ne_true z).elim) (fun _ _ _ z => (Bool.false_ne_true z).elim) (fun _ _ _ _ z => (Bool.false_ne_true z).elim) (fun t a b p z => ⟨t, a, b, p, rfl, z⟩) (fun _ _ _ _ _ z => (Bool.false_ne_true z).elim) (fun _ _ _ _ z => (Bool.false_ne_true z).elim) (fun _ _ z => (Bool.false_ne_true z).elim) (fun _ z => (Bool.false_ne_true z).elim) (fun _ z => (Bool.false_ne_true z).elim) (fun _ z => (Bool.false_ne_true z).elim) (fun _ _ _ _ _ z => (Bool.false_ne_true z).elim) (fun _ _ _ z => (Bool.false_ne_true z).elim)
theorem onS_fo {f} (h : onS { fo := f } sm = true) : ∃ t i a b p, sm = .For t i a b p ∧ f t i a b = true :=
  onS_elim (P := fun sm => ∃ t i a b p, sm = .For t i a b p ∧ f t i a b = true) h (fun _ _ z => (Bool.false_ne_true z).elim) (fun _ _ _ z => (Bool.false_ne_true z).elim) (fun _ _ _ _ z => (Bool.false_ne_true z).elim) (fun _ _ _ _ z => (Bool.false_ne_true z).elim) (fun t i a b p z => ⟨t, i, a, b, p, rfl, z⟩) (fun _ _ _ _ z => (Bool.false_ne_true z).elim) (fun _ _ z => (Bool.false_ne_true z).elim) (fun _ z => (Bool.false_ne_true z).elim) (fun _ z => (Bool.false_ne_true z).elim) (fun _ z => (Bool.false_ne_true z).elim) (fun _ _ _ _ _ z => (Bool.false_ne_true z).elim) (fun _ _ _ z => (Bool.false_ne_true z).elim)
theorem onS_wh {f} (h : onS { wh := f } sm = true) : ∃ t a b p, sm = .While t a b p ∧ f t a b = true :=
  onS_elim (P := fun sm => ∃ t a b p, sm = .While t a b p ∧ f t a b = true) h (fun _ _ z => (Bool.false_ne_true z).elim) (fun _ _ _ z => (Bool.false_ne_true z).elim) (fun _ _ _ _ z => (Bool.false_ne_true z).elim) (fun _ _ _ _ z => (Bool.false_ne_true z).elim) (fun _ _ _ _ _ z => (Bool.false_ne_true z).elim) (fun t a b p z => ⟨t, a, b, p, rfl, z⟩) (fun _ _ z => (Bool.false_ne_true z).elim) (fun _ z => (Bool.false_ne_true z).elim) (fun _ z => (Bool.false_ne_true z).elim) (fun _ z => (Bool.false_ne_true z).elim) (fun _ _ _ _ _ z => (Bool.false_ne_true z).elim) (fun _ _ _ z => (Bool.false_ne_true z).elim)
theorem onS_ret {f} (h : onS { ret := f } sm = true) : ∃ e p, sm = .Return e p ∧ f e = true :=
  onS_elim (P := fun sm => ∃ e p, sm = .Return e p ∧ f e = true) h (fun _ _ z => (Bool.false_ne_true z).elim) (fun _ _ _ z => (Bool.false_ne_true z).elim) (fun _ _ _ _ z => (Bool.false_ne_true z).elim) (fun _ _ _ _ z => (Bool.false_ne_true z).elim) (fun _ _ _ _ _ z => (Bool.false_ne_true z).elim) (fun _ _ _ _ z => (Bool.false_ne_true z).elim) (fun e p z => ⟨e, p, rfl, z⟩) (fun _ z => (Bool.false_ne_true z).elim) (fun _ z => (Bool.false_ne_true z).elim) (fun _ z => (Bool.false_ne_true z).elim) (fun _ _ _ _ _ z => (Bool.false_ne_true z).elim) (fun _ _ _ z => (Bool.false_ne_true z).elim)
theorem onS_brk (h : onS { brk := true } sm = true) : ∃ p, sm = .Break p :=
  onS_elim (P := fun sm => ∃ p, sm = .Break p) h (fun _ _ z => (Bool.false_ne_true z).elim) (fun _ _ _ z => (Bool.false_ne_true z).elim) (fun _ _ _ _ z => (Bool.false_ne_true z).elim) (fun _ _ _ _ z => (Bool.false_ne_true z).elim) (fun _ _ _ _ _ z => (Bool.false_ne_true z).elim) (fun _ _ _ _ z => (Bool.false_ne_true z).elim) (fun _ _ z => (Bool.false_ne_true z).elim) (fun p z => ⟨p, rfl⟩) (fun _ z => (Bool.false_ne_true z).elim) (fun _ z => (Bool.false_ne_true z).elim) (fun _ _ _ _ _ z => (Bool.false_ne_true z).elim) (fun _ _ _ z => (Bool.false_ne_true z).elim)
theorem onS_cont (h : onS { cont := true } sm = true) : ∃ p, sm = .Continue p :=
  onS_elim (P := fun sm => ∃ p, sm = .Continue p) h (fun _ _ z => (Bool.false_ne_true z).elim) (fun _ _ _ z => (Bool.false_ne_true z).elim) (fun _ _ _ _ z => (Bool.false_ne_true z).elim) (fun _ _ _ _ z => (Bool.false_ne_true z).elim) (fun _ _ _ _ _ z => (Bool.false_ne_true z).elim) (fun _ _ _ _ z => (Bool.false_ne_true z).elim) (fun _ _ z => (Bool.false_ne_true z).elim) (fun _ z => (Bool.false_ne_true z).elim) (fun p z => ⟨p, rfl⟩) (fun _ z => (Bool.false_ne_true z).elim) (fun _ _ _ _ _ z => (Bool.false_ne_true z).elim) (fun _ _ _ z => (Bool.false_ne_true z).elim)
theorem onS_tr {f} (h : onS { tr := f } sm = true) : ∃ a b c d p, sm = .Try a b c d p ∧ f a b c d = true :=
  onS_elim (P := fun sm => ∃ a b c d p, sm = .Try a b c d p ∧ f a b c d = true) h (fun _ _ z => (Bool.false_ne_true z).elim) (fun _ _ _ z => (Bool.false_ne_true z).elim) (fun _ _ _ _ z => (Bool.false_ne_true z).elim) (fun _ _ _ _ z => (Bool.false_ne_true z).elim) (fun _ _ _ _ _ z => (Bool.false_ne_true z).elim) (fun _ _ _ _ z => (Bool.false_ne_true z).elim) (fun _ _ z => (Bool.false_ne_true z).elim) (fun _ z => (Bool.false_ne_true z).elim) (fun _ z => (Bool.false_ne_true z).elim) (fun _ z => (Bool.false_ne_true z).elim) (fun a b c d p z => ⟨a, b, c, d, p, rfl, z⟩) (fun _ _ _ z => (Bool.false_ne_true z).elim)
theorem onS_raise {f} (h : onS { raise := f } sm = true) : ∃ a b p, sm = .Raise a b p ∧ f a b = true :=
  onS_elim (P := fun sm => ∃ a b p, sm = .Raise a b p ∧ f a b = true) h (fun _ _ z => (Bool.false_ne_true z).elim) (fun _ _ _ z => (Bool.false_ne_true z).elim) (fun _ _ _ _ z => (Bool.false_ne_true z).elim) (fun _ _ _ _ z => (Bool.false_ne_true z).elim) (fun _ _ _ _ _ z => (Bool.false_ne_true z).elim) (fun _ _ _ _ z => (Bool.false_ne_true z).elim) (fun _ _ z => (Bool.false_ne_true z).elim) (fun _ z => (Bool.false_ne_true z).elim) (fun _ z => (Bool.false_ne_true z).elim) (fun _ z => (Bool.false_ne_true z).elim) (fun _ _ _ _ _ z => (Bool.false_ne_true z).elim) (fun a b p z => ⟨a, b, p, rfl, z⟩)
/-- one name is assigned -/
noncomputable def onA1 (sm : Stmt) (f : Str → Expr → Bool) : Bool := onS { assign := fun ts e => one? ts fun t => onE { name := fun x => f x e } t } sm
theorem onA1_eq {f} (h : onA1 sm f = true) : ∃ x px e p, sm = .Assign [.Name x px] e p ∧ f x e = true := by
  obtain ⟨ts, e, p, rfl, h⟩ := onS_assign h
  obtain ⟨t, rfl, h⟩ := one?_eq h
  obtain ⟨x, px, rfl, h⟩ := onE_name h
  exact ⟨x, px, e, p, rfl, h⟩
end
noncomputable def onNm (ex : Expr) (f : Str → Pos → Bool) : Bool := match ex with
  | .Name x p => f x p
  | _ => false
theorem onNm_eq {ex : Expr} {f} (h : onNm ex f = true) : ∃ x p, ex = .Name x p ∧ f x p = true := by
  cases ex with
  | Name x p => exact ⟨x, p, rfl, h⟩
  | _ => exact (Bool.false_ne_true h).elim
noncomputable def opt? {α : Type} (l : Option α) (f : α → Bool) : Bool := match l with
  | some x => f x
  | none => false
theorem opt?_eq {α : Type} {l : Option α} {f : α → Bool} (h : opt? l f = true) : ∃ x, l = some x ∧ f x = true := by
  cases l with
  | some x => exact ⟨x, rfl, h⟩
  | none => cases h
noncomputable def non? {α : Type} (l : Option α) (b : Bool) : Bool := match l with
  | some _ => false
  | none => b
theorem non?_eq {α : Type} {l : Option α} {b : Bool} (h : non? l b = true) : l = none ∧ b = true := by
  cases l with
  | some x => cases h
  | none => exact ⟨rfl, h⟩
noncomputable def onHd (l : List ExceptHandler) (f : Str → List Stmt → List ExceptHandler → Bool) : Bool := match l with
  | [] => false
  | .ExceptHandler t n b _ :: r => opt? t fun t => non? n (onE { name := fun x => !b.isEmpty && f x b r } t)
theorem onHd_eq {l} {f} (h : onHd l f = true) : ∃ x px b₀ su p r, l = .ExceptHandler (some (.Name x px)) none (b₀ :: su) p :: r ∧ f x (b₀ :: su) r = true := by
  rcases l with _ | ⟨⟨t, n, b, p⟩, r⟩
  · cases h
  · obtain ⟨t, rfl, h⟩ := opt?_eq h
    obtain ⟨rfl, h⟩ := non?_eq h
    obtain ⟨x, px, rfl, h⟩ := onE_name h
    rcases b with _ | ⟨b₀, su⟩
    · cases h
    · exact ⟨x, px, b₀, su, p, r, rfl, h⟩
/-- one handler, with a name -/
noncomputable def onHdAs (l : List ExceptHandler) (f : Str → Str → List Stmt → Bool) : Bool := one? l fun
  | .ExceptHandler t n b _ => opt? t fun t => opt? n fun n => onE { name := fun x => f x n b } t
theorem onHdAs_eq {l} {f} (h : onHdAs l f = true) : ∃ x px n b p, l = [.ExceptHandler (some (.Name x px)) (some n) b p] ∧ f x n b = true := by
  obtain ⟨⟨t, n, b, p⟩, rfl, h⟩ := one?_eq h
  obtain ⟨t, rfl, h⟩ := opt?_eq h
  obtain ⟨n, rfl, h⟩ := opt?_eq h
  obtain ⟨x, px, rfl, h⟩ := onE_name h
  exact ⟨x, px, n, b, p, rfl, h⟩
theorem and_two {a b : Bool} (h : (a && b) = true) : a = true ∧ b = true := by rwa [Bool.and_eq_true] at h
/-- return g(n) == r -/
noncomputable def onEqS (b : List Stmt) (n : Str) (f : Str → Expr → Bool) : Bool := one? b fun sm => onS { ret := fun o => opt? o fun ex => onC1 ex fun l op r => op == .Eq && onNC l fun g es => one? es fun a => onE { name := fun y => y == n && f g r } a } sm
theorem onEqS_eq {b} {n} {f} (h : onEqS b n f = true) : ∃ g pg pn pc r pcmp pr, b = [.Return (some (.Compare (.Call (.Name g pg) [.Name n pn] [] pc) [.Eq] [r] pcmp)) pr] ∧ f g r = true := by
  obtain ⟨sm, rfl, h⟩ := one?_eq h
  obtain ⟨o, pr, rfl, h⟩ := onS_ret h
  obtain ⟨ex, rfl, h⟩ := opt?_eq h
  obtain ⟨l, op, r, pcmp, rfl, h3⟩ := onC1_eq h
  obtain ⟨h1, h4⟩ := and_two h3
  obtain ⟨g, pg, es, pc, rfl, h5⟩ := onNC_eq h4
  obtain ⟨a, rfl, h6⟩ := one?_eq h5
  obtain ⟨y, pn, rfl, h7⟩ := onE_name h6
  obtain ⟨h8, h9⟩ := and_two h7
  exact ⟨g, pg, pn, pc, r, pcmp, pr, by rw [beq_iff_eq.mp h1, beq_iff_eq.mp h8], h9⟩

section
variable (frees : List Str) (fname : Nat → Str) (ks : List (Str × NameKind)) (ns : List Str)
mutual
noncomputable def encS : PS → Stmt → Bool
  | .expr e, st => onS { expr := fun ex => encE frees fname ks ns e ex && !(isComp e) } st
  | .assign i e, st => onA1 st fun x ex => nameAt ks ns i x && encE frees fname ks ns e ex && !(isSC e)
  | .ownl i xs, st => onA1 st fun x ex => onE { list := fun es => nameAt ks ns i x && encEs frees fname ks ns xs es } ex
  | .unpack2 i j a b, st => onS { assign := fun ts ex => one? ts fun t => onE { tup := fun ts k1 tp => two? ts fun t1 t2 => onE { tup := fun es k2 vp => two? es fun ea eb => onNm t1 fun x px => onNm t2 fun y py => nameAt ks ns i x && nameAt ks ns j y && !(i == j) && ks.lookup x == some .local && ks.lookup y == some .local && px.line == py.line && !(x == y) && !([ea, eb].all (foldedForSure 8)) && !([ea, eb].all (constantsAlone 8)) && encE frees fname ks ns a ea && encE frees fname ks ns b eb } ex } t } st
  | .ometh i m xs _, st => onS { expr := fun ex => onMC ex fun o n apos es pos => onE { name := fun x => nameAt ks ns i x && !(x == ("__debug__" : Str)) && n == Str.ofString m.name && apos.endLine == pos.line && decide (es.length < 20) && !es.isEmpty && encEs frees fname ks ns xs es } o } st
  | .ite t a b, st => onS { iff := fun t' a' b' => encE frees fname ks ns t t' && encSs a a' && encSs b b' } st
  | .for_ i src body, st => onS { fo := fun t it body' els => onE { name := fun x => nil? els (nameAt ks ns i x && !(isSetd src) && encE frees fname ks ns src it && encSs body body') } t } st
  | .while_ _ t body, st => onS { wh := fun t' body' els => nil? els (encE frees fname ks ns t t' && encSs body body') } st
  | .ret e, st => onS { ret := fun o => opt? o fun ex => encE frees fname ks ns e ex } st
  | .retOwn i, st => onS { ret := fun o => opt? o fun ex => onE { name := fun x => ns[i]? == some x && !(x == ("__debug__" : Str)) } ex } st
  | .brk, st => onS { brk := true } st
  | .cont, st => onS { cont := true } st
  | .try_ body hs, st => onS { tr := fun body' hs' els fin => nil? els (nil? fin (encSs body body' && encHs hs hs' && !hs'.isEmpty)) } st
  | .raiseM e, st => onS { raise := fun o cs => opt? o fun ec => non? cs (onNC ec fun x es => one? es fun ex => x == Str.ofString "TypeError" && isGlob ks x && frees.contains x && encE frees fname ks ns e ex) } st
noncomputable def encSs : PSs → List Stmt → Bool
  | .nil, l => (match l with | [] => true | _ => false)
  | .cons s r, l => (match l with | s' :: r' => encS s s' && encSs r r' | _ => false)
  | .frz _ r, l => encSs r l
noncomputable def encHs : PHs → List ExceptHandler → Bool
  | .nil, l => (match l with | [] => true | _ => false)
  | .cons y body r, l => onHd l fun x b r' => x == Str.ofString y.name && isGlob ks x && frees.contains x && encSs body b && encHs r r'
  | .asEq i e, l => onHdAs l fun x n b => x == Str.ofString "TypeError" && isGlob ks x && frees.contains x && nameAt ks ns i n && ks.lookup n == some .local && !(n == ("__debug__" : Str)) && onEqS b n fun g r => g == Str.ofString "str" && isGlob ks g && frees.contains g && encE frees fname ks ns e r && !(behindInMarks .Eq r)
end
end
/- equations -/
section
variable {O : OpsF} {cal : Cal} {q : Bool} {st : Fs}
theorem qx_expr {e} : px O cal q st (.expr e) = resS (pe O cal q st e).v st fun _ st' => .next st' := rfl
theorem qx_assign {i e} : px O cal q st (.assign i e) = resS (pe O cal q st e).v st fun v st' => .next (st'.set i (.val v)) := rfl
theorem qx_ownl {i xs} : px O cal q st (.ownl i xs) = match pes O cal q st xs with
    | some (ol, σ) => (match plains ol with
      | some l => if l.length ≤ 100 then .next ((st.at σ).set i (.own l)) else .stuck
      | none => .stuck)
    | none => .stuck := rfl
theorem qx_unpack2 {i j a b} : px O cal q st (.unpack2 i j a b) = match q with
    | true => resS (pe O cal true st (.tup (.cons a (.cons b .nil)))).v st fun v st' => unpackF [i, j] v st'
    | false => .stuck := rfl
theorem qx_ometh {i m xs fz} : px O cal q st (.ometh i m xs fz) = match q with
    | true => (match fz with
      | none => omethF O st i m (pes O cal true st xs)
      | some j => (match ownOf st j with
        | some ys => omethF O (st.set j (.val (.lst ys))) i m (pes O cal true (st.set j (.val (.lst ys))) xs)
        | none => .stuck))
    | false => .stuck := rfl
theorem qx_ite {t a b} : px O cal q st (.ite t a b) = match (pe O cal q st t).t with
    | some (true, σ) => pxs O cal q (st.at σ) a
    | some (false, σ) => pxs O cal q (st.at σ) b
    | none => .stuck := rfl
theorem qx_for_ {i src body} : px O cal q st (.for_ i src body) = match q, (pe O cal q st src).v with
    | true, .ok (.av v) σ => (match O.items v with | some l => forF (fun x st => pxs O cal true (st.set i (.val x)) body) l (st.at σ) | none => .stuck)
    | _, _ => .stuck := rfl
theorem qx_while_ {n t body} : px O cal q st (.while_ n t body) = whileF (fun st => (pe O cal q st t).t) (fun st => pxs O cal q st body) n st := rfl
theorem qx_ret {e} : px O cal q st (.ret e) = resS (pe O cal q st e).v st fun v st' => .ret v st'.σ := rfl
theorem qx_retOwn {i} : px O cal q st (.retOwn i) = match ownOf st i with
    | some xs => .ret (.lst xs) st.σ
    | none => .stuck := rfl
theorem qx_try_ {body hs} : px O cal q st (.try_ body hs) = match q with
    | true => (match pxs O cal true st body with
      | .exc x st' => phs O cal x st' hs
      | r => r)
    | false => .stuck := rfl
theorem qx_raiseM {e} : px O cal q st (.raiseM e) = match q with
    | true => resS (pe O cal true st e).v st fun v st' => match v with | .str m => .exc (.tm m) st' | _ => .stuck
    | false => .stuck := rfl
theorem qxs_nil : pxs O cal q st .nil = .next st := rfl
theorem qxs_cons {s r} : pxs O cal q st (.cons s r) = match px O cal q st s with
    | .next st' => pxs O cal q st' r
    | f => f := rfl
theorem qxs_frz {i r} : pxs O cal q st (.frz i r) = match ownOf st i with
    | some ys => pxs O cal q (st.set i (.val (.lst ys))) r
    | none => .stuck := rfl
theorem qh_nil {x₀ : EX} : phs O cal x₀ st .nil = .stuck := rfl
theorem qh_cons {x₀ : EX} {y body r} : phs O cal x₀ st (.cons y body r) = if (x₀.plain && y.plain) = true then (if x₀ = y then (match pxs O cal false st body with | .exc _ _ => .stuck | f => f) else phs O cal x₀ st r) else .stuck := rfl
theorem qh_asEq {x₀ : EX} {i e} : phs O cal x₀ st (.asEq i e) = match x₀ with
    | .tm m => (match (pe O cal false (st.set i (.val .any)) e).v with
      | .ok (.av (.str n)) σ => (match O.cmp .Eq (.str m) (.str n) with
        | some b => .ret (.bool b) σ
        | none => .stuck)
      | _ => .stuck)
    | _ => .stuck := rfl
end
section
variable {frees : List Str} {fname : Nat → Str} {ks : List (Str × NameKind)} {ns : List Str}
theorem es_expr {e st} : encS frees fname ks ns (.expr e) st = onS { expr := fun ex => encE frees fname ks ns e ex && !(isComp e) } st := rfl
theorem es_assign {i e st} : encS frees fname ks ns (.assign i e) st = onA1 st fun x ex => nameAt ks ns i x && encE frees fname ks ns e ex && !(isSC e) := rfl
theorem es_ownl {i xs st} : encS frees fname ks ns (.ownl i xs) st = onA1 st fun x ex => onE { list := fun es => nameAt ks ns i x && encEs frees fname ks ns xs es } ex := rfl
theorem es_unpack2 {i j a b st} : encS frees fname ks ns (.unpack2 i j a b) st = onS { assign := fun ts ex => one? ts fun t => onE { tup := fun ts k1 tp => two? ts fun t1 t2 => onE { tup := fun es k2 vp => two? es fun ea eb => onNm t1 fun x px => onNm t2 fun y py => nameAt ks ns i x && nameAt ks ns j y && !(i == j) && ks.lookup x == some .local && ks.lookup y == some .local && px.line == py.line && !(x == y) && !([ea, eb].all (foldedForSure 8)) && !([ea, eb].all (constantsAlone 8)) && encE frees fname ks ns a ea && encE frees fname ks ns b eb } ex } t } st := rfl
theorem es_ometh {i m xs u0 st} : encS frees fname ks ns (.ometh i m xs u0) st = onS { expr := fun ex => onMC ex fun o n apos es pos => onE { name := fun x => nameAt ks ns i x && !(x == ("__debug__" : Str)) && n == Str.ofString m.name && apos.endLine == pos.line && decide (es.length < 20) && !es.isEmpty && encEs frees fname ks ns xs es } o } st := rfl
theorem es_ite {t a b st} : encS frees fname ks ns (.ite t a b) st = onS { iff := fun t' a' b' => encE frees fname ks ns t t' && encSs frees fname ks ns a a' && encSs frees fname ks ns b b' } st := rfl
theorem es_for_ {i src body st} : encS frees fname ks ns (.for_ i src body) st = onS { fo := fun t it body' els => onE { name := fun x => nil? els (nameAt ks ns i x && !(isSetd src) && encE frees fname ks ns src it && encSs frees fname ks ns body body') } t } st := rfl
theorem es_while_ {u0 t body st} : encS frees fname ks ns (.while_ u0 t body) st = onS { wh := fun t' body' els => nil? els (encE frees fname ks ns t t' && encSs frees fname ks ns body body') } st := rfl
theorem es_ret {e st} : encS frees fname ks ns (.ret e) st = onS { ret := fun o => opt? o fun ex => encE frees fname ks ns e ex } st := rfl
theorem es_retOwn {i st} : encS frees fname ks ns (.retOwn i) st = onS { ret := fun o => opt? o fun ex => onE { name := fun x => ns[i]? == some x && !(x == ("__debug__" : Str)) } ex } st := rfl
theorem es_brk {st} : encS frees fname ks ns (.brk) st = onS { brk := true } st := rfl
theorem es_cont {st} : encS frees fname ks ns (.cont) st = onS { cont := true } st := rfl
theorem es_try_ {body hs st} : encS frees fname ks ns (.try_ body hs) st = onS { tr := fun body' hs' els fin => nil? els (nil? fin (encSs frees fname ks ns body body' && encHs frees fname ks ns hs hs' && !hs'.isEmpty)) } st := rfl
theorem es_raiseM {e st} : encS frees fname ks ns (.raiseM e) st = onS { raise := fun o cs => opt? o fun ec => non? cs (onNC ec fun x es => one? es fun ex => x == Str.ofString "TypeError" && isGlob ks x && frees.contains x && encE frees fname ks ns e ex) } st := rfl
theorem ess_nil {l} : encSs frees fname ks ns (.nil) l = (match l with | [] => true | _ => false) := rfl
theorem ess_cons {s r l} : encSs frees fname ks ns (.cons s r) l = (match l with | s' :: r' => encS frees fname ks ns s s' && encSs frees fname ks ns r r' | _ => false) := rfl
theorem ess_frz {u0 r l} : encSs frees fname ks ns (.frz u0 r) l = encSs frees fname ks ns r l := rfl
theorem eh_nil {l} : encHs frees fname ks ns (.nil) l = (match l with | [] => true | _ => false) := rfl
theorem eh_cons {y body r l} : encHs frees fname ks ns (.cons y body r) l = onHd l fun x b r' => x == Str.ofString y.name && isGlob ks x && frees.contains x && encSs frees fname ks ns body b && encHs frees fname ks ns r r' := rfl
theorem eh_asEq {i e l} : encHs frees fname ks ns (.asEq i e) l = onHdAs l fun x n b => x == Str.ofString "TypeError" && isGlob ks x && frees.contains x && nameAt ks ns i n && ks.lookup n == some .local && !(n == ("__debug__" : Str)) && onEqS b n fun g r => g == Str.ofString "str" && isGlob ks g && frees.contains g && encE frees fname ks ns e r && !(behindInMarks .Eq r) := rfl
end
/- equations end -/
end Mine
end
section
open PySem PySem.W PyProof.Rows
set_option linter.unusedVariables false
set_option linter.unusedSectionVars false
namespace Mine

/-- the frame after some statements -/
structure Nx (c : Cx) (A : Around) (ns : List Str) (env : Env) (fe : FE) (st : Fs) (H : Hd) (s : Shared) (st' : Fs) (H' : Hd) (s' : Shared) : Prop where
  rest : ∃ h' tk, s' = { s with heap := h', toks := tk }
  lv : ∀ b o, s.heap.get? b = some o → ∃ o', s'.heap.get? b = some o'
  hid : ∀ b, H'.p b → H.p b ∨ s.heap.get? b = none
  kv : Kv (FrA A) H.p s.heap s'.heap
  nf : Nf s.heap s'.heap
  mx : ∀ n a, H.m n = some a → H'.m n = some a
  fm : Fm c (FrA A) ns env st' fe H' s'.heap
  len : st'.ρ.length = ns.length
  lo : st'.lo = st.lo
  n0 : st'.n0 = st.n0

section
variable {c : Cx} {A : Around} {ns : List Str} {env : Env} {fe : FE} {st st₁ st₂ : Fs} {H H₁ H₂ : Hd} {s s₁ s₂ : Shared}
theorem Nx.dead (x : Nx c A ns env fe st H s st₁ H₁ s₁) {b : Addr} (z : s₁.heap.get? b = none) : s.heap.get? b = none := by
  cases q : s.heap.get? b with
  | none => rfl
  | some o => obtain ⟨o', e'⟩ := x.lv b o q; rw [z] at e'; cases e'
theorem Nx.trans (x : Nx c A ns env fe st H s st₁ H₁ s₁) (y : Nx c A ns env fe st₁ H₁ s₁ st₂ H₂ s₂) : Nx c A ns env fe st H s st₂ H₂ s₂ where
  rest := by
    obtain ⟨h, t, rfl⟩ := x.rest
    obtain ⟨h', t', rfl⟩ := y.rest
    exact ⟨h', t', rfl⟩
  lv := fun b o e => let ⟨o', e'⟩ := x.lv b o e; y.lv b o' e'
  hid := fun b z => by
    rcases y.hid b z with z | z
    · exact x.hid b z
    · exact .inr (x.dead z)
  kv := fun b o n e => by
    have h1 : ¬ H₁.p b := fun z => by
      rcases x.hid b z with z | z
      · exact n z
      · rw [e] at z; cases z
    obtain ⟨p1, sl, p2⟩ := x.kv b o n e
    obtain ⟨q1, sl', q2⟩ := y.kv b _ h1 p2
    exact ⟨fun f => (y.kv b o h1 (p1 f)).1 f, sl', q2⟩
  nf := x.nf.trans y.nf
  mx := fun n a e => y.mx n a (x.mx n a e)
  fm := y.fm
  len := y.len
  lo := y.lo.trans x.lo
  n0 := y.n0.trans x.n0
theorem Nx.of_ss {σ' : Store} (F : Fm c (FrA A) ns env st fe H s.heap) (hlen : st.ρ.length = ns.length) (x : Ss A st.lo st.σ H s σ' H₁ s₁) : Nx c A ns env fe st H s (st.at σ') H₁ s₁ :=
  ⟨x.rest, x.lv, x.hid, x.kv.mono fun b ⟨n, mo, _, e1, e2⟩ => F.sto.hid n b mo e1 e2, x.nf, x.mx, F.ss x, hlen, rfl, rfl⟩
theorem Nx.of_kp (F : Fm c (FrA A) ns env st fe H s.heap) (hlen : st.ρ.length = ns.length) (k : Kp A s s₁) : Nx c A ns env fe st H s st H s₁ := .of_ss F hlen (.of_kp k F.sto F.hlt)
theorem Nx.vis (x : Nx c A ns env fe st H s st₁ H₁ s₁) : (vis s.heap H).Le (Mine.vis s₁.heap H₁) := ⟨by
  rintro b cc d ⟨nb, o, e, rr⟩
  obtain ⟨_, o₂, p2, rr₂⟩ := (x.kv.vis (H := H) fun _ z => z).r b cc d ⟨nb, o, e, rr⟩
  refine ⟨fun z => ?_, o₂, p2, rr₂⟩
  rcases x.hid b z with z | z
  · exact nb z
  · (rw [e] at z; cases z), x.mx⟩
end

/-- how the caller sees what has come back -/
noncomputable def retH (fe : FE) (n0 : Nat) (H' : Hd) : Hd := ⟨fun b => fe.H.p b ∨ ∃ n, n0 ≤ n ∧ H'.m n = some b, H'.m, fe.H.o⟩
/-- what comes back -/
structure Rt (c : Cx) (A : Around) (ns : List Str) (env : Env) (fe : FE) (st : Fs) (s : Shared) (σ' : Store) (w : Value) (v : AV) (s' : Shared) : Prop where
  rest : ∃ h' tk, s' = { s with heap := h', toks := tk }
  lv : ∀ b o, s.heap.get? b = some o → ∃ o', s'.heap.get? b = some o'
  nf : Nf s.heap s'.heap
  back : ∃ st' H', st'.σ = σ' ∧ st'.n0 = st.n0 ∧ st'.lo = st.lo ∧ Fm c (FrA A) ns env st' fe H' s'.heap ∧ Rep (vis s'.heap (retH fe st.n0 H')) w v

noncomputable def PostS (c : Cx) (q : Bool) (A : Around) (ns : List Str) (env : Env) (fe : FE) (st : Fs) (H : Hd) (fr : FR) (s : Shared) (Q : Flow → Shared → Prop) (E : Value → Shared → Prop) : Prop :=
  match fr with
  | .next st' => ∀ H' s', Nx c A ns env fe st H s st' H' s' → Q .next s'
  | .brk st' => ∀ H' s', Nx c A ns env fe st H s st' H' s' → Q .brk s'
  | .cont st' => ∀ H' s', Nx c A ns env fe st H s st' H' s' → Q .cont s'
  | .ret v σ' => ∀ w s', Rt c A ns env fe st s σ' w v s' → Q (.ret w) s'
  | .exc x st' => q = true ∧ ∀ H' sr e s', Nx c A ns env fe st H s st' H' sr → Xp A sr s' e x → E e s'
  | .stuck => False

section
variable {c : Cx} {q : Bool} {A : Around} {ns : List Str} {env : Env} {fe : FE} {st st₁ : Fs} {H H₁ : Hd} {s s₁ : Shared} {fr : FR} {Q : Flow → Shared → Prop} {E : Value → Shared → Prop}
theorem Rt.nx {s' : Shared} {σ' : Store} {w : Value} {v : AV} (y : Rt c A ns env fe st₁ s₁ σ' w v s') (x : Nx c A ns env fe st H s st₁ H₁ s₁) : Rt c A ns env fe st s σ' w v s' where
  rest := by
    obtain ⟨h, t, rfl⟩ := x.rest
    obtain ⟨h', t', rfl⟩ := y.rest
    exact ⟨h', t', rfl⟩
  lv := fun b o e => let ⟨o', e'⟩ := x.lv b o e; y.lv b o' e'
  nf := x.nf.trans y.nf
  back := by
    obtain ⟨st', H', h1, h2, h3, h4, h5⟩ := y.back
    exact ⟨st', H', h1, h2.trans x.n0, h3.trans x.lo, h4, by rw [← x.n0]; exact h5⟩
theorem PostS.nx (P : PostS c q A ns env fe st H fr s Q E) (x : Nx c A ns env fe st H s st₁ H₁ s₁) : PostS c q A ns env fe st₁ H₁ fr s₁ Q E := by
  cases fr with
  | next st' => exact fun H' s' y => P H' s' (x.trans y)
  | brk st' => exact fun H' s' y => P H' s' (x.trans y)
  | cont st' => exact fun H' s' y => P H' s' (x.trans y)
  | ret v σ => exact fun w s' y => P w s' (y.nx x)
  | exc x' st' => exact ⟨P.1, fun H' sr e s' y => P.2 H' sr e s' (x.trans y)⟩
  | stuck => exact P.elim
/-- a value comes back -/
theorem Fm.rt {w : Value} {v : AV} (F : Fm c (FrA A) ns env st fe H s.heap) (r : Rep (vis s.heap H) w v) : Rt c A ns env fe st s st.σ w v s :=
  ⟨⟨_, _, rfl⟩, fun b o e => ⟨o, e⟩, fun b o e n => ⟨o, e, n⟩, st, H, rfl, rfl, rfl, F, Rep.mono (vis_hide (H := retH fe st.n0 H) (H' := H) (fun b z => by
    rcases z with z | ⟨n, _, e⟩
    · exact F.hle b z
    · exact F.sto.hidden e) fun _ _ e => e) r⟩
/-- the result of an expression in a statement -/
theorem PostS.resK {r : ER} {f : AV → Fs → FR} {t : Sem Value} {Q' : Value → Shared → Prop} (F : Fm c (FrA A) ns env st fe H s.heap) (hlen : st.ρ.length = ns.length) (X : Ev c q A st.lo st.σ H t r s) (P : PostS c q A ns env fe st H (resS r st f) s Q E)
    (h : ∀ v σ₁, r = .ok (.av v) σ₁ → ∀ w H₁ s₁, Nx c A ns env fe st H s (st.at σ₁) H₁ s₁ → Rep (vis s₁.heap H₁) w v → PostS c q A ns env fe (st.at σ₁) H₁ (f v (st.at σ₁)) s₁ Q E → Q' w s₁) : wpAny c.M A t Q' E s := by
  cases r with
  | stuck => exact P.elim
  | exc x σ₁ => exact X _ _ ⟨P.1, fun e H' sr s' x Y => P.2 H' sr e s' (.of_ss F hlen x) Y⟩
  | ok v σ₁ =>
    cases v with
    | own i => exact P.elim
    | av v => exact X _ _ fun w H₁ s₁ x r => h v σ₁ rfl w H₁ s₁ (.of_ss F hlen x) r (PostS.nx (fr := f v (st.at σ₁)) P (.of_ss F hlen x))
end

/-- a statement does what is told -/
noncomputable def StOk (c : Cx) (q : Bool) (k : Nat) (ns : List Str) (env : Env) (st : Fs) (t : Sem Flow) (fr : FR) : Prop :=
  ∀ A s fe H, Rm c q (k + 1) A s.heap → (∃ outer, A.frames = some (env :: outer)) → Fm c (FrA A) ns env st fe H s.heap → st.ρ.length = ns.length → ∀ Q E, PostS c q A ns env fe st H fr s Q E → wpAny c.M A t Q E s

theorem nameAt_of {ks : List (Str × NameKind)} {ns : List Str} {i : Nat} {x : Str} {env : Env} (hks : env.scope.names = ks) (h : nameAt ks ns i x = true) :
    ns[i]? = some x ∧ (env.kindOf x = some .local ∨ env.kindOf x = some .cell) ∧ OneName ns i x := by
  simp only [nameAt, Bool.and_eq_true, Bool.or_eq_true, beq_iff_eq, List.all_eq_true, List.mem_range, Bool.not_eq_true', beq_eq_false_iff_ne] at h
  obtain ⟨⟨h1, h2⟩, h3⟩ := h
  refine ⟨h1, ?_, fun j hj => ?_⟩
  · show env.scope.names.lookup x = _ ∨ env.scope.names.lookup x = _
    rw [hks]; exact h2
  · have hlt : j < ns.length := by
      rcases Nat.lt_or_ge j ns.length with h | h
      · exact h
      · rw [List.getElem?_eq_none h] at hj; cases hj
    exact (h3 j hlt).resolve_right fun n => n hj

theorem swaps_no {e : PE} {frees : List Str} {fname : Nat → Str} {ks : List (Str × NameKind)} {ns : List Str} {ex : Expr} (h : encE frees fname ks ns e ex = true) (hc : isComp e = false) (t : Option Expr) (l : Nat) (env : Env) : swapsWith ex t l env = pure false := by
  cases ex <;> first | rfl | (cases e <;> first | exact (Bool.false_ne_true h).elim | exact (Bool.false_ne_true hc.symm).elim)

section
variable {c : Cx} {A : Around} {ns : List Str} {env : Env} {fe : FE} {st st₁ : Fs} {H H₁ : Hd} {s s₁ s₂ : Shared}

theorem nx_store {i : Nat} {x : Str} {v : Value} {av : AV} {Q : Unit → Shared → Prop} {E : Value → Shared → Prop} (N : Nx c A ns env fe st H s st₁ H₁ s₁) (hx : ns[i]? = some x) (hnd : OneName ns i x)
    (hk : env.kindOf x = some .local ∨ env.kindOf x = some .cell) (r : Rep (vis s₁.heap H₁) v av) (h : ∀ s', Nx c A ns env fe st H s (st₁.set i (.val av)) H₁ s' → Nx c A ns env fe st₁ H₁ s₁ (st₁.set i (.val av)) H₁ s' → Q () s') : wpAny c.M A (storeName env x v) Q E s₁ := by
  refine wp_store (t := .val av) N.fm hx hnd hk r fun h' tk F' kv nf _ _ => ?_
  have N₁ : Nx c A ns env fe st₁ H₁ s₁ (st₁.set i (.val av)) H₁ { s₁ with heap := h', toks := tk } := ⟨⟨_, _, rfl⟩, fun b o e => by
    by_cases hb : H₁.p b
    · exact F'.hlt b hb
    · obtain ⟨sl, q⟩ := (kv b o hb e).2; exact ⟨_, q⟩, fun _ z => .inl z, kv, nf, fun _ _ e => e, F', by simpa using N.len, rfl, rfl⟩
  exact h _ (N.trans N₁) N₁

theorem nx_own {i : Nat} {x : Str} {xs : List AV} {vs : List Value} {a : Addr} {Q : Unit → Shared → Prop} {E : Value → Shared → Prop} (N : Nx c A ns env fe st H s st₁ H₁ s₁) (k : Kp A s₁ s₂) (hx : ns[i]? = some x) (hnd : OneName ns i x)
    (hk : env.kindOf x = some .local ∨ env.kindOf x = some .cell) (hz : xs.length ≤ 1048576) (hnew : s₁.heap.get? a = none) (hl : IsL s₂.heap a vs) (r : RepL (vis s₁.heap H₁) vs xs)
    (h : ∀ H' s', Nx c A ns env fe st H s (st₁.set i (.own xs)) H' s' → Q () s') : wpAny c.M A (storeName env x (.ref a)) Q E s₂ := by
  have F₁ := N.fm.putO (i := i) k.kh hnew hl
  have hN : ∀ b, (H₁.putO i a).p b → H₁.p b ∨ s₁.heap.get? b = none := fun b z => z.imp id fun (z : b = a) => z ▸ hnew
  have N₁ : Nx c A ns env fe st₁ H₁ s₁ { st₁ with ρ := st₁.ρ.set i none } (H₁.putO i a) s₂ := ⟨let ⟨h, t, e, _⟩ := k; ⟨h, t, e⟩, fun b o e => let ⟨_, q⟩ := (k.kh b o e).2; ⟨_, q⟩, hN, k.kh.kv, k.kh.nf, fun _ _ e => e, F₁, by simpa using N.len, rfl, rfl⟩
  refine wp_store (t := .own xs) F₁ hx hnd hk ⟨hz, a, vs, rfl, if_pos rfl, hl, RepL.mono (vis_new k.kh hN fun _ _ e => e) r⟩ fun h' tk F' kv nf _ _ => ?_
  have e : ({ st₁ with ρ := st₁.ρ.set i none } : Fs).set i (.own xs) = st₁.set i (.own xs) := by simp [Fs.set]
  have F'' : Fm c (FrA A) ns env (st₁.set i (.own xs)) fe (H₁.putO i a) h' := by rw [← e]; exact F'
  refine h _ _ ((N.trans N₁).trans ⟨⟨_, _, rfl⟩, fun b o e => ?_, fun _ z => .inl z, kv, nf, fun _ _ e => e, F'', by simpa using N.len, rfl, rfl⟩)
  by_cases hb : (H₁.putO i a).p b
  · exact F''.hlt b hb
  · obtain ⟨sl, q⟩ := (kv b o hb e).2; exact ⟨_, q⟩

/-- an own list turned -/
theorem nx_turn {i : Nat} {a : Addr} {vs' : List Value} {xs xs' : List AV} {h' : Heap} {tk : Nat} (N : Nx c A ns env fe st H s st₁ H₁ s₁) (hr : st₁.ρ[i]? = some (some (.own xs))) (ho : H₁.o i = some a) (hl : IsL h' a vs') (hz : xs'.length ≤ 1048576) (r : RepL (vis s₁.heap H₁) vs' xs') (hs : Heap.SameBut a s₁.heap h') :
    Nx c A ns env fe st H s (st₁.set i (.own xs')) H₁ { s₁ with heap := h', toks := tk } := by
  have F₂ := fm_own N.fm ho ⟨xs, hr⟩ hs hl hz r
  obtain ⟨hH, _⟩ := N.fm.own i a ho
  refine N.trans ⟨⟨_, _, rfl⟩, fun b o e => ?_, fun _ z => .inl z, Kv.of_sameBut hs hH, fun b o e nf => ?_, fun _ _ e => e, F₂, by simpa using N.len, rfl, rfl⟩
  · by_cases hb : b = a
    · obtain ⟨o', _, e', _⟩ := hl; exact ⟨o', hb ▸ e'⟩
    · exact ⟨o, (hs.2 b hb).trans e⟩
  · by_cases hb : b = a
    · obtain ⟨o', _, e', _, d', _⟩ := hl; exact ⟨o', hb ▸ e', fun vs z => by rw [d'] at z; cases z⟩
    · exact ⟨o, (hs.2 b hb).trans e, nf⟩
end
end Mine
end
section
open PySem PySem.W PyProof.Rows PySem.Calls
namespace Mine
set_option maxRecDepth 100000
set_option linter.unusedVariables false
section
variable {prog : Program} {w : World} {A : Around} {E : Value → Shared → Prop} {s : Shared}
end

noncomputable def rangeL (a b s : Int) : List AV := (List.range (Builtin.Range.rangeSize a b s).toNat).map fun (i : Nat) => .int (a + i * s)
section
variable {prog : Program} {w : World} {A : Around} {E : Value → Shared → Prop} {s : Shared}
end
section
variable {c : Cx} {A : Around} {s : Shared} {H : Hd} {lo : Nat} {σ : Store} {E : Value → Shared → Prop}
end

section
variable {prog : Program} {w : World} {A : Around} {E : Value → Shared → Prop} {s : Shared}
end
section
variable {c : Cx} {k : Nat} {A : Around} {s : Shared} {H : Hd} {lo : Nat} {σ : Store} {vs : List Value}
end
end Mine
end
section
open PySem PySem.W PyProof.Rows PySem.Calls
namespace Mine
set_option maxRecDepth 100000
/- repetition -/
theorem ints_are {R : Vw} : ∀ {xs : List AV} {vs : List Value} {ns : List Int}, ints? xs = some ns → RepL R vs xs → IntsAre vs ns
  | [], [], ns, h, _ => by simp only [ints?, Option.some.injEq] at h; subst h; exact .nil
  | [], _ :: _, _, _, r => by simp [RepL] at r
  | _ :: _, [], _, _, r => by simp [RepL] at r
  | x :: xs, v :: vs, ns, h, r => by
    simp only [RepL] at r
    cases x <;> simp only [ints?, reduceCtorEq] at h
    rename_i i
    simp only [Option.map_eq_some_iff] at h
    obtain ⟨ms, h1, rfl⟩ := h
    obtain ⟨t, e⟩ := r.1
    subst e
    exact .cons i t (ints_are h1 r.2)
section
variable {c : Cx} {q : Bool} {k : Nat} {A : Around} {s : Shared} {H : Hd}
/- list(x) -/
end
end Mine
end
section
open PySem PySem.W PyProof.Rows PySem.Calls
namespace Mine
set_option maxRecDepth 100000
set_option linter.unusedVariables false
section
variable {c : Cx} {k : Nat} {A : Around} {s : Shared} {H : Hd}
/- what an iterator tells -/
/- a class's attribute -/
end
end Mine
end
section
open PySem PySem.W PyProof.Rows PySem.Calls
namespace Mine
set_option maxRecDepth 100000
set_option linter.unusedVariables false
/- isinstance, told no -/
section
variable {prog : Program} {w : World} {A : Around} {E : Value → Shared → Prop} {s : Shared} {v : Value} {T C : String} {P : Heap → Prop}
end
/- what is gone over -/
section
variable {c : Cx} {A : Around}
end
/- a class's attribute that is not there -/
section
variable {prog : Program} {w : World} {A : Around} {E : Value → Shared → Prop} {s : Shared} {T : String} {name : Str}
/-- the error as it is made -/
structure AeAt (h h' : Heap) (e : Addr) : Prop where
  keeps : ∀ b ob, h.get? b = some ob → h'.get? b = some ob
  new : h.get? e = none
  there : ∃ t, h'.get? e = some { cls := .type "AttributeError", data := .fields #[t, .none, .none, .none, .bool false, .none, unsetMember, unsetMember] }
/-- a class's name -/
theorem cls_name {T q : String} (ht : kitMeta T = true) (hs : Manifest.isStub T = false) {Q : Value → Shared → Prop}
    (e : findCls [] (.type T) (.type "type") "__name__" = some (.get (.builtin "getset_descriptor.__get__") (.builtin "type.__name__") (.type T) (.type "type"))) (hq : ktynFast T = q) (hz : (Str.ofString q).length ≤ sizeLine)
    (h : ∀ tk u, Q (.str (Str.ofString q) tk) { s with toks := u }) : wpAny (model prog w) A (getAttr (.type T) "__name__" true) Q E s := by
  have X : Frag.In [] s.heap := fun a o q => by cases q
  have hstub : opaqueClassAbove (.type T) = pure none := by unfold opaqueClassAbove; dsimp only; rw [hs]; rfl
  have L0 : Looks (model prog w) s.heap (typeOf (.type T)) (.type "type") := Looks.of_pure (kitMeta_of ht)
  have LO : Looks (model prog w) s.heap (opaqueClassAbove (.type T)) none := Looks.of_pure hstub
  have hg : findIn [] (.type "type") "__getattribute__" = some (some (.builtin "type.__getattribute__")) := type_tga
  refine cls_open X LO L0 hg (looks_hook X (r := none) (by rfl)) (by show subIn [] _ _ = _; rfl) e ?_
  show wpAny _ _ (do ret (← holding [Value.builtin "type.__name__"] (call (.builtin "getset_descriptor.__get__") [.builtin "type.__name__", .type T, .type "type"]))) _ _ _
  refine wpAny_bind (wpAny_holding (wpAny_call (ktyn_get (s := { s with toks := s.toks + 1 }) (kitMeta_of ht) hq hz ?_)))
  exact wpAny_pure (handed_on rfl (h _ _))
theorem nf_none : findCls [] (.type "NoneType") (.type "type") (Str.ofString "__name__") = some (.get (.builtin "getset_descriptor.__get__") (.builtin "type.__name__") (.type "NoneType") (.type "type")) := by kernel_rfl
theorem nk_none : kitMeta "NoneType" = true := by decide +kernel
theorem ns_none : Manifest.isStub "NoneType" = false := by decide +kernel
theorem nq_none : ktynFast "NoneType" = "NoneType" := by decide +kernel
theorem nz_none : (Str.ofString "NoneType").length ≤ sizeLine := by decide +kernel
theorem nm_none {Q : Value → Shared → Prop} (h : ∀ tk u, Q (.str (Str.ofString "NoneType") tk) { s with toks := u }) : wpAny (model prog w) A (getAttr (.type "NoneType") (Str.ofString "__name__") true) Q E s :=
  cls_name (T := "NoneType") (q := "NoneType") (Q := Q) (E := E) nk_none ns_none nf_none nq_none nz_none h
end
section
variable {c : Cx} {A : Around} {s : Shared} {H : Hd}
end
end Mine
end
section
open PySem PySem.W PyProof.Rows
namespace Mine
set_option maxRecDepth 100000
/- hasattr that is answered no -/
theorem no_int_gi : typeLookup (.type "int") "__getitem__" = pure none := by rw [typeLookup_type, builtinLookup_eq_fast]; kernel_rfl
theorem no_none_gi : typeLookup (.type "NoneType") "__getitem__" = pure none := by rw [typeLookup_type, builtinLookup_eq_fast]; kernel_rfl
theorem no_set_gi : typeLookup (.type "set") "__getitem__" = pure none := by rw [typeLookup_type, builtinLookup_eq_fast]; kernel_rfl
theorem no_set_ga : typeLookup (.type "set") "__getattr__" = pure none := by rw [typeLookup_type, builtinLookup_eq_fast]; kernel_rfl
theorem sub_int_module : isSubtype (.type "int") (.type "module") = pure false := by rw [isSubtype_type]; kernel_rfl
theorem sub_none_module : isSubtype (.type "NoneType") (.type "module") = pure false := by rw [isSubtype_type]; kernel_rfl
theorem sub_set_module : isSubtype (.type "set") (.type "module") = pure false := by rw [isSubtype_type]; kernel_rfl
section
variable {prog : Program} {w : World} {A : Around} {hp : Heap} {g : Array GenState} {d : Drawn} {tk : Nat} {os : OsState}
set_option maxHeartbeats 1000000 in
theorem has_no {v : Value} {T ga : String} {E : Value → Shared → Prop} {t : Tok} {Q : Value → Shared → Prop} (hv : (v == Value.builtin "__main__.__loader__#opaque") = false) (hh : A.handled = none) (f4 : typeLookup (.type T) "__getitem__" = pure none) (f5 : isSubtype (.type T) (.type "module") = pure false) (hT : (⟨hp, g, d, tk, os⟩ : Shared).TypeIs v T) (f2 : typeLookup (.type T) "__getattribute__" = pure (some (.builtin ga))) (f3 : bindSpecial (.builtin ga) v = pure (.builtin ga, [v])) (f7 : typeLookup (.type T) "__getattr__" = pure none)
    (hc : ∀ (R : Result → Shared → Prop), (∀ (e : Addr) h' tk', Heap.NewExcOf hp h' e "AttributeError" → R (.error (.ref e)) ⟨h', g, d, tk', os⟩) → ∀ A' : Around, A'.handled = none → codeAny (model prog w) A' (.call (.builtin ga) ⟨[v, .str "__getitem__" t], []⟩) R ⟨hp, g, d, tk, os⟩)
    (h : ∀ h' tk, (∀ b o, hp.get? b = some o → h'.get? b = some o) → Q (.bool false) ⟨h', g, d, tk, os⟩) : wpAny (model prog w) A (call (.builtin "hasattr") [v, .str "__getitem__" t]) Q E ⟨hp, g, d, tk, os⟩ := by
  have f1 := sub_AttributeError
  refine call_function_tree kind_hasattr plain_hasattr entry_hasattr (args_hasattr _ _) ?_
  unfold Builtin.«hasattr»
  unfold getAttrBy?
  repeat (any_goals (first | assumption | wp_step))
  split
  · repeat (any_goals (first | assumption | wp_step))
    refine hc _ (fun e h' tk' k => ?_) _ hh
    obtain ⟨oe, vs, he, hcl, _⟩ := k.there
    have hTe : (⟨h', g, d, tk', os⟩ : Shared).TypeIs (.ref e) "AttributeError" := ⟨oe, he, hcl⟩
    show wpAny _ _ (getattributeRaised _ _ _ _ _ _ _) _ _ _
    unfold getattributeRaised
    repeat (any_goals (first | assumption | wp_step))
    exact h _ _ k.keeps
  · repeat (any_goals (first | assumption | wp_step))
    refine hc _ (fun e h' tk' k => ?_) _ hh
    obtain ⟨oe, vs, he, hcl, _⟩ := k.there
    have hTe : (⟨h', g, d, tk', os⟩ : Shared).TypeIs (.ref e) "AttributeError" := ⟨oe, he, hcl⟩
    show wpAny _ _ (getattributeRaised _ _ _ _ _ _ _) _ _ _
    unfold getattributeRaised
    repeat (any_goals (first | assumption | wp_step))
    exact h _ _ k.keeps
theorem gi_fits : (Str.ofString "__getitem__").length + 100 ≤ sizeLine := by decide +kernel
set_option maxHeartbeats 1000000 in
theorem meets_ga_set (a : Addr) (es : Array (Int × Value)) (ep : Nat) (tb : SetTable) (sl : Array (Option Value)) (u : Tok) :
    Meets (Builtin.«object.__getattribute__» ⟨[.ref a, .str "__getitem__" u], []⟩) (fun A R s => s.heap.get? a = some { cls := .type "set", dict := none, data := .set es ep tb, slots := sl } ∧ raisesAttr (.ref a) "__getitem__" A R s) :=
  Meets.of_wp fun prog w A R s hs => by
    obtain ⟨hp, g, d, tk, os⟩ := s
    obtain ⟨hx, hs⟩ := hs
    have hT : (⟨hp, g, d, tk, os⟩ : Shared).TypeIs (.ref a) "set" := ⟨_, hx, rfl⟩
    have hmiss := no_set_gi
    unfold Builtin.«object.__getattribute__»
    repeat (any_goals (first | assumption | wp_step))
    exact wpAny_raiseAttrError hs.1 hs.2 (attrMsg_fits (by decide +kernel) gi_fits)
theorem has_int {n : Int} {u t : Tok} {E : Value → Shared → Prop} {Q : Value → Shared → Prop} (hh : A.handled = none)
    (h : ∀ h' tk, (∀ b o, hp.get? b = some o → h'.get? b = some o) → Q (.bool false) ⟨h', g, d, tk, os⟩) : wpAny (model prog w) A (call (.builtin "hasattr") [.int n u, .str "__getitem__" t]) Q E ⟨hp, g, d, tk, os⟩ :=
  has_no (T := "int") rfl hh no_int_gi sub_int_module rfl F.slot_int_getattribute.lookup (F.slot_int_getattribute.bind _) am_int_getattr_none
    (fun _ k _ hA' => codeAny_call_builtin F.slot_int_getattribute.plain am_entry_int_getattribute (F.slot_int_getattribute.check _ _ _ _ _ _ _ _ rfl (F.args_int_getattribute_2 _ _) (meets_getattribute_miss_int n u _ t no_int_gi gi_fits _ _ _ _ _ ⟨hA', fun h' tk e x => k e h' tk x.of⟩))) h
theorem has_none {t : Tok} {E : Value → Shared → Prop} {Q : Value → Shared → Prop} (hh : A.handled = none)
    (h : ∀ h' tk, (∀ b o, hp.get? b = some o → h'.get? b = some o) → Q (.bool false) ⟨h', g, d, tk, os⟩) : wpAny (model prog w) A (call (.builtin "hasattr") [.none, .str "__getitem__" t]) Q E ⟨hp, g, d, tk, os⟩ :=
  has_no (T := "NoneType") rfl hh no_none_gi sub_none_module rfl F.slot_NoneType_getattribute.lookup (F.slot_NoneType_getattribute.bind _) am_none_getattr_none
    (fun _ k _ hA' => codeAny_call_builtin F.slot_NoneType_getattribute.plain F.entry_object_getattribute (F.slot_NoneType_getattribute.check _ _ _ _ _ _ _ _ rfl (F.args_object_getattribute_2 _ _) (meets_getattribute_miss_none _ t no_none_gi gi_fits _ _ _ _ _ ⟨hA', fun h' tk e x => k e h' tk x.of⟩))) h
theorem has_set {a : Addr} {es : Array (Int × Value)} {ep : Nat} {tb : SetTable} {sl : Array (Option Value)} {t : Tok} {E : Value → Shared → Prop} {Q : Value → Shared → Prop} (hh : A.handled = none) (ho : hp.get? a = some { cls := .type "set", dict := none, data := .set es ep tb, slots := sl })
    (h : ∀ h' tk, (∀ b o, hp.get? b = some o → h'.get? b = some o) → Q (.bool false) ⟨h', g, d, tk, os⟩) : wpAny (model prog w) A (call (.builtin "hasattr") [.ref a, .str "__getitem__" t]) Q E ⟨hp, g, d, tk, os⟩ :=
  has_no (T := "set") rfl hh no_set_gi sub_set_module ⟨_, ho, rfl⟩ F.slot_set_getattribute.lookup (F.slot_set_getattribute.bind _) no_set_ga
    (fun _ k _ hA' => codeAny_call_builtin F.slot_set_getattribute.plain F.entry_set_ga (F.slot_set_getattribute.check _ _ _ _ _ _ _ _ ⟨_, ho, rfl⟩ (F.args_set_getattribute_2 _ _) (meets_ga_set a es ep tb sl t _ _ _ _ _ ⟨ho, hA', fun h' tk e x => k e h' tk x.of⟩))) h
end
/- the words of the error -/
noncomputable def fmtC : Str := Str.ofString "'%s' object can't be concatenated"
noncomputable def saidC (y : Str) : Str := Str.ofString "'" ++ y ++ Str.ofString "' object can't be concatenated"
section
variable {c : Cx} {A : Around} {s : Shared}
theorem mod_fmtC {t u : Tok} {y : Str} {Q E : Value → Shared → Prop} (hy : y.length ≤ 1000000) (h : ∀ t' k, Q (.str (saidC y) t') { s with toks := k }) : wpAny c.M A (binaryOp .Mod (.str fmtC t) (.str y u)) Q E s := by
  unfold fmtC
  refine' KPc.mod_str ?kpcF hy ?kpcm ?_
  case kpcF => kpc_eq
  case kpcm => k_dflt kpc_run_s
  intro t' k
  exact h t' k
end
theorem RepL.take {R : Vw} : ∀ {xs : List AV} {vs : List Value} (n : Nat), RepL R vs xs → RepL R (vs.take n) (xs.take n)
  | _, _, 0, _ => by simp [RepL]
  | [], [], _ + 1, _ => by simp [RepL]
  | [], _ :: _, _, r => by simp [RepL] at r
  | _ :: _, [], _, r => by simp [RepL] at r
  | x :: xs, v :: vs, n + 1, r => by
    simp only [RepL] at r
    simp only [List.take_succ_cons, RepL]
    exact ⟨r.1, RepL.take n r.2⟩
/- parts of tuples, texts, bytes -/
noncomputable def cutN (n : Nat) (lo hi : Option Int) : Option (Nat × Nat) :=
  match lo.elim (some 0) (fun i => if 0 ≤ i ∧ i ≤ n then some i.toNat else none), hi.elim (some n) (fun i => if 0 ≤ i ∧ i ≤ n then some i.toNat else none) with
  | some a, some b => if a ≤ b then some (a, b) else none
  | _, _ => none
theorem cutN_spec {n : Nat} {lo hi : Option Int} {a b : Nat} (h : cutN n lo hi = some (a, b)) : a ≤ b ∧ b ≤ n ∧ (lo = none ∧ a = 0 ∨ lo = some (a : Int)) ∧ (hi = none ∧ b = n ∨ hi = some (b : Int)) := by
  unfold cutN at h
  have P : ∀ (d : Nat) (o : Option Int) (r : Nat), o.elim (some d) (fun i => if 0 ≤ i ∧ i ≤ (n : Int) then some i.toNat else none) = some r → (o = none ∧ r = d ∨ o = some (r : Int)) ∧ (d ≤ n → r ≤ n) := by
    intro d o r h
    cases o with
    | none => cases h; exact ⟨.inl ⟨rfl, rfl⟩, id⟩
    | some i =>
      simp only [Option.elim] at h
      split at h
      · rename_i hi
        cases h
        exact ⟨.inr (by rw [Int.toNat_of_nonneg hi.1]), fun _ => by omega⟩
      · cases h
  split at h
  · rename_i a' b' h1 h2
    split at h
    · cases h
      obtain ⟨p1, _⟩ := P _ _ _ h1
      obtain ⟨p2, p3⟩ := P _ _ _ h2
      exact ⟨by assumption, p3 (Nat.le_refl _), p1, p2⟩
    · cases h
  · cases h
section
variable {prog : Program} {w : World} {A : Around} {E : Value → Shared → Prop} {s : Shared}
theorem slicePart_of {v : Value} {p : Option Int} {Q : Option Int → Shared → Prop} (hp : IsPart v p) (h : Q p s) : wpAny (model prog w) A (Builtin.Slice.slicePartIndex v) Q E s := by
  cases hp with
  | none => exact slicePart_none h
  | int i u => exact slicePart_int h
theorem adjust_cut {n a b : Nat} {lo hi : Option Int} (hab : a ≤ b) (hb : b ≤ n) (h1 : lo = none ∧ a = 0 ∨ lo = some (a : Int)) (h2 : hi = none ∧ b = n ∨ hi = some (b : Int)) : Builtin.Slice.sliceAdjust lo hi 1 (n : Int) = ((a : Int), (b : Int)) := by
  have k1 : ¬ ((1 : Int) < 0) := by omega
  have k2 : ¬ ((a : Int) < 0) := by omega
  have k3 : ¬ ((b : Int) < 0) := by omega
  have m1 : min (a : Int) n = a := by omega
  have m2 : min (b : Int) n = b := by omega
  unfold Builtin.Slice.sliceAdjust
  rcases h1 with ⟨rfl, rfl⟩ | rfl <;> rcases h2 with ⟨rfl, rfl⟩ | rfl <;> simp only [k1, k2, k3, m1, m2, if_false] <;> rfl
theorem places_cut (a b : Nat) (hab : a ≤ b) : Builtin.Slice.slicePlaces (a : Int) (b : Int) 1 = b - a := by
  unfold Builtin.Slice.slicePlaces
  have h1 : (1 : Int) > 0 := by omega
  simp only [h1, if_true, Int.ediv_one]
  split <;> omega
theorem pick_cut (xs : Array Value) (a b : Nat) : ((List.range (b - a)).filterMap fun (k : Nat) => xs[((a : Int) + (k : Int) * 1).toNat]?).toArray = ((xs.toList.drop a).take (b - a)).toArray := by
  have e : (fun (k : Nat) => xs[((a : Int) + (k : Int) * 1).toNat]?) = fun k => xs[a + k]? := by
    funext k
    have : ((a : Int) + (k : Int) * 1).toNat = a + k := by omega
    rw [this]
  rw [e]
  have := pick_run xs a (b - a)
  rw [List.filterMap_map] at this
  have e2 : ((fun x => xs[x]?) ∘ fun x => a + x) = fun k => xs[a + k]? := rfl
  rw [e2] at this
  rw [this]
theorem tuple_cut {t sl : Addr} {items : Array Value} {a b : Nat} {vl vu : Value} {lo hi : Option Int} {Q : Value → Shared → Prop} (ht : IsTup s.heap t items) (hs : s.heap.IsSliceOf sl vl vu .none) (hl : IsPart vl lo) (hu : IsPart vu hi)
    (hab : a ≤ b) (hb : b ≤ items.size) (h1 : lo = none ∧ a = 0 ∨ lo = some (a : Int)) (h2 : hi = none ∧ b = items.size ∨ hi = some (b : Int))
    (hw : a = 0 → b = items.size → Q (.ref t) s) (h : Q (.ref s.heap.objs.size) { s with heap := s.heap.push { cls := .type "tuple", data := .seq ((items.toList.drop a).take (b - a)).toArray } })
    (hsz : items.size ≤ sizeLine) : wpAny (model prog w) A (getItem (.ref t) (.ref sl)) Q E s := by
  have hdrop : sizeOk (.seq ((items.toList.drop a).take (b - a)).toArray) := by
    show ((items.toList.drop a).take (b - a)).toArray.size ≤ sizeLine
    rw [List.size_toArray, List.length_take, List.length_drop, Array.length_toList]
    omega
  obtain ⟨os, hos, hcs, hds⟩ := id hs
  have hTs : s.TypeIs (.ref sl) "slice" := ⟨os, hos, hcs⟩
  unfold getItem
  try with_reducible refine wpAny_holding ?_
  first | refine wpAny_bind (wpAny_pure ?_) | skip
  refine wpAny_bind (wpAny_sequenceKey ht.typeIs (by decide) ?_)
  refine wpAny_bind (wpAny_callSpecial?_slot (name := Str.ofString "__getitem__") ht.typeIs slot_tuple_getitem
    (wpAny_call_entry slot_tuple_getitem ht.typeIs entry_tuple_getitem ?_ (args_tuple_getitem _ _)))
  show wpAny _ _ (Builtin.Tuple.tupleItemsOf (.ref t) >>= _) _ _ s
  refine wpAny_bind (tupleItemsOf_ ht ?_)
  refine wpAny_bind (wpAny_typeOf hTs ?_)
  rw [if_pos (by decide)]
  refine wpAny_bind ?_
  unfold Builtin.Slice.sliceApplied Builtin.Slice.sliceFields
  refine wpAny_bind (wpAny_bind (wpAny_field hos hds (x := vl) rfl (wpAny_bind (wpAny_field hos hds (x := vu) rfl (wpAny_bind (wpAny_field hos hds (x := .none) rfl (wpAny_pure ?_)))))))
  refine wpAny_bind (slicePart_none ?_)
  show wpAny _ _ (if ((1 : Int) == 0) = true then _ else _) _ _ s
  rw [if_neg (by decide)]
  refine wpAny_bind (slicePart_of hl (wpAny_bind (slicePart_of hu (wpAny_bind (wpAny_pure ?_)))))
  show wpAny _ _ (match Builtin.Slice.sliceAdjust lo hi 1 (items.size : Int) with | (lo, hi) => pure (lo, (1 : Int), Builtin.Slice.slicePlaces lo hi 1)) _ _ s
  rw [adjust_cut hab hb h1 h2]
  show wpAny _ _ (pure ((a : Int), (1 : Int), Builtin.Slice.slicePlaces (a : Int) (b : Int) 1)) _ _ s
  rw [places_cut a b hab]
  refine wpAny_pure ?_
  show wpAny _ _ (if ((a : Int) == 0 && (1 : Int) == 1 && (b - a) == items.size) = true then _ else _) _ _ s
  by_cases hc : ((a : Int) == 0 && (1 : Int) == 1 && (b - a) == items.size) = true
  · rw [if_pos hc]
    simp only [Bool.and_eq_true, beq_iff_eq] at hc
    have ha0 : a = 0 := by omega
    have hbn : b = items.size := by omega
    refine wpAny_bind (wpAny_bind (wpAny_typeOf ht.typeIs (wpAny_pure ?_)))
    rw [if_pos (by decide)]
    exact wpAny_bind (wpAny_rule (wpAny_pure ⟨_, rfl, wpAny_pure (hw ha0 hbn)⟩))
  · rw [if_neg hc, pick_cut items a b]
    first
      | exact wpAny_bind (m := Builtin.Tuple.tupleExact _) (wpAny_newObj_type (wpAny_pure ⟨_, rfl, wpAny_pure h⟩) hdrop)
      | exact wpAny_bind (m := Builtin.Tuple.tupleExact _) (wpAny_newObj_type (wpAny_bind (wpAny_pure (wpAny_pure ⟨_, rfl, wpAny_pure h⟩))) hdrop)
      | exact wpAny_bind (wpAny_bind (m := Builtin.Tuple.tupleExact _) (wpAny_newObj_type (wpAny_pure (wpAny_pure ⟨_, rfl, wpAny_pure h⟩)) hdrop))
      | exact wpAny_bind (wpAny_bind (m := Builtin.Tuple.tupleExact _) (wpAny_newObj_type (wpAny_pure ⟨_, rfl, wpAny_pure h⟩) hdrop))
end
section
variable {c : Cx} {q : Bool} {k : Nat} {A : Around} {s : Shared} {H : Hd}
/-- parts of what is no list -/
noncomputable def cutV (v : AV) (lo hi : Option Int) : Res := match v with
  | .tup xs => (match cutN xs.length lo hi with | some (a, b) => .ok (.tup ((xs.drop a).take (b - a))) | none => .stuck)
  | .str x => if x.length ≤ 1048576 then (match cutN x.length lo hi with | some (a, b) => .ok (.str ⟨((x.cps.toList.drop a).take (b - a)).toArray⟩) | none => .stuck) else .stuck
  | .bytes x => if x.size ≤ 1048576 then (match cutN x.size lo hi with | some (a, b) => .ok (.bytes ((x.toList.drop a).take (b - a)).toArray) | none => .stuck) else .stuck
  | _ => .stuck
theorem cut_tup {l r : Addr} {vs : List Value} {n : Nat} {sl : Array (Option Value)} {xs : List AV} {ux uy : Value} {lo hi : Option Int} {a b : Nat} (hL : Live H s.heap) (rt : Rep (vis s.heap H) (.ref l) (.tup xs)) (ho : s.heap.get? l = some { cls := .type "tuple", dict := none, data := .seq (List.toArray vs) n, slots := sl }) (rl : RepL (vis s.heap H) vs xs) (hz : xs.length ≤ 1048576)
    (hs : s.heap.IsSliceOf r ux uy .none) (h1 : IsPart ux lo) (h2 : IsPart uy hi) (hc : cutN xs.length lo hi = some (a, b)) : Tr c q A H (getItem (.ref l) (.ref r)) (.ok (.tup ((xs.drop a).take (b - a)))) s := fun Q E P => by
  obtain ⟨hab, hb, p1, p2⟩ := cutN_spec hc
  have e : (List.toArray vs).size = xs.length := by rw [List.size_toArray, rl.length]
  refine tuple_cut (items := List.toArray vs) (a := a) (b := b) ⟨_, ho, rfl, n, rfl⟩ hs h1 h2 hab (by rw [e]; exact hb) p1 (by rw [e]; exact p2) (fun h0 hn => ?_) ?_ (by rw [e]; exact line_ok hz)
  · rw [e] at hn
    refine P _ _ (Kp.refl _ _) ?_
    rw [h0, hn, List.drop_zero, Nat.sub_zero, List.take_length]
    exact rt
  · refine P _ _ (Kp.push _) (rep_fresh_tup hL ?_ ((rl.drop a).take (b - a)))
    rw [List.length_take, List.length_drop]; omega
theorem cut_bytes {x : Array UInt8} {t : Tok} {r : Addr} {ux uy : Value} {lo hi : Option Int} {a b : Nat} (hz : x.size ≤ 1048576)
    (hs : s.heap.IsSliceOf r ux uy .none) (h1 : IsPart ux lo) (h2 : IsPart uy hi) (hc : cutN x.size lo hi = some (a, b)) : Tr c q A H (getItem (.bytes x t) (.ref r)) (.ok (.bytes ((x.toList.drop a).take (b - a)).toArray)) s := fun Q E P => by
  obtain ⟨hab, hb, p1, p2⟩ := cutN_spec hc
  have e : KBy.picked x lo hi = ((x.toList.drop a).take (b - a)).toArray := by
    rw [KBc.picked_eq]
    have c1 : clipAt x.size (a : Int) = a := by rw [clipAt_nat]; omega
    have c2 : clipAt x.size (b : Int) = b := by rw [clipAt_nat]; omega
    rcases p1 with ⟨rfl, rfl⟩ | rfl <;> rcases p2 with ⟨rfl, rfl⟩ | rfl <;> simp only [Option.elim, c1, c2]
  refine getItem_meets (T := "bytes") (typeIs_bytes _ x t) (by decide) PySem.W.FB.slot_bytes_getitem PySem.W.FB.entry_bytes_getitem (PySem.W.FB.args_bytes_getitem_2 _ _) (KBc.meets_slice2 x t r h1 h2) ⟨hs, ?_, fun t' k => ?_⟩
  · exact line_ok (Nat.le_trans (KBc.size_picked_le x lo hi) hz)
  · rw [e]; exact P _ _ Kp.toks ⟨_, rfl⟩
open Builtin Builtin.Str StrLaws in
theorem part_str {v : Value} {p : Option Int} (h : IsPart v p) : ∃ o : Option (Int × Tok), v = partValue o ∧ o.map (·.1) = p := by
  cases h with
  | none => exact ⟨Option.none, rfl, rfl⟩
  | int i t => exact ⟨some (i, t), rfl, rfl⟩
open Builtin Builtin.Str StrLaws in
theorem cut_str {x : Str} {t : Tok} {r : Addr} {ux uy : Value} {lo hi : Option Int} {a b : Nat} (hz : x.length ≤ 1048576)
    (hs : s.heap.IsSliceOf r ux uy .none) (h1 : IsPart ux lo) (h2 : IsPart uy hi) (hc : cutN x.length lo hi = some (a, b)) : Tr c q A H (getItem (.str x t) (.ref r)) (.ok (.str ⟨((x.cps.toList.drop a).take (b - a)).toArray⟩)) s := fun Q E P => by
  obtain ⟨hab, hb, p1, p2⟩ := cutN_spec hc
  obtain ⟨l, rfl, hl⟩ := part_str h1
  obtain ⟨u, rfl, hu⟩ := part_str h2
  have e : slicePicked x l u none = strSliceIndices (some (a : Int)) (some (b : Int)) 1 x.length := by
    unfold slicePicked
    rw [hl, hu]
    rcases p1 with ⟨rfl, rfl⟩ | rfl <;> rcases p2 with ⟨rfl, rfl⟩ | rfl
    · show strSliceIndices none none 1 _ = _
      rw [sliceIdx_none_lo, sliceIdx_none_hi]; rfl
    · show strSliceIndices none _ 1 _ = _
      rw [sliceIdx_none_lo]; rfl
    · show strSliceIndices _ none 1 _ = _
      rw [sliceIdx_none_hi]
    · rfl
  have ez : ((slicePicked x l u none).filterMap (x.cps[·]?)) = (x.cps.toList.drop a).take (b - a) := by rw [e]; exact sliced_plain x hab hb
  refine wpAny_getItem_str_slice (l := l) (u := u) (st := none) hs rfl ?_
  unfold sliceMade
  rw [ez]
  by_cases hw : (((Option.map (·.1) (none : Option (Int × Tok))).getD 1 == 1 && (slicePicked x l u none).length == x.length) = true)
  · rw [if_pos hw]
    have hn : (slicePicked x l u none).length = x.length := by
      rw [Bool.and_eq_true] at hw; exact beq_iff_eq.mp hw.2
    rw [e, strSliceIndices_plain hab hb, List.length_map, List.length_range] at hn
    have h0 : a = 0 := by omega
    have h3 : b = x.length := by omega
    refine P _ _ (Kp.refl _ _) ?_
    have : (⟨((x.cps.toList.drop a).take (b - a)).toArray⟩ : Str) = x := by
      rw [h0, h3, List.drop_zero, Nat.sub_zero]
      have e1 : x.length = x.cps.toList.length := by simp [Str.length]
      rw [e1, List.take_length]
    rw [this]
    exact ⟨t, rfl⟩
  · rw [if_neg hw]
    refine ⟨?_, P _ _ Kp.toks ⟨_, rfl⟩⟩
    refine line_ok ?_
    show (List.toArray _).size ≤ _
    rw [List.size_toArray, List.length_take]
    omega
theorem cutV_ok {x : AV} {va : Value} {r : Addr} {ux uy : Value} {lo hi : Option Int} (hL : Live H s.heap) (ra : RepO s.heap H va x) (h1 : IsPart ux lo) (h2 : IsPart uy hi) (hs : s.heap.IsSliceOf r ux uy .none) : Tr c q A H (getItem va (.ref r)) (cutV x lo hi) s := by
  unfold cutV
  split
  · rename_i xs
    have rt : Rep (vis s.heap H) va (.tup xs) := ra
    obtain ⟨l, vs, n, sl, rfl, ho, rl, hz⟩ := rep_tup_is rt
    split
    · rename_i a b hc; exact cut_tup hL rt ho rl hz hs h1 h2 hc
    · exact Tr.stuck
  · obtain ⟨t, rfl⟩ := ra
    split
    · split
      · rename_i hz _ a b hc; exact cut_str hz hs h1 h2 hc
      · exact Tr.stuck
    · exact Tr.stuck
  · obtain ⟨t, rfl⟩ := ra
    split
    · split
      · rename_i hz _ a b hc; exact cut_bytes hz hs h1 h2 hc
      · exact Tr.stuck
    · exact Tr.stuck
  · exact Tr.stuck
end
section
variable {prog : Program} {w : World} {A : Around} {E : Value → Shared → Prop} {s : Shared}
theorem nf_int : findCls [] (.type "int") (.type "type") (Str.ofString "__name__") = some (.get (.builtin "getset_descriptor.__get__") (.builtin "type.__name__") (.type "int") (.type "type")) := by kernel_rfl
theorem nk_int : kitMeta "int" = true := by decide +kernel
theorem ns_int : Manifest.isStub "int" = false := by decide +kernel
theorem nq_int : ktynFast "int" = "int" := by decide +kernel
theorem nz_int : (Str.ofString "int").length ≤ sizeLine := by decide +kernel
theorem nm_int {Q : Value → Shared → Prop} (h : ∀ tk u, Q (.str (Str.ofString "int") tk) { s with toks := u }) : wpAny (model prog w) A (getAttr (.type "int") (Str.ofString "__name__") true) Q E s :=
  cls_name (T := "int") (q := "int") (Q := Q) (E := E) nk_int ns_int nf_int nq_int nz_int h
theorem nf_set : findCls [] (.type "set") (.type "type") (Str.ofString "__name__") = some (.get (.builtin "getset_descriptor.__get__") (.builtin "type.__name__") (.type "set") (.type "type")) := by kernel_rfl
theorem nk_set : kitMeta "set" = true := by decide +kernel
theorem ns_set : Manifest.isStub "set" = false := by decide +kernel
theorem nq_set : ktynFast "set" = "set" := by decide +kernel
theorem nz_set : (Str.ofString "set").length ≤ sizeLine := by decide +kernel
theorem nm_set {Q : Value → Shared → Prop} (h : ∀ tk u, Q (.str (Str.ofString "set") tk) { s with toks := u }) : wpAny (model prog w) A (getAttr (.type "set") (Str.ofString "__name__") true) Q E s :=
  cls_name (T := "set") (q := "set") (Q := Q) (E := E) nk_set ns_set nf_set nq_set nz_set h
theorem isi_tl : typeOf (.type "list") = pure (.type "type") := by kernel_rfl
theorem isi_tt : typeOf (.type "tuple") = pure (.type "type") := by kernel_rfl
theorem isi_ts : typeOf (.type "str") = pure (.type "type") := by kernel_rfl
theorem isi_tb : typeOf (.type "bytes") = pure (.type "type") := by kernel_rfl
theorem isi_sl : isSubtype (.type "list") (.type "list") = pure true := by rw [isSubtype_type]; kernel_rfl
theorem isi_st : isSubtype (.type "tuple") (.type "tuple") = pure true := by rw [isSubtype_type]; kernel_rfl
theorem isi_ss : isSubtype (.type "str") (.type "str") = pure true := by rw [isSubtype_type]; kernel_rfl
theorem isi_sb : isSubtype (.type "bytes") (.type "bytes") = pure true := by rw [isSubtype_type]; kernel_rfl
end
end Mine
end
section
open PySem PySem.W PyProof.Rows
namespace Mine

theorem fly_kh {A : Around} {sr s' : Shared} {B h : Heap} {l : List Env} {base : Heap} (hk : Kp A sr s') (hfr : A.frames = some l) (ff : s'.heap.FunFrames base l)
    (hB : ∀ b o, s'.heap.get? b = some o → (∃ o', sr.heap.get? b = some o') → b ∉ l.filterMap (·.frame) → B.get? b = some o) (hst : B.StaysIn h) (hup : s'.heap.UpToSlots h) : Kh (FrA A) sr.heap h := fun b o e => by
  obtain ⟨p1, sl, p2⟩ := hk.kh b o e
  by_cases hb : b ∈ l.filterMap (·.frame)
  · obtain ⟨_, o', e', nf⟩ := ff.mem hb
    rw [p2] at e'; cases e'
    refine ⟨fun n => n.elim (fun n => absurd ⟨l, hfr, hb⟩ n) fun ⟨fs, z⟩ => absurd z (nf fs), ?_⟩
    obtain ⟨sl', q⟩ := hup b _ p2 nf
    exact ⟨sl', q⟩
  · have hF : ¬ FrA A b := fun ⟨l', e1, e2⟩ => by rw [hfr] at e1; cases e1; exact hb e2
    have := hst b o (hB b o (p1 (.inl hF)) ⟨o, e⟩ hb)
    exact ⟨fun _ => this, o.slots, this⟩

theorem EX.arg.on {h h₁ h₂ : Heap} {a0 : Value} (k : ∀ b o, h₁.get? b = some o → (∀ vs, o.data ≠ .fields vs) → h.get? b = none → ∃ sl, h₂.get? b = some { o with slots := sl }) : ∀ {x : EX}, x.arg h h₁ a0 → x.arg h h₂ a0
  | .tm _, ⟨t, u, e, n, o, i, g, c, d⟩ => let ⟨_, k'⟩ := k t o g (fun vs z => by rw [d] at z; cases z) n; ⟨t, u, e, n, _, i, k', c, d⟩
  | .zde, _ | .ofe, _ | .te, _ | .ve, _ | .ae, _ => trivial
/-- an exception that the frame has taken note of -/
noncomputable def Fly (A : Around) (l : List Env) (sr : Shared) (e : Addr) (cls : EX) (s' : Shared) : Prop := ∃ B a0 h tk, s' = { sr with heap := h, toks := tk } ∧ cls.arg sr.heap h a0 ∧ Heap.FlyingW B l e (.type cls.name) a0 h ∧ Kh (FrA A) sr.heap h ∧ (∀ b o, h.get? b = some o → (∃ o', sr.heap.get? b = some o') → b ∉ l.filterMap (·.frame) → B.get? b = some o) ∧ (∀ b, b ∈ l.filterMap (·.frame) → ∃ o, h.get? b = some o ∧ ∀ vs, o.data ≠ .fields vs)

theorem note_land {c : Cx} {A : Around} {sr s' : Shared} {e : Addr} {cls : EX} {env : Env} {outer : List Env} {Lf : Addr} {Q : Unit → Shared → Prop} {E : Value → Shared → Prop} (X : Xp A sr s' (.ref e) cls) (hfr : A.frames = some (env :: outer)) (hf : env.frame = some Lf)
    (ff : s'.heap.FunFrames c.h0 (env :: outer)) (ffr : sr.heap.FunFrames c.h0 (env :: outer)) (K : ∀ s₃, Fly A (env :: outer) sr e cls s₃ → Q () s₃) :
    wpAny c.M A (noteFrame (.ref e) env) (fun _ s₂ => wpAny c.M A (setFlight (.ref e) none) Q E s₂) E s' := by
  obtain ⟨e', a0, he', hkp, hen, hag, hX⟩ := X
  cases he'
  have nfr : ∀ b, sr.heap.get? b = none → b ∈ (env :: outer).filterMap (·.frame) → False := fun b z hm => by
    obtain ⟨_, o, e, _⟩ := ffr.mem hm
    rw [z] at e; cases e
  have fin : ∀ (B : Heap), B.StaysIn s'.heap → B.get? e = none → (∀ b o, s'.heap.get? b = some o → (∃ o', sr.heap.get? b = some o') → b ∉ (env :: outer).filterMap (·.frame) → B.get? b = some o) →
      (∀ b o, s'.heap.get? b = some o → (∀ vs, o.data ≠ .fields vs) → sr.heap.get? b = none → B.get? b = some o) →
      ∀ h₂, Heap.HeldW B (env :: outer) e (.type cls.name) a0 Lf h₂ → s'.heap.UpToSlots h₂ → wpAny c.M A (setFlight (.ref e) none) Q E { s' with heap := h₂ } := by
    intro B hB1 hB2 hB3 hBt h₂ hh hu
    refine wpAny_landsW hh fun h₃ hfl hu₃ => K _ ?_
    have kh := fly_kh hkp hfr ff hB3 hfl.1 (hu.trans hu₃)
    obtain ⟨h', tk', rfl, kk⟩ := hkp
    refine ⟨B, a0, h₃, tk', rfl, hag.on fun b o q1 q2 q3 => ⟨o.slots, hfl.1 b o (hBt b o q1 q2 q3)⟩, hfl, kh, fun b o q1 q2 q3 => ?_, fun b hb => ?_⟩
    · obtain ⟨o', q2⟩ := q2
      have hF : ¬ FrA A b := fun ⟨l', e1, e2⟩ => by rw [hfr] at e1; cases e1; exact q3 e2
      have e1 := (kk b o' q2).1 (.inl hF)
      have e2 := hB3 b o' e1 ⟨o', q2⟩ q3
      have e3 := hfl.1 b o' e2
      rw [q1] at e3; cases e3; exact e2
    · obtain ⟨_, o, e1, nf⟩ := hfl.2.2.1.mem hb
      exact ⟨o, e1, nf⟩
  rcases hX with ⟨ob, vs, ho, hc, hd, hv0, hv1⟩ | ht
  · have hB0 : ∀ b o, s'.heap.get? b = some o → (∃ o', sr.heap.get? b = some o') → b ∉ (env :: outer).filterMap (·.frame) → (hideAll s'.heap (e :: (env :: outer).filterMap (·.frame))).get? b = some o := fun b o q1 q2 q3 => by
      refine hideAll_get _ q1 fun hm => ?_
      rcases List.mem_cons.mp hm with rfl | hm
      · obtain ⟨o', q2⟩ := q2; rw [hen] at q2; cases q2
      · exact q3 hm
    have hfB : s'.heap.FunFrames (hideAll s'.heap (e :: (env :: outer).filterMap (·.frame))) (env :: outer) := funFrames_hide ff fun v hv a ha => List.mem_cons_of_mem _ (List.mem_filterMap.mpr ⟨v, hv, ha⟩)
    unfold noteFrame
    simp only [hf]
    refine wpAny_bind (wpAny_field ho hd (x := .none) hv1 ?_)
    rw [if_neg (by decide)]
    refine wpAny_entryW (base := hideAll s'.heap (e :: (env :: outer).filterMap (·.frame))) hfr hfB hf ho (fun b o q => of_hideAll _ q) (hideAll_none _ (List.mem_cons_self ..)) hd (Array.getElem?_eq_some_iff.mp hv1).1 (a0 := a0) hv0 fun h₂ hN => ?_
    obtain ⟨k1, k2, k3, k4⟩ := hN
    rw [hc] at k3
    exact fin _ (fun b o q => of_hideAll _ q) (hideAll_none _ (List.mem_cons_self ..)) hB0 (fun b o q1 q2 q3 => hideAll_get _ q1 fun hm => (List.mem_cons.mp hm).elim (fun z => by rw [z, ho] at q1; cases q1; exact q2 _ hd) (nfr b q3)) h₂ ⟨k1, hideAll_none _ (List.mem_cons_self ..), k2, k3⟩ k4
  · obtain ⟨oe, vs, T, oT, ts, he, hcl, hd, h1, hT, hTe, hoT, hdT, h3⟩ := ht
    have hB0 : ∀ b o, s'.heap.get? b = some o → (∃ o', sr.heap.get? b = some o') → b ∉ (env :: outer).filterMap (·.frame) → (hideAll s'.heap (e :: T :: (env :: outer).filterMap (·.frame))).get? b = some o := fun b o q1 q2 q3 => by
      obtain ⟨o', q2⟩ := q2
      refine hideAll_get _ q1 fun hm => ?_
      rcases List.mem_cons.mp hm with rfl | hm
      · rw [hen] at q2; cases q2
      · rcases List.mem_cons.mp hm with rfl | hm
        · rw [hT] at q2; cases q2
        · exact q3 hm
    have hfB : s'.heap.FunFrames (hideAll s'.heap (e :: T :: (env :: outer).filterMap (·.frame))) (env :: outer) := funFrames_hide ff fun v hv a ha => List.mem_cons_of_mem _ (List.mem_cons_of_mem _ (List.mem_filterMap.mpr ⟨v, hv, ha⟩))
    have hTB : (hideAll s'.heap (e :: T :: (env :: outer).filterMap (·.frame))).get? T = none := hideAll_none _ (List.mem_cons_of_mem _ (List.mem_cons_self ..))
    refine wpAny_noteFrame_onW (base := hideAll s'.heap (e :: T :: (env :: outer).filterMap (·.frame))) (a0 := a0) (cls := .type cls.name) hfr hfB hf ⟨oe, vs, T, oT, ts, he, hcl, hd, h1, hTB, hTe, hoT, hdT, h3⟩ (fun b o q => of_hideAll _ q) (hideAll_none _ (List.mem_cons_self ..)) fun h₂ hN => ?_
    obtain ⟨k1, k2, k3, k4⟩ := hN
    exact fin _ (fun b o q => of_hideAll _ q) (hideAll_none _ (List.mem_cons_self ..)) hB0 (fun b o q1 q2 q3 => hideAll_get _ q1 fun hm => (List.mem_cons.mp hm).elim (fun z => by rw [z, he] at q1; cases q1; exact q2 _ hd) fun hm => (List.mem_cons.mp hm).elim (fun z => by rw [z, hoT] at q1; cases q1; exact q2 _ hdT) (nfr b q3)) h₂ ⟨k1, hideAll_none _ (List.mem_cons_self ..), k2, k3⟩ k4

theorem EX.boot : ∀ (x : EX), bootBuiltins (Str.ofString x.name) = some (.type x.name)
  | .zde => by decide +kernel
  | .ofe => by decide +kernel
  | .te => by decide +kernel
  | .ve => by decide +kernel
  | .ae => by decide +kernel
  | .tm _ => by show bootBuiltins (Str.ofString "TypeError") = some (.type "TypeError"); decide +kernel
theorem EX.sub : ∀ (x y : EX), x.plain = true → y.plain = true → isSubtype (.type x.name) (.type y.name) = pure (decide (x = y)) := by
  intro x y hx hy
  cases x <;> cases y <;> first | exact (Bool.false_ne_true hx).elim | exact (Bool.false_ne_true hy).elim | (rw [isSubtype_type]; kernel_rfl)
theorem EX.exc : ∀ (x : EX), isSubtype (.type x.name) (.type "BaseException") = pure true := by
  intro x
  cases x <;> (rw [isSubtype_type]; kernel_rfl)
theorem EX.notTup : ∀ (T : EX), isSubtype (.type ((Manifest.find? T.name).elim "type" fun x => x.metatype)) (.type "tuple") = pure false := by
  intro x
  cases x <;> (rw [isSubtype_type]; kernel_rfl)
end Mine
end
section
open PySem PySem.W PyProof.Rows
set_option linter.unusedVariables false
set_option linter.unusedSectionVars false
namespace Mine

section
variable {c : Cx} {O : OpsF} (OK : OpsOk c O) {k : Nat} {cal : Cal} {fname : Nat → Str} (CO : CallsOk c k cal fname) {frees : List Str} (hfree : ∀ x ∈ frees, c.mg x = none)

include OK in
/-- x = [.. for y in ..], the name stored within -/
theorem assign_comp {A : Around} {s : Shared} {H : Hd} {fe : FE} {env : Env} {ns : List Str} {st : Fs} {i : Nat} {x y : Str} {px' py pos pos' : Pos} {e' it : Expr} {ifs : List Expr} {scope : Scope} {r : ER} {f : Store → AV → Option (Option AV)} {Q : Flow → Shared → Prop} {E : Value → Shared → Prop}
    (hm : Rm c true (k + 1) A s.heap) (F : Fm c (FrA A) ns env st fe H s.heap) (hlen : st.ρ.length = ns.length) (h1 : ns[i]? = some x) (h2 : env.kindOf x = some .local ∨ env.kindOf x = some .cell) (h3 : OneName ns i x)
    (hsw : swapsWith (.ListComp e' [⟨.Name y py, it, ifs, 0⟩] scope pos') (some (.Name x px')) pos.line env = pure true) (hkd : scope.kind = .function) (hlc : ∀ y ∈ scope.names, y.2 = .local → scope.names.lookup y.1 = some .local) (hfr : ∀ y, (y, NameKind.free) ∈ scope.names → env.kindOf y = some .cell)
    (hs : ∀ x, foldedSetIterable it env x = pure x) (X : Ev c true A st.lo st.σ H (eval it env) r s) (T : ∀ σ₁ H₁ l ys, mapF (f σ₁) l = some ys → CompSpec c true (k + 1) A ns env (st.at σ₁) fe scope (.ListComp e' [⟨.Name y py, it, ifs, 0⟩] scope pos') H₁ l ys)
    (P : PostS c true A ns env fe st H (resS (r.bind fun a σ₁ => onItems (O.items (derefS st.ρ σ₁ a)) fun l => onItems (mapF (f σ₁) l) fun ys => .ok (.av (.lst ys)) σ₁) st fun v st' => .next (st'.set i (.val v))) s Q E) :
    wpAny c.M A (exec (.Assign [.Name x px'] (.ListComp e' [⟨.Name y py, it, ifs, 0⟩] scope pos') pos) env) Q E s := by
  cases r with
  | exc z σ₁ =>
    rw [exec_Assign_Name_used _ _ _ _ hsw]
    obtain ⟨cl, hclos, hcl1, hcl2, hcl3⟩ := closureFor_ok3 (env := env) (scope := scope) fun y hy => by
      obtain ⟨cc, _, e, _⟩ := F.cl y (hfr y hy)
      rw [e]; rfl
    refine wpAny_bind (wpAny_standAt (wpAny_bind ?_))
    show wpAny _ A (do let _ ← comprehension (.ListComp e' [⟨.Name y py, it, ifs, 0⟩] scope pos') scope env _ (newList []) false (eval it env) (some (assign (.Name x px') env))) _ _ s
    refine wpAny_bind (wpAny_mono (wpAny_comprehension_free (use := some (assign (.Name x px') env)) (Q := fun _ s' => Q .next s') rfl hs hclos hkd hlc (X _ _ ⟨P.1, fun e H' sr s' x Y => P.2 H' sr e s' (.of_ss F hlen x) Y⟩)) (fun _ s' hq => wpAny_pure (wpAny_pure hq)) fun _ _ e => e)
  | stuck => exact P.elim
  | ok a σ₁ =>
    simp only [ER.bind] at P
    cases hi : O.items (derefS st.ρ σ₁ a) with
    | none => rw [hi] at P; exact P.elim
    | some l =>
      rw [hi] at P
      simp only [onItems] at P
      split at P
      · rename_i ys hf
        obtain ⟨cl, hclos, hcl1, hcl2, hcl3⟩ := closureFor_ok3 (env := env) (scope := scope) fun y hy => by
          obtain ⟨cc, _, e, _⟩ := F.cl y (hfr y hy)
          rw [e]; rfl
        rw [exec_Assign_Name_used _ _ _ _ hsw]
        refine wpAny_bind (wpAny_standAt (wpAny_bind ?_))
        show wpAny _ A (do let _ ← comprehension (.ListComp e' [⟨.Name y py, it, ifs, 0⟩] scope pos') scope env _ (newList []) false (eval it env) (some (assign (.Name x px') env))) _ _ s
        refine wpAny_bind (wpAny_mono (wpAny_comprehension_free (use := some (assign (.Name x px') env)) (Q := fun _ s' => Q .next s') rfl hs hclos hkd hlc (X _ _ fun xv H₁ s₁ x₁ r₁ => ?_)) (fun _ s' hq => wpAny_pure (wpAny_pure hq)) fun _ _ e => e)
        have F₁ := F.ss x₁
        have N₁ := Nx.of_ss F hlen x₁
        refine OK.items (hm.nf x₁.nf) rfl F₁.hlt (RepO.derefS F₁ hlen r₁) hi _ _ fun I fp PP St h' tk hk hI hfI hl _ hsz W hst hP => ?_
        refine T σ₁ H₁ l ys hf (RR := fun acc C => compPost c.M A E (some (assign (.Name x px') env)) (fun _ s' => Q .next s') acc C) (s₁ := s₁) (hm.nf x₁.nf) F₁ hcl1 hcl2 hcl3 ⟨_, _, rfl⟩ hk hI hl hfI W hst hsz hP ?_
        intro D C h'' tk' m' vs hD hC hDC hn hl hr hkv
        have k2 : Kh (FrA A) s₁.heap h'' := (Kh.of_keeps hk).trans' hkv fun b o e z => by rw [z, hI] at e; cases e
        have kp2 : Kp A s₁ { s₁ with heap := h'', toks := tk' } := ⟨h'', tk', rfl, k2⟩
        have hDs : s₁.heap.get? D = none := none_back (Kh.of_keeps (F := fun _ => False) hk) hD
        have hCs : s₁.heap.get? C = none := none_back (Kh.of_keeps (F := fun _ => False) hk) hC
        show wpAny _ A (assign (.Name x px') env (.ref D)) _ _ _
        refine wpAny_assign_Name ?_
        obtain ⟨oC, esC, epC, eC, dC, rC⟩ := id hn
        have live : Live (H₁.add fun b => b = C) h'' := fun b z => by
          rcases z with z | rfl
          · obtain ⟨o, e⟩ := F₁.hlt b z
            obtain ⟨sl, q⟩ := (k2 b o e).2
            exact ⟨_, q⟩
          · exact ⟨oC, eC⟩
        have FC := F₁.hide k2 (H₂ := H₁.add fun b => b = C) (fun b z => .inl z) (fun b z => z.imp id fun (z : b = C) => by rw [z]; exact hCs) rfl rfl live
        have rep : Rep (vis h'' (H₁.add fun b => b = C)) (.ref D) (.lst ys) := by
          simp only [Rep]
          obtain ⟨o, n, e, c1, d1, f1⟩ := hl
          refine ⟨Nat.le_trans (mapF_length hf) hsz, D, vs, n, rfl, ⟨fun z => ?_, o, e, c1, d1, f1, .inl rfl, fun ⟨_, z⟩ => by cases z⟩, RepL.mono (vis_hide (H := H₁.add fun b => b = C) (H' := H₁.add fun b => b = C ∨ b = D ∨ b = I) (fun b z => z.elim .inl fun z => .inr (.inl z)) fun _ _ e => e) hr⟩
          rcases z with z | z
          · obtain ⟨o', e'⟩ := F₁.hlt D z
            rw [hDs] at e'; cases e'
          · exact hDC z
        have cellne : ∀ y cc, env.kindOf y = some .cell → env.cells.lookup y = some cc → cc ≠ C := fun y cc qk q z => by
          obtain ⟨o', e'⟩ := F₁.hlt cc (F₁.hc y cc qk q).1
          rw [z, hCs] at e'; cases e'
        have locne : env.locals ≠ C := fun z => by
          obtain ⟨o', e'⟩ := F₁.hlt _ F₁.hl
          rw [z, hCs] at e'; cases e'
        refine wp_store (t := .val (.lst ys)) FC h1 h3 h2 rep fun h₄ tk₄ F₄ kv₄ nf₄ ⟨sa, hsa, hsb⟩ _ => ?_
        have hCa : C ≠ sa := fun z => by
          rcases hsa with q | ⟨y, qk, q⟩
          · exact locne (q ▸ z.symm)
          · exact cellne y sa qk q z.symm
        have hn₄ : h₄.Ns C m' := ⟨oC, esC, epC, (hsb.2 C hCa).trans eC, dC, rC⟩
        refine ⟨m', hn₄, fun h₅ hs₅ => P H₁ _ (N₁.trans ?_)⟩
        have nlC : ∀ vs, ¬ IsL h₄ C vs := not_isL_ns hn₄
        have hHC : ¬ H₁.p C := fun z => by
          obtain ⟨o', e'⟩ := F₁.hlt C z
          rw [hCs] at e'; cases e'
        have hfeC : fe.h.get? C = none := by
          cases q : fe.h.get? C with
          | none => rfl
          | some o =>
            obtain ⟨o', e'⟩ := F₁.keep.nw (fun b w => F₁.hlt b (F₁.hle b (F₁.wsub b w))) q
            rw [hCs] at e'; cases e'
        have F₅ := F₄.drop (a := C) (h' := h₅) (fun b o hb e => (hs₅.2 b hb).trans e) hfeC locne cellne nlC F₁.hle hHC (fun n e => hHC (F₁.sto.hidden e))
        refine ⟨⟨h₅, tk₄, rfl⟩, fun b o e => ?_, fun b z => .inl z, fun b o nb e => ?_, fun b o e nf => ?_, fun _ _ e => e, F₅, by simpa using hlen, rfl, rfl⟩
        · have hb : b ≠ C := fun z => by rw [z, hCs] at e; cases e
          by_cases hHb : H₁.p b
          · exact F₅.hlt b hHb
          · obtain ⟨sl, q⟩ := (k2 b o e).2
            obtain ⟨sl', q'⟩ := (kv₄ b _ (fun z => z.elim hHb hb) q).2
            exact ⟨_, (hs₅.2 b hb).trans q'⟩
        · have hb : b ≠ C := fun z => by rw [z, hCs] at e; cases e
          obtain ⟨p1, sl, p2⟩ := k2 b o e
          have nb' : ¬ (H₁.add fun b => b = C).p b := fun z => z.elim nb hb
          refine ⟨fun f => (hs₅.2 b hb).trans ((kv₄ b o nb' (p1 f)).1 f), ?_⟩
          obtain ⟨sl', q'⟩ := (kv₄ b _ nb' p2).2
          exact ⟨sl', (hs₅.2 b hb).trans q'⟩
        · have hb : b ≠ C := fun z => by rw [z, hCs] at e; cases e
          obtain ⟨o', e', n'⟩ := (k2.nf.trans nf₄) b o e nf
          exact ⟨o', (hs₅.2 b hb).trans e', n'⟩
      · exact P.elim

include OK CO hfree in
/-- x = e -/
theorem assign_val {A : Around} {s : Shared} {H : Hd} {fe : FE} {env : Env} {ks : List (Str × NameKind)} {ns : List Str} {st : Fs} {q : Bool} {e : PE} {ex : Expr} {i : Nat} {x : Str} {px' pos : Pos} {Q : Flow → Shared → Prop} {E : Value → Shared → Prop}
    (hks : env.scope.names = ks) (hm : Rm c q (k + 1) A s.heap) (F : Fm c (FrA A) ns env st fe H s.heap) (hlen : st.ρ.length = ns.length) (hx : nameAt ks ns i x = true) (he : encE frees fname ks ns e ex = true) (hsc : isSC e = false)
    (P : PostS c q A ns env fe st H (resS (pe O cal q st e).v st fun v st' => .next (st'.set i (.val v))) s Q E) : wpAny c.M A (exec (.Assign [.Name x px'] ex pos) env) Q E s := by
  obtain ⟨h1, h2, h3⟩ := nameAt_of hks hx
  have I := pe_sound OK CO hfree e he hks hm F hlen
  have plain : swapsWith ex (some (.Name x px')) pos.line env = pure false → wpAny c.M A (exec (.Assign [.Name x px'] ex pos) env) Q E s := fun hsw => by
    refine wpAny_Assign_Name (PostS.resK F hlen I.v P fun v σ₁ _ w H₁ s₁ N₁ r₁ P₁ => ?_) hsw
    exact nx_store N₁ h1 h3 h2 r₁ fun s' N N' => P₁ H₁ s' N'
  cases hc : isComp e with
  | false => exact plain (swaps_no he hc _ _ _)
  | true =>
    cases e <;> first | (simp [isComp] at hc; done) | (simp [isSC] at hsc; done) | skip
    case comp caps elt src conds =>
      rw [ec_comp] at he
      obtain ⟨e', y, py, it, ifs, scope, pos', rfl, hz⟩ := onLC_eq he
      replace he := hz; clear hz
      have hsw : ∃ b, swapsWith (.ListComp e' [⟨.Name y py, it, ifs, 0⟩] scope pos') (some (.Name x px')) pos.line env = pure b := ⟨_, rfl⟩
      obtain ⟨b, hsw⟩ := hsw
      cases b with
      | false => exact plain hsw
      | true =>
        simp only [Bool.and_eq_true] at he
        obtain ⟨⟨⟨⟨e1, e0⟩, e2⟩, e3⟩, e4⟩ := he
        have e0 : isSetd src = false := by simpa using e0
        simp only [qe_comp, PR.of] at P
        cases q with
        | false => exact P.elim
        | true =>
          have K := compOk_of (ns := ns) (x := y) (caps := caps) hks e2
          exact assign_comp OK (f := fun σ₁ x => compF σ₁.length (pall O cal true ((st.at σ₁).inner caps x) .And conds) (pe O cal true ((st.at σ₁).inner caps x) elt).v) hm F hlen h1 h2 h3 hsw K.kind K.loc K.free (encE_notSet e1 e0 env) (pe_sound OK CO hfree src e1 hks hm F hlen).v
            (fun σ₁ H₁ l ys hf => comp_spec1 (st := st.at σ₁) hlen K hf (comp_turn (O := O) (cal := cal) (elt := elt) (conds := conds) (relab_eq hks F.kind) hlen (fun a b c d => pe_sound OK CO hfree elt e3 a b c d) (fun a b c d => ptests_sound OK CO hfree conds e4 a b c d))) P
    case compc caps elt src conds =>
      rw [ec_compc] at he
      obtain ⟨e', y, py, it, ifs, scope, pos', rfl, hz⟩ := onLC_eq he
      replace he := hz; clear hz
      have hsw : ∃ b, swapsWith (.ListComp e' [⟨.Name y py, it, ifs, 0⟩] scope pos') (some (.Name x px')) pos.line env = pure b := ⟨_, rfl⟩
      obtain ⟨b, hsw⟩ := hsw
      cases b with
      | false => exact plain hsw
      | true =>
        simp only [Bool.and_eq_true] at he
        obtain ⟨⟨⟨⟨e1, e0⟩, e2⟩, e3⟩, e4⟩ := he
        have e0 : isSetd src = false := by simpa using e0
        simp only [qe_compc, PR.of] at P
        cases q with
        | false => exact P.elim
        | true =>
          obtain ⟨K, hxf⟩ := compOkC_of (ns := ns) (x := y) (caps := caps) hks e2
          exact assign_comp OK (f := fun σ₁ x => compF σ₁.length (pall O cal true ((st.at σ₁).inner caps x) .And conds) (pe O cal true ((st.at σ₁).inner caps x) elt).v) hm F hlen h1 h2 h3 hsw K.kind K.loc K.free (encE_notSet e1 e0 env) (pe_sound OK CO hfree src e1 hks hm F hlen).v
            (fun σ₁ H₁ l ys hf => comp_specC (st := st.at σ₁) hlen K hxf hf (comp_turn (O := O) (cal := cal) (elt := elt) (conds := conds) (relab_eq hks F.kind) hlen (fun a b c d => pe_sound OK CO hfree elt e3 a b c d) (fun a b c d => ptests_sound OK CO hfree conds e4 a b c d))) P
end
end Mine
end
section
open PySem PySem.W PyProof.Rows
set_option linter.unusedVariables false
set_option linter.unusedSectionVars false
set_option maxHeartbeats 2000000
namespace Mine

theorem Nx.mark {c : Cx} {A : Around} {x : Option Value} {ns : List Str} {env : Env} {fe : FE} {st st' : Fs} {H H' : Hd} {s s' : Shared} (N : Nx c (A.mark x) ns env fe st H s st' H' s') : Nx c A ns env fe st H s st' H' s' := ⟨N.rest, N.lv, N.hid, N.kv, N.nf, N.mx, N.fm, N.len, N.lo, N.n0⟩
theorem Rt.mark {c : Cx} {A : Around} {x : Option Value} {ns : List Str} {env : Env} {fe : FE} {st : Fs} {s s' : Shared} {σ' : Store} {w : Value} {v : AV} (N : Rt c (A.mark x) ns env fe st s σ' w v s') : Rt c A ns env fe st s σ' w v s' := ⟨N.rest, N.lv, N.nf, N.back⟩

theorem rep_not_hidden {h : Heap} {H : Hd} {b : Addr} : ∀ {x : AV}, (∀ n, x ≠ .ptr n) → (∀ k ys, x ≠ .itr k ys) → x ≠ .any → Rep (vis h H) (.ref b) x → ¬ H.p b ∧ ∃ o, h.get? b = some o
  | .none, _, _, _, r => by simp [Rep] at r
  | .bool _, _, _, _, r => by simp [Rep] at r
  | .int _, _, _, _, r => by simp [Rep] at r
  | .float _, _, _, _, r => by simp [Rep] at r
  | .str _, _, _, _, r => by simp [Rep] at r
  | .bytes _, _, _, _, r => by simp [Rep] at r
  | .type _, _, _, _, r => by simp [Rep] at r
  | .fn _, _, _, _, r => by simp [Rep] at r
  | .ptr n, h, _, _, _ => absurd rfl (h n)
  | .itr k ys, _, h, _, _ => absurd rfl (h k ys)
  | .any, _, _, h, _ => absurd rfl h
  | .range _ _ _, _, _, _, r => by
    simp only [Rep] at r
    obtain ⟨_, _, _, _, e, v⟩ := r
    cases e; exact ⟨v.1, let ⟨o, q, _⟩ := v.2; ⟨o, q⟩⟩
  | .dict _, _, _, _, r => by
    simp only [Rep] at r
    obtain ⟨_, _, _, e, v, _⟩ := r
    cases e; exact ⟨v.1, let ⟨o, q, _⟩ := v.2; ⟨o, q⟩⟩
  | .bag _, _, _, _, r => by
    simp only [Rep] at r
    obtain ⟨_, _, _, _, _, _, e, v, _⟩ := r
    cases e; exact ⟨v.1, let ⟨o, q, _⟩ := v.2; ⟨o, q⟩⟩
  | .set _ _ _, _, _, _, r => by
    simp only [Rep] at r
    obtain ⟨_, _, _, _, e, v, _⟩ := r
    cases e; exact ⟨v.1, let ⟨o, q, _⟩ := v.2; ⟨o, q⟩⟩
  | .sm _ _, _, _, _, r => by
    simp only [Rep] at r
    obtain ⟨_, _, _, _, e, v, _⟩ := r
    cases e; exact ⟨v.1, let ⟨o, q, _⟩ := v.2; ⟨o, q⟩⟩
  | .tup _, _, _, _, r => by
    simp only [Rep] at r
    obtain ⟨_, _, _, _, e, v, _⟩ := r
    cases e; exact ⟨v.1, let ⟨o, q, _⟩ := v.2; ⟨o, q⟩⟩
  | .lst _, _, _, _, r => by
    simp only [Rep] at r
    obtain ⟨_, _, _, _, e, v, _⟩ := r
    cases e; exact ⟨v.1, let ⟨o, q, _⟩ := v.2; ⟨o, q⟩⟩

theorem ometh_slot : ∀ (m : OMI), Slot "list" (Str.ofString m.name) ("list." ++ m.name)
  | .append => slot_list_append
  | .insert => PySem.F.slot_list_insert
  | .remove => PySem.F.slot_list_remove
theorem ometh_type : ∀ (m : OMI), typeOf (.builtin ("list." ++ m.name)) = pure (.type "method_descriptor")
  | .append => by with_unfolding_all rfl
  | .insert => PySem.F.type_list_insert
  | .remove => PySem.F.type_list_remove

section
variable {c : Cx} {A : Around} {ns : List Str} {env : Env} {fe : FE} {H H₁ : Hd} {s s₁ : Shared}

end

theorem EX.facts {y : EX} (h : y = .te ∨ y = .ve) : ∃ nid iid, ExcCallFacts y.name nid iid ∧ ExcRaiseFacts y.name := by
  rcases h with rfl | rfl
  · exact ⟨_, _, PySem.F.excCall_TypeError, PySem.F.excRaise_TypeError⟩
  · exact ⟨_, _, PySem.F.excCall_ValueError, PySem.F.excRaise_ValueError⟩
theorem xp_madeM {A : Around} {s : Shared} {h' : Heap} {e : Addr} {m : Str} {u : Tok} (x : Heap.MadeExc s.heap h' e "TypeError" [.str m u]) : Xp A s { s with heap := h' } (.ref e) (.tm m) := by
  obtain ⟨t, ht, hn, hu⟩ := x.there
  exact ⟨e, .ref t, rfl, ⟨h', s.toks, rfl, Kh.of_keeps x.keeps⟩, x.new, ⟨t, u, rfl, hn, _, _, hu, rfl, rfl⟩, .inl ⟨_, _, ht, rfl, rfl, rfl, rfl⟩⟩
theorem pos_name {x : Str} {p : Pos} : (Expr.Name x p).pos = p := rfl
theorem pos_tuple {l : List Expr} {k : Nat} {p : Pos} : (Expr.Tuple l k p).pos = p := rfl
theorem swapped_two {frees : List Str} {fname : Nat → Str} {ks : List (Str × NameKind)} {ns : List Str} {env : Env} {x y : Str} {px py : Pos} {k1 tp ea eb k2 vp} {a b : PE} (hks : env.scope.names = ks) (hk : env.scope.kind = .function) (kx : env.kindOf x = some .local) (ky : env.kindOf y = some .local) (hpl : px.line = py.line) (hxy : x ≠ y)
    (hff : [ea, eb].all (foldedForSure 8) = false) (hca : [ea, eb].all (constantsAlone 8) = false) (hea : encE frees fname ks ns a ea = true) (heb : encE frees fname ks ns b eb = true) : swappedStores [.Tuple [.Name x px, .Name y py] k1 tp] (.Tuple [ea, eb] k2 vp) env = pure (some [x, y]) := by
  have bk : env.blockKind = .function := by unfold Env.blockKind; rw [hk]; rfl
  have na : ∀ z w, ea ≠ .Starred z w := encE_notStar hea
  have nb : ∀ z w, eb ≠ .Starred z w := encE_notStar heb
  have hs : ([ea, eb].any fun | .Starred .. => true | _ => false) = false := by
    have h1 : ∀ e : Expr, (∀ z w, e ≠ .Starred z w) → (match e with | .Starred .. => true | _ => false) = false := fun e h => by
      cases e <;> first | rfl | exact absurd rfl (h _ _)
    show (_ || (_ || false)) = false
    rw [Bool.or_eq_false_iff, Bool.or_false]
    exact ⟨h1 ea na, h1 eb nb⟩
  have hy : (y == x) = false := by simpa using fun e => hxy e.symm
  delta swappedStores
  dsimp only
  simp only [List.length_cons, List.length_nil, bk, List.filterMap_cons, List.filterMap_nil, kx, ky, List.head?_cons, Option.map_some, Option.getD_some, pos_name, pos_tuple, hpl, beq_self_eq_true, Bool.and_self, if_true]
  simp only [Nat.zero_add, Nat.reduceAdd, beq_self_eq_true, Bool.true_or, Bool.not_true, bne_self_eq_false, Bool.or_self, if_false, Bool.false_eq_true, hs, List.length_cons, List.length_nil, hff, hca]
  have he : ([x, y] : List Str).eraseDups = [x, y] := by
    rw [List.eraseDups_cons]
    have : [y].filter (fun b => !(b == x)) = [y] := by simp [hy]
    rw [this] <;> rfl
  simp [he]

theorem owned_go {M : Model} {A : Around} {E : Value → Shared → Prop} {s : Shared} {tgt : Expr} {I : Addr} {v : Value} {o : Obj} {n : String} {Q : Unit → Shared → Prop} (ho : s.heap.get? I = some o) (hc : o.cls = .type n)
    (hn : ["enumerate", "zip", "dict_itemiterator", "dict_reverseitemiterator", "odict_iterator", "itertools.zip_longest", "itertools.pairwise"].contains n = false) (h : Q () s) : wpAny M A (letOwnedTupleGo tgt (.ref I) v) Q E s := by
  have core : ∀ a, wpAny M A (do
      let o ← load I
      match o.cls, o.data with
      | .type n, .fields vs =>
        if ["enumerate", "zip", "dict_itemiterator", "dict_reverseitemiterator", "odict_iterator", "itertools.zip_longest", "itertools.pairwise"].contains n && vs[0]? == some (rawInt a) then
          rule "for.unpacks-the-owned-tuple"
          updateField I 0 .none
      | _, _ => pure () : Sem Unit) Q E s := fun a => by
    refine wpAny_bind (wpAny_load ho ?_)
    rw [hc]
    split
    · rename_i n' vs e1 e2
      cases e1
      rw [hn, Bool.false_and, if_neg (by decide)]
      exact wpAny_pure h
    · exact wpAny_pure h
  unfold letOwnedTupleGo
  cases tgt <;> first | exact wpAny_pure h | (cases v <;> first | exact wpAny_pure h | exact core _)

theorem unpack_pair {prog : Program} {w : World} {A : Around} {E : Value → Shared → Prop} {s : Shared} {t : Addr} {v0 v1 : Value} {Q : List Value → Shared → Prop} (hh : A.handled = none) (ht : s.heap.IsTuple t #[v0, v1])
    (hQ : ∀ h', Heap.ExtBut s.heap.objs.size s.heap h' → Q [v0, v1] { s with heap := h' }) : wpAny (model prog w) A (unpackItems (.ref t) 2 none) Q E s := by
  have e : (#[v0, v1] : Array Value).size = 2 := rfl
  have := wpAny_unpackItems_tuple (prog := prog) (w := w) (E := E) (items := #[v0, v1]) (Q := Q) hh ht hQ
  rw [e] at this
  exact this
theorem assign_pair {c : Cx} {A : Around} {ns : List Str} {env : Env} {fe : FE} {st : Fs} {H : Hd} {s : Shared} {x y : Str} {i j : Nat} {v0 v1 : Value} {a0 a1 : AV} {Q : Unit → Shared → Prop} {E : Value → Shared → Prop} (F : Fm c (FrA A) ns env st fe H s.heap) (hlen : st.ρ.length = ns.length) (hij : i ≠ j)
    (x1 : ns[i]? = some x) (x2 : env.kindOf x = some .local ∨ env.kindOf x = some .cell) (x3 : OneName ns i x) (y1 : ns[j]? = some y) (y2 : env.kindOf y = some .local ∨ env.kindOf y = some .cell) (y3 : OneName ns j y)
    (r0 : Rep (vis s.heap H) v0 a0) (r1 : Rep (vis s.heap H) v1 a1) (h : ∀ s', Nx c A ns env fe st H s (st.sets [i, j] [a0, a1]) H s' → Q () s') : wpAny c.M A (assignInOrder (([x, y].reverse).map fun n => bindName env n) [v0, v1].reverse) Q E s := by
  show wpAny c.M A (holding [v0] (bindName env y v1) >>= fun _ => (holding [] (bindName env x v0) >>= fun _ => pure ())) Q E s
  refine wpAny_bind (wpAny_holding (wpAny_bindName (nx_store (Nx.of_kp F hlen (Kp.refl _ _)) y1 y3 y2 r1 fun s₂ N3 N3' => ?_)))
  refine wpAny_bind (wpAny_holding (wpAny_bindName (nx_store N3 x1 x3 x2 (Rep.mono N3'.vis r0) fun s₃ N4 _ => wpAny_pure (h s₃ ?_))))
  have e : ((st.set j (.val a1)).set i (.val a0)) = st.sets [i, j] [a0, a1] := by
    simp only [Fs.sets, Fs.set]
    rw [List.set_comm _ _ (Ne.symm hij)]
  rw [← e]; exact N4
section
variable {c : Cx} {O : OpsF} (OK : OpsOk c O) {k : Nat}
include OK
/-- a loop -/
theorem for_core {A : Around} {s : Shared} {H : Hd} {fe : FE} {env : Env} {ns : List Str} {st : Fs} {v : AV} {σ : Store} {l : List AV} {tgt it : Expr} {body' : List Stmt} {pos : Pos} {f : AV → Fs → FR} {Q : Flow → Shared → Prop} {E : Value → Shared → Prop}
    (hm : Rm c true (k + 1) A s.heap) (F : Fm c (FrA A) ns env st fe H s.heap) (hlen : st.ρ.length = ns.length) (hns : ∀ x, foldedSetIterable it env x = pure x) (T : Ev c true A st.lo st.σ H (eval it env) (.ok (.av v) σ) s) (hi : O.items v = some l)
    (P : PostS c true A ns env fe st H (forF f l (st.at σ)) s Q E)
    (turn' : ∀ item w st' H' s', Nf s.heap s'.heap → Fm c (FrA A) ns env st' fe H' s'.heap → st'.ρ.length = ns.length → Rep (vis s'.heap H') w item → f item st' ≠ .stuck → ∀ (Q' : Unit → Shared → Prop) (E' : Value → Shared → Prop),
      (∀ st₃ H₃ s₃, Nx c A ns env fe st' H' s' st₃ H₃ s₃ → (∀ Q E, PostS c true A ns env fe st₃ H₃ (f item st') s₃ Q E → wpAny c.M A (execs body' env) Q E s₃) → Q' () s₃) → wpAny c.M A (assign tgt env w) Q' E' s') :
    wpAny c.M A (exec (.For tgt it body' [] pos) env) Q E s := by
  refine wpAny_For (T _ _ fun va H₁ s₁ x₁ r₁ => ?_) hns
  have N0 := Nx.of_ss F hlen x₁
  have F₁ := N0.fm
  have P₁ := P.nx N0
  have r₁ : Rep (vis s₁.heap H₁) va v := r₁
  refine OK.items (hm.nf x₁.nf) rfl F₁.hlt (.of r₁) hi _ _ fun I fp PP St h' tk hk hI hfI hl hfp hsz W hst hP => ?_
  have hIfe : fe.h.get? I = none := by
    cases q : fe.h.get? I with
    | none => rfl
    | some o =>
      obtain ⟨o', e'⟩ := F₁.keep.nw (fun b w => F₁.hlt b (F₁.hle b (F₁.wsub b w))) q
      rw [hI] at e'; cases e'
  have hHI : ¬ H₁.p I := fun z => by
    obtain ⟨o', e'⟩ := F₁.hlt I z
    rw [hI] at e'; cases e'
  have vnot : ∀ b, va = .ref b → ¬ H₁.p b ∧ ∃ o, s₁.heap.get? b = some o := fun b e => by
    subst e
    exact rep_not_hidden (OK.itemsR hi).1 (OK.itemsR hi).2.1 (OK.itemsR hi).2.2 r₁
  have kpI : Kp A s₁ { s₁ with heap := h', toks := tk } := ⟨h', tk, rfl, Kh.of_keeps hk⟩
  have N0 : Nx c A ns env fe (st.at σ) H₁ s₁ (st.at σ) H₁ { s₁ with heap := h', toks := tk } := Nx.of_kp F₁ hlen kpI
  refine codeAny_forLoop_any (fun m s' => ∃ j st' H', m = l.length + 1 - j ∧ j ≤ l.length ∧ Nx c A ns env fe (st.at σ) H₁ s₁ st' H' s' ∧ ¬ H'.p I ∧ St j s'.heap ∧
    PostS c true A ns env fe (st.at σ) H₁ (forF f (l.drop j) st') s₁ Q E) ?_ (l.length + 1)
    ⟨0, st.at σ, _, rfl, Nat.zero_le _, N0, hHI, hst, by simpa using P₁⟩
  rintro m s' ⟨j, st', H', rfl, hj, N, hHI', hst', P'⟩
  obtain ⟨oI, fsI, eI, dI, cI⟩ := W.fld j _ hst'
  obtain ⟨hs', ts', rfl⟩ := N.rest
  dsimp only at *
  have back : ∀ {h₂ tk₂}, (∀ b o, b ≠ I → hs'.get? b = some o → h₂.get? b = some o) → Nx c A ns env fe (st.at σ) H₁ s₁ st' H' { s₁ with heap := h₂, toks := tk₂ } := fun {h₂ tk₂} hk₂ => by
    have F₂ := N.fm.touchV (a := I) (h' := h₂) hk₂ hIfe eI dI cI hHI'
    exact ⟨⟨_, _, rfl⟩, fun b o e => by
      have hb : b ≠ I := fun z => by rw [z, hI] at e; cases e
      obtain ⟨o', e'⟩ := N.lv b o e
      exact ⟨o', hk₂ b o' hb e'⟩, N.hid, fun b o nb e => by
      have hb : b ≠ I := fun z => by rw [z, hI] at e; cases e
      obtain ⟨p1, sl, p2⟩ := N.kv b o nb e
      exact ⟨fun f => hk₂ b _ hb (p1 f), sl, hk₂ b _ hb p2⟩, fun b o e nf => by
      have hb : b ≠ I := fun z => by rw [z, hI] at e; cases e
      obtain ⟨o', e', n'⟩ := N.nf b o e nf
      exact ⟨o', hk₂ b o' hb e', n'⟩, N.mx, F₂, N.len, N.lo, N.n0⟩
  by_cases hlt : j < l.length
  · obtain ⟨item, hitem⟩ : ∃ y, l[j]? = some y := ⟨l[j], by simp [hlt]⟩
    have hdrop : l.drop j = item :: l.drop (j + 1) := by
      rw [List.drop_eq_getElem_cons hlt]
      have : l[j] = item := by rw [List.getElem?_eq_getElem hlt] at hitem; exact Option.some.inj hitem
      rw [this]
    rw [hdrop] at P'
    simp only [forF] at P'
    refine W.item j _ _ _ hlt hst' fun vi h₂ tk₂ hPv hst₂ hk₂ hI₂ => ?_
    dsimp only
    have N₂ := back (tk₂ := tk₂) hk₂
    obtain ⟨oI₂, fsI₂, eI₂, dI₂, cI₂⟩ := W.fld (j + 1) _ hst₂
    have rit : Rep (vis h₂ H') vi item := Rep.mono N₂.vis (hP j vi item hPv hitem)
    obtain ⟨oN, nN, eN, cN, hN⟩ := W.nt (j + 1) _ hst₂
    refine owned_go eN cN hN ?_
    refine turn' item vi st' H' { s₁ with heap := h₂, toks := tk₂ } (x₁.nf.trans N₂.nf) N₂.fm N₂.len rit (fun z => by rw [z] at P'; exact P') _ _ fun st₃ H₃ s₃ N₃ IH => ?_
    have N13 := N₂.trans N₃
    have nextI : ∀ st₄ H₄ s₄, Nx c A ns env fe st₃ H₃ s₃ st₄ H₄ s₄ → PostS c true A ns env fe (st.at σ) H₁ (forF f (l.drop (j + 1)) st₄) s₁ Q E →
        ∃ m, m < l.length + 1 - j ∧ ∃ j st' H', m = l.length + 1 - j ∧ j ≤ l.length ∧ Nx c A ns env fe (st.at σ) H₁ s₁ st' H' s₄ ∧ ¬ H'.p I ∧ St j s₄.heap ∧
          PostS c true A ns env fe (st.at σ) H₁ (forF f (l.drop j) st') s₁ Q E := by
      intro st₄ H₄ s₄ N₄ P₄
      have N24 := N₃.trans N₄
      refine ⟨l.length + 1 - (j + 1), by omega, j + 1, st₄, H₄, rfl, hlt, N13.trans N₄, fun z => ?_, W.frame _ _ _ hst₂ fun b o hb e => ?_, P₄⟩
      · rcases N24.hid I z with z | z
        · exact hHI' z
        · dsimp only at z; rw [eI₂] at z; cases z
      · have nb : ¬ H'.p b := fun z => ?_
        exact ⟨fun hf => (N24.kv b o nb e).1 (.inr hf), (N24.kv b o nb e).2⟩
        rcases hfp b hb with rfl | hv'
        · exact hHI' z
        · obtain ⟨q1, o', q2⟩ := vnot b hv'
          rcases N.hid b z with z | z
          · exact q1 z
          · rw [q2] at z; cases z
    cases hb : f item st' with
    | next st₄ => rw [hb] at IH P'; exact IH _ _ fun H₄ s₄ N₄ => nextI st₄ H₄ s₄ N₄ P'
    | cont st₄ => rw [hb] at IH P'; exact IH _ _ fun H₄ s₄ N₄ => nextI st₄ H₄ s₄ N₄ P'
    | brk st₄ => rw [hb] at IH P'; exact IH _ _ fun H₄ s₄ N₄ => P' _ _ (N13.trans N₄)
    | ret v σ' => rw [hb] at IH P'; exact IH _ _ (P'.nx (fr := .ret v σ') N13)
    | exc _ _ => rw [hb] at P'; exact P'.elim
    | stuck => rw [hb] at P'; exact P'.elim
  · have hjl : j = l.length := by omega
    subst hjl
    rw [List.drop_length] at P'
    simp only [forF] at P'
    exact W.done _ _ _ hst' fun h₂ tk₂ hk₂ => wpAny_execs_nil (P' H' _ (back hk₂))
end
end Mine
end
section
open PySem PySem.W PyProof.Rows
set_option linter.unusedVariables false
set_option linter.unusedSectionVars false
namespace Mine
section
variable {c : Cx} {k : Nat}
end
end Mine
end
section
open PySem PySem.W PyProof.Rows
set_option linter.unusedVariables false
set_option linter.unusedSectionVars false
set_option maxHeartbeats 4000000
namespace Mine

theorem ownOf_eq {st : Fs} {i : Nat} {xs : List AV} (h : ownOf st i = some xs) : st.ρ[i]? = some (some (.own xs)) := by
  unfold ownOf at h
  split at h
  · rename_i ys e; cases h; exact e
  · cases h

section
variable {c : Cx} {O : OpsF} (OK : OpsOk c O) {k : Nat} {cal : Cal} {fname : Nat → Str} (CO : CallsOk c k cal fname) {frees : List Str} (hfree : ∀ x ∈ frees, c.mg x = none)
include OK CO hfree

theorem ometh_ok {A : Around} {s : Shared} {H : Hd} {fe : FE} {env : Env} {ks : List (Str × NameKind)} {ns : List Str} {st : Fs} {xs : PEs} {m : OMI} {fz : Option Nat} {i : Nat} {sm : Stmt} {Q : Flow → Shared → Prop} {E : Value → Shared → Prop}
    (he : encS frees fname ks ns (.ometh i m xs fz) sm = true) (hks : env.scope.names = ks) (hm : Rm c true (k + 1) A s.heap) (F : Fm c (FrA A) ns env st fe H s.heap) (hlen : st.ρ.length = ns.length) (P : PostS c true A ns env fe st H (omethF O st i m (pes O cal true st xs)) s Q E) : wpAny c.M A (exec sm env) Q E s := by
  rw [es_ometh] at he
  obtain ⟨ex', pos, rfl, hz⟩ := onS_expr he
  replace he := hz; clear hz
  obtain ⟨o', n, apos, es, pos', rfl, hz⟩ := onMC_eq he
  replace he := hz; clear hz
  obtain ⟨x, px', rfl, hz⟩ := onE_name he
  replace he := hz; clear hz
  simp only [Bool.and_eq_true, Bool.not_eq_true', beq_iff_eq, decide_eq_true_eq] at he
  obtain ⟨⟨⟨⟨⟨⟨hx, hdb⟩, rfl⟩, hline⟩, hl20⟩, hemp⟩, hes⟩ := he
  obtain ⟨h1, h2, h3⟩ := nameAt_of hks hx
  refine wpAny_Expr_any ?_ (by unfold interactive; rw [F.kind]; rfl) rfl
  unfold omethF at P
  split at P
  case h_2 => exact P.elim
  rename_i ol σ hpes
  split at P
  case h_2 => exact P.elim
  rename_i l zs hpl hown
  split at P
  case h_2 => exact P.elim
  rename_i zs' hom
  have hρ := ownOf_eq hown
  obtain ⟨v, nv, hz, a, vs, rfl, ho, hisl, rr⟩ := F.vals i x _ h1 hρ
  obtain ⟨od, nd, ed, cd, dd, fd⟩ := id hisl
  refine wpAny_Call_method_lateS rfl (star_all hes hl20) (by simpa using hline) (wpAny_Name (nv.load F.kind ?_) hdb)
  have hTy : s.TypeIs (.ref a) "list" := hisl.isList.typeIs
  refine ⟨"list", "list." ++ m.name, emeth_plain, ometh_slot m, ometh_type m, hTy, fun b e => (by cases e; exact ⟨od, ed, fd⟩), ?_⟩
  refine Calls.callWith_builtin (star_plain (pos := pos') (env := env) hes) ?_
  cases es with
  | nil => simp at hemp
  | cons e es =>
    have hst : starEach (e :: es) env = (false, eval e env) :: starEach es env := starEach_cons (encEs_head hes)
    have S : wpAny c.M A (spliced (backTo pos' (starEach (e :: es) env))) (fun vs s' => wpAny c.M A (PySem.call (.builtin ("list." ++ m.name)) ([.ref a] ++ vs) []) (fun _ => Q .next) E s') E s := by
      refine pes_sound OK CO hfree xs hes hks hm F hlen ol σ hpes _ _ fun ws H₁ s₁ x₁ r₁ => ?_
      have N₁ := Nx.of_ss F hlen x₁
      have F₁ := N₁.fm
      obtain ⟨v', nv', _, a', vs', ev', ho', hisl', rr'⟩ := F₁.vals i x _ h1 hρ
      have ho1 : H₁.o i = some a := by rw [x₁.o]; exact ho
      rw [ho1] at ho'; cases ho'
      refine OK.ometh rfl (hm.nf x₁.nf) F₁.hlt hisl' hz rr' (plains_rep r₁ hpl) hom _ _ fun h' vs'' tk hl' hz' r' hs' => ?_
      exact P H₁ _ (nx_turn N₁ hρ ho1 hl' hz' r' hs')
    rw [hst] at S ⊢
    exact Calls.evalArgs_plain S

/-- except TypeError as n: return str(n) == e -/
theorem as_eq_ok {i : Nat} {e0 : PE} {x : EX} {ks : List (Str × NameKind)} {ns : List Str} {st : Fs} {hs : List ExceptHandler} {env : Env} {outer : List Env} {e : Addr} {A : Around} {s sr : Shared} {fe : FE} {H : Hd} {Q : Flow → Shared → Prop} {E : Value → Shared → Prop}
    (he : encHs frees fname ks ns (.asEq i e0) hs = true) (hks : env.scope.names = ks) (hm : Rm c true (k + 1) A sr.heap) (hA : A.frames = some (env :: outer)) (F : Fm c (FrA A) ns env st fe H sr.heap) (hlen : st.ρ.length = ns.length) (fl : Fly A (env :: outer) sr e x s)
    (P : PostS c true A ns env fe st H (phs O cal x st (.asEq i e0)) sr Q E) : wpAny c.M A (handleBy (.ref e) env hs) Q E s := by
  simp only [eh_asEq] at he
  obtain ⟨z, pz, n, b, pos, rfl, hz⟩ := onHdAs_eq he
  replace he := hz; clear hz
  simp only [Bool.and_eq_true, beq_iff_eq, List.contains_iff_mem, Bool.not_eq_true'] at he
  obtain ⟨⟨⟨⟨⟨⟨rfl, h2⟩, h3⟩, hx⟩, hloc⟩, hdb⟩, h6⟩ := he
  obtain ⟨g, pg, pn, pc, r, pcmp, pr, rfl, hz⟩ := onEqS_eq h6
  simp only [Bool.and_eq_true, beq_iff_eq, List.contains_iff_mem, Bool.not_eq_true'] at hz
  obtain ⟨⟨⟨⟨rfl, i2⟩, i3⟩, i4⟩, i5⟩ := hz
  rw [qh_asEq] at P
  cases x with
  | tm m =>
    simp only at P
    obtain ⟨g1, g2, g3⟩ := isGlob_of hks h2
    obtain ⟨j1, j2, j3⟩ := isGlob_of hks i2
    obtain ⟨n1, _, n3⟩ := nameAt_of hks hx
    have nk : env.kindOf n = some .local := by show env.scope.names.lookup n = _; rw [hks]; exact hloc
    obtain ⟨B, a0, h, tk, hs0, hag, hfl, kh, hB, hfr⟩ := id fl
    have kp : Kp A sr s := ⟨h, tk, hs0, kh⟩
    have Fs' : Fm c (FrA (A.mark (some (.ref e)))) ns env st fe H s.heap := F.kp kp
    have hfls : Heap.FlyingW B (env :: outer) e (.type "TypeError") a0 s.heap := by rw [hs0]; exact hfl
    have hags : EX.arg sr.heap s.heap a0 (.tm m) := by rw [hs0]; exact hag
    have hBs : ∀ b o, s.heap.get? b = some o → (∃ o', sr.heap.get? b = some o') → b ∉ (env :: outer).filterMap (·.frame) → B.get? b = some o := by rw [hs0]; exact hB
    obtain ⟨ob, hob, hobc⟩ := hfls.there
    refine wpAny_handleBy_builtin_as (X := "TypeError") (T := "TypeError") (b := true) (EX.exc .te) (EX.notTup .te) (EX.sub .te .te rfl rfl) (ld_boot Fs' g1 g2 g3 (hfree _ h3) (EX.boot .te) ⟨rfl, ⟨ob, hob, hobc⟩, ?_⟩)
    rw [if_pos rfl]
    refine lands_againW hfls fun h₆ hfl₆ hsm₆ => ?_
    have kh₆ : Kh (FrA A) sr.heap h₆ := fly_kh kp hA hfls.2.2.1 hBs hfl₆.1 hsm₆
    have kp₆ : Kp A sr { s with heap := h₆ } := by rw [hs0]; exact ⟨h₆, tk, rfl, kh₆⟩
    have F₆ := F.kp kp₆
    have hm₆ := hm.kp kp₆
    obtain ⟨t, u, rfl, hnew, ht⟩ := hags.on (h₂ := h₆) fun b o q1 q2 _ => hsm₆ b o q1 q2
    have hex : Heap.ExcAt h₆ e "TypeError" (.ref t) := let ⟨_, _, _, oe, vs, T, oT, ts, a1, a2, a3, _⟩ := hfl₆; ⟨oe, vs, a1, a2.1, a3, a2.2⟩
    have F₆' : Fm c (FrA (A.mark (some (.ref e)))) ns env st fe H h₆ := F₆
    refine wp_store (s := { s with heap := h₆ }) (i := i) (t := .val .any) F₆' n1 n3 (.inl nk) trivial fun h₇ tk₇ F₇ kv₇ nf₇ ⟨a, ha, hsb⟩ nv => ?_
    have nea : ∀ b o, h₆.get? b = some o → (∀ es ep, o.data ≠ .dict es ep) → (∀ v, o.data ≠ .cell v) → h₇.get? b = some o := fun b o e1 e2 e3 => by
      refine (hsb.2 b fun z => ?_).trans e1
      subst z
      rcases ha with rfl | ⟨y, _, ey⟩
      · obtain ⟨m, o', es, ep, e', d', _⟩ := F₆.ns
        rw [e1] at e'; cases e'; exact e2 _ _ d'
      · obtain ⟨cc, v, ec, o', e', d'⟩ := F₆.cl y (by assumption)
        rw [ey] at ec; cases ec
        rw [e1] at e'; cases e'; exact e3 _ d'
    have hex₇ : Heap.ExcAt h₇ e "TypeError" (.ref t) := let ⟨o, vs, a1, a2, a3, a4⟩ := hex; ⟨o, vs, nea e o a1 (fun _ _ z => by rw [a3] at z; cases z) (fun _ z => by rw [a3] at z; cases z), a2, a3, a4⟩
    have ht₇ : h₇.TupAt t [.str m u] := let ⟨o, i, a1, a2, a3⟩ := ht; ⟨o, i, nea t o a1 (fun _ _ z => by rw [a3] at z; cases z) (fun _ z => by rw [a3] at z; cases z), a2, a3⟩
    have kN : Nx c (A.mark (some (.ref e))) ns env fe st H sr (st.set i (.val .any)) H { s with heap := h₇, toks := tk₇ } := by
      have N₀ : Nx c (A.mark (some (.ref e))) ns env fe st H sr st H { s with heap := h₆ } := Nx.of_kp (A := A.mark (some (.ref e))) F hlen kp₆
      refine N₀.trans ⟨⟨_, _, rfl⟩, fun b o e1 => ?_, fun _ z => .inl z, kv₇, nf₇, fun _ _ e => e, F₇, by simpa using hlen, rfl, rfl⟩
      by_cases hb : H.p b
      · exact F₇.hlt b hb
      · obtain ⟨sl, q⟩ := (kv₇ b o hb e1).2; exact ⟨_, q⟩
    have hmk : Rm c false (k + 1) (A.mark (some (.ref e))) h₇ := ⟨hm₆.depth, hm₆.units, fun q => by (cases q), let ⟨l, e1, e2⟩ := hm₆.frames; ⟨l, e1, nf₇.frames e2⟩⟩
    refine wpAny_execs_cons (wpAny_Return_some (wpAny_Compare1 ?_ i5))
    refine wpAny_Call_NameR (ld_boot F₇ j1 j2 j3 (hfree _ i3) (BI.boot .str) ?_)
    have hst : starEach [Expr.Name n pn] env = [(false, eval (.Name n pn) env)] := by rw [starEach_cons fun _ _ z => by cases z]; rfl
    rw [hst]
    refine PySem.callWith_type rfl (Calls.evalArgs_plain (Calls.spliced_cons (wpAny_Name (nv.load F₇.kind (Calls.spliced_nil ?_)) hdb)))
    refine PySem.P.str_of_exc_one PySem.F.excStr_TypeError (by have := hm.units; show A.units + 2 < cLine; omega) hex₇ ht₇ ?_
    have hlen₇ : (st.set i (.val .any)).ρ.length = ns.length := by simpa using hlen
    have X := (pe_sound OK CO hfree e0 i4 hks (st := st.set i (.val .any)) (s := { s with heap := h₇, toks := tk₇ }) (q := false) hmk F₇ hlen₇).v
    cases hv : (pe O cal false (st.set i (.val .any)) e0).v with
    | exc _ _ => rw [hv] at P; exact P.elim
    | stuck => rw [hv] at P; exact P.elim
    | ok v σ' =>
      rw [hv] at P X
      cases v with
      | own _ => exact P.elim
      | av v =>
        cases v with
        | str y =>
          simp only at P
          cases hc : O.cmp .Eq (.str m) (.str y) with
          | none => rw [hc] at P; exact P.elim
          | some bb =>
            rw [hc] at P
            simp only at P
            refine X _ _ fun w H' s' x r => ?_
            have N₂ := kN.trans (Nx.of_ss F₇ hlen₇ x)
            refine OK.cmp (hmk.nf x.nf) N₂.fm.hlt (a := .str m) (b := .str y) ⟨u, rfl⟩ r hc _ _ fun w' s'' k'' r' => ?_
            have N₃ := N₂.trans (Nx.of_kp N₂.fm N₂.len k'')
            obtain ⟨mm, hmm⟩ := N₃.fm.ns
            refine wpAny_nameGoes nk hmm (by rw [F.kind]; rfl) fun h₉ m₉ hn₉ hs₉ => ?_
            have F₉ := N₃.fm.forget hs₉ hn₉
            have hb9 : ∀ b, b ≠ env.locals → h₉.get? b = s''.heap.get? b := hs₉.2
            refine P _ _ (Rt.mark (x := some (.ref e)) ?_)
            refine ⟨let ⟨h', t', e'⟩ := N₃.rest; ⟨h₉, t' + 1, by rw [e']⟩, fun b o e1 => ?_, N₃.nf.trans fun b o e1 nf => ?_, ⟨[], σ', st.lo, st.n0⟩, H', rfl, rfl, rfl, F₉, ?_⟩
            · obtain ⟨o', e2⟩ := N₃.lv b o e1
              by_cases hb : b = env.locals
              · obtain ⟨o3, _, _, e3, _⟩ := hn₉; exact ⟨o3, hb ▸ e3⟩
              · exact ⟨o', (hb9 b hb).trans e2⟩
            · by_cases hb : b = env.locals
              · obtain ⟨o3, _, _, e3, d3, _⟩ := hn₉; exact ⟨o3, hb ▸ e3, fun vs z => by rw [d3] at z; cases z⟩
              · exact ⟨o, (hb9 b hb).trans e1, nf⟩
            · simp only [Rep] at r' ⊢; exact r'
        | _ => exact P.elim
  | _ => exact P.elim
mutual
theorem px_sound : ∀ (p : PS) {q : Bool} {ks : List (Str × NameKind)} {ns : List Str} {st : Fs} {sm : Stmt} {env : Env}, encS frees fname ks ns p sm = true → env.scope.names = ks → env.frame = some env.locals → StOk c q k ns env st (exec sm env) (px O cal q st p)
  | .expr e, q, ks, ns, st, sm, env, he, hks, hef => fun A s fe H hm hA F hlen Q E P => by
    rw [es_expr] at he
    obtain ⟨ex, pos, rfl, hz⟩ := onS_expr he
    replace he := hz; clear hz
    simp only [Bool.and_eq_true, Bool.not_eq_true'] at he
    rw [qx_expr] at P
    refine wpAny_Expr_any ?_ (by unfold interactive; rw [F.kind]; rfl) (swaps_no he.1 he.2 _ _ _)
    exact PostS.resK F hlen (pe_sound OK CO hfree e he.1 hks hm F hlen).v P fun v σ₁ _ w H₁ s₁ N₁ _ P₁ => P₁ H₁ s₁ (Nx.of_kp N₁.fm N₁.len (Kp.refl _ _))
  | .assign i e, q, ks, ns, st, sm, env, he, hks, hef => fun A s fe H hm hA F hlen Q E P => by
    rw [es_assign] at he
    obtain ⟨x, px', ex, pos, rfl, hz⟩ := onA1_eq he
    replace he := hz; clear hz
    all_goals
      simp only [Bool.and_eq_true] at he
      rw [qx_assign] at P
      exact assign_val OK CO hfree hks hm F hlen he.1.1 he.1.2 (by simpa using he.2) P
  | .ownl i xs, q, ks, ns, st, sm, env, he, hks, hef => fun A s fe H hm hA F hlen Q E P => by
    rw [es_ownl] at he
    obtain ⟨x, px', ex', pos, rfl, hz⟩ := onA1_eq he
    replace he := hz; clear hz
    obtain ⟨es, pos', rfl, hz⟩ := onE_list he
    replace he := hz; clear hz
    all_goals
      simp only [Bool.and_eq_true] at he
      obtain ⟨h1, h2, h3⟩ := nameAt_of hks he.1
      rw [qx_ownl] at P
      split at P
      case h_2 => exact P.elim
      rename_i ol σ hpes
      split at P
      case h_2 => exact P.elim
      rename_i l hpl
      split at P
      case isFalse => exact P.elim
      rename_i hl100
      refine wpAny_Assign_Name ?_ rfl
      refine wpAny_List_spliced (pes_sound OK CO hfree xs he.2 hks hm F hlen ol σ hpes _ _ fun vs H₁ s₁ x₁ r₁ => ?_)
      have r₁ := plains_rep r₁ hpl
      refine ⟨by rw [r₁.length]; exact line_ok (by omega), ?_⟩
      exact nx_own (Nx.of_ss F hlen x₁) (Kp.push _) h1 h3 h2 (by omega) (Heap.get?_none_of_le (Nat.le_refl _)) ⟨_, _, Heap.get?_push_size _ rfl, rfl, rfl, rfl⟩ r₁ fun H' s' N => P H' s' N
  | .unpack2 i j a b, q, ks, ns, st, sm, env, he, hks, hef => fun A s fe H hm hA F hlen Q E P => by
    rw [es_unpack2] at he
    obtain ⟨tl, ex', pos, rfl, hz⟩ := onS_assign he
    replace he := hz; clear hz
    obtain ⟨t', rfl, hz⟩ := one?_eq he
    replace he := hz; clear hz
    obtain ⟨ts', k1, tp, rfl, hz⟩ := onE_tup he
    replace he := hz; clear hz
    obtain ⟨t1, t2, rfl, hz⟩ := two?_eq he
    replace he := hz; clear hz
    obtain ⟨es', k2, vp, rfl, hz⟩ := onE_tup he
    replace he := hz; clear hz
    obtain ⟨ea, eb, rfl, hz⟩ := two?_eq he
    replace he := hz; clear hz
    obtain ⟨x, px', rfl, hz⟩ := onNm_eq he
    replace he := hz; clear hz
    obtain ⟨y, py, rfl, hz⟩ := onNm_eq he
    replace he := hz; clear hz
    all_goals
      simp only [Bool.and_eq_true, Bool.not_eq_true', beq_iff_eq, beq_eq_false_iff_ne] at he
      obtain ⟨⟨⟨⟨⟨⟨⟨⟨⟨⟨hx, hy⟩, hij⟩, hlx⟩, hly⟩, hpl⟩, hxy⟩, hff⟩, hca⟩, hea⟩, heb⟩ := he
      obtain ⟨x1, x2, x3⟩ := nameAt_of hks hx
      obtain ⟨y1, y2, y3⟩ := nameAt_of hks hy
      rw [qx_unpack2] at P
      cases q with
      | false => exact P.elim
      | true =>
        simp only at P
        have kx : env.kindOf x = some .local := by show env.scope.names.lookup x = _; rw [hks]; exact hlx
        have ky : env.kindOf y = some .local := by show env.scope.names.lookup y = _; rw [hks]; exact hly
        have het : encE frees fname ks ns (.tup (.cons a (.cons b .nil))) (.Tuple [ea, eb] k2 vp) = true := by show encEs frees fname ks ns (.cons a (.cons b .nil)) [ea, eb] = true; simp [encEs, hea, heb]
        have hsw : swappedStores [.Tuple [.Name x px', .Name y py] k1 tp] (.Tuple [ea, eb] k2 vp) env = pure (some [x, y]) := swapped_two hks F.kind kx ky hpl hxy hff hca hea heb
        refine Assign_Tuple_swapped ?_ rfl hsw
        refine PostS.resK F hlen (pe_sound OK CO hfree _ het hks hm F hlen).v P fun v σ₁ _ w H₁ s₁ N₁ r₁ P₁ => ?_
        obtain ⟨x0, x1', rfl⟩ : ∃ x0 x1', v = .tup [x0, x1'] := by
          unfold unpackF at P₁
          split at P₁
          case h_2 => exact P₁.elim
          rename_i xs _
          split at P₁
          case isFalse => exact P₁.elim
          rename_i hl
          rcases xs with _ | ⟨x0, _ | ⟨x1', _ | ⟨x2, xr⟩⟩⟩
          · simp at hl
          · simp at hl
          · exact ⟨x0, x1', rfl⟩
          · simp at hl
        simp only [unpackF, List.length_cons, List.length_nil, if_true] at P₁
        simp only [Rep] at r₁
        obtain ⟨hz, ad, vs, n, rfl, ⟨nh, o, eo, co, dd, fd, _⟩, rr⟩ := r₁
        have ht : s₁.heap.IsTuple ad vs.toArray := ⟨o, eo, co, n, dd⟩
        rcases vs with _ | ⟨v0, _ | ⟨v1, _ | ⟨v2, vr⟩⟩⟩
        · simp [RepL] at rr
        · simp [RepL] at rr
        · have ht' : s₁.heap.IsTuple ad #[v0, v1] := ht
          have el : [x, y].length = 2 := rfl
          rw [el]
          refine unpack_pair (hm.hand rfl) ht' fun h' ext => ?_
          have kp : Kp A s₁ { s₁ with heap := h' } := ⟨h', s₁.toks, rfl, Kh.of_keeps fun b o e => ext b o (fun z => by rw [z] at e; exact absurd (Heap.lt_size e) (Nat.lt_irrefl _)) e⟩
          have N2 := Nx.of_kp N₁.fm N₁.len kp
          have rr := rr.kp kp
          simp only [RepL] at rr
          exact assign_pair N2.fm N2.len hij x1 x2 x3 y1 y2 y3 rr.1 rr.2.1 fun s' N => P₁ H₁ s' (N2.trans N)
        · simp [RepL] at rr
  | .ometh i m xs fz, q, ks, ns, st, sm, env, he, hks, hef => fun A s fe H hm hA F hlen Q E P => by
    rw [qx_ometh] at P
    cases q with
    | false => exact P.elim
    | true =>
    cases fz with
    | none => exact ometh_ok OK CO hfree he hks hm F hlen P
    | some j =>
      simp only at P
      split at P
      · rename_i ys hj
        have hj := ownOf_eq hj
        obtain ⟨y, hy⟩ : ∃ y, ns[j]? = some y := by
          have : j < st.ρ.length := by
            rcases Nat.lt_or_ge j st.ρ.length with h | h
            · exact h
            · rw [List.getElem?_eq_none h] at hj; cases hj
          exact ⟨ns[j]'(by omega), by simp⟩
        obtain ⟨H', hH', hM', F'⟩ := F.freeze hy hj
        have N : Nx c A ns env fe st H s (st.set j (.val (.lst ys))) H' s := ⟨⟨_, _, rfl⟩, fun b o e => ⟨o, e⟩, fun b z => .inl (hH' b z), Kv.refl _ _ _, fun b o e nf => ⟨o, e, nf⟩, fun n a e => by rw [hM']; exact e, F', by simpa using hlen, rfl, rfl⟩
        exact ometh_ok OK CO hfree (fz := some j) he hks hm F' N.len (P.nx N)
      · exact P.elim
  | .ite t a b, q, ks, ns, st, sm, env, he, hks, hef => fun A s fe H hm hA F hlen Q E P => by
    rw [es_ite] at he
    obtain ⟨t', a', b', pos, rfl, hz⟩ := onS_iff he
    replace he := hz; clear hz
    simp only [Bool.and_eq_true] at he
    obtain ⟨⟨h1, h2⟩, h3⟩ := he
    have T := (pe_sound OK CO hfree t h1 hks hm F hlen).t
    rw [qx_ite] at P
    split at P
    · rename_i σ ht
      exact wpAny_If (T _ _ ht _ _ fun H₁ s₁ x₁ => pxs_sound a h2 hks hef A s₁ fe H₁ (hm.nf x₁.nf) hA (F.ss x₁) hlen Q E (P.nx (Nx.of_ss F hlen x₁)))
    · rename_i σ ht
      exact wpAny_If (T _ _ ht _ _ fun H₁ s₁ x₁ => pxs_sound b h3 hks hef A s₁ fe H₁ (hm.nf x₁.nf) hA (F.ss x₁) hlen Q E (P.nx (Nx.of_ss F hlen x₁)))
    · exact P.elim
  | .for_ i src body, q, ks, ns, st, sm, env, he, hks, hef => fun A s fe H hm hA F hlen Q E P => by
    rw [es_for_] at he
    obtain ⟨t', it, body', els, pos, rfl, hz⟩ := onS_fo he
    replace he := hz; clear hz
    obtain ⟨x, px', rfl, hz⟩ := onE_name he
    replace he := hz; clear hz
    obtain ⟨rfl, hz⟩ := nil?_eq he
    replace he := hz; clear hz
    all_goals
      simp only [Bool.and_eq_true, Bool.not_eq_true'] at he
      obtain ⟨⟨⟨hx, h0⟩, h4⟩, h5⟩ := he
      obtain ⟨h1, h2, h3⟩ := nameAt_of hks hx
      rw [qx_for_] at P
      split at P
      case h_2 => exact P.elim
      rename_i v σ hv
      have T := (pe_sound OK CO hfree src h4 hks hm F hlen).v
      rw [hv] at T
      split at P
      case h_2 => exact P.elim
      rename_i l hi
      refine for_core OK hm F hlen (encE_notSet h4 h0 env) T hi (f := fun x st => pxs O cal true (st.set i (.val x)) body) P ?_
      intro item w st' H' s' hnf F' hl' r _ Q' E' h
      refine wpAny_assign_Name (nx_store (Nx.of_kp F' hl' (Kp.refl _ _)) h1 h3 h2 r fun s₃ N13 N3 => ?_)
      exact h _ H' s₃ N3 fun Q E P => pxs_sound body h5 hks hef A s₃ fe H' (hm.nf (hnf.trans N3.nf)) hA N3.fm N3.len Q E P
  | .while_ n t body, q, ks, ns, st, sm, env, he, hks, hef => fun A s fe H hm hA F hlen Q E P => by
    rw [es_while_] at he
    obtain ⟨t', body', els, pos, rfl, hz⟩ := onS_wh he
    replace he := hz; clear hz
    obtain ⟨rfl, hz⟩ := nil?_eq he
    replace he := hz; clear hz
    all_goals
      simp only [Bool.and_eq_true] at he
      obtain ⟨h1, h2⟩ := he
      rw [qx_while_] at P
      refine wpAny_While ?_
      refine codeAny_whileLoop (fun m s' => ∃ st' H', Nx c A ns env fe st H s st' H' s' ∧ PostS c q A ns env fe st H (whileF (fun st => (pe O cal q st t).t) (fun st => pxs O cal q st body) m st') s Q E) ?_ n ⟨st, H, Nx.of_kp F hlen (Kp.refl _ _), P⟩
      rintro m s' ⟨st', H', N, P'⟩
      cases m with
      | zero => exact P'.elim
      | succ m =>
        have hm' := hm.nf N.nf
        have T := (pe_sound OK CO hfree t h1 hks hm' N.fm N.len).t
        simp only [whileF] at P'
        split at P'
        · rename_i σ ht
          refine T _ _ ht _ _ fun H₁ s₁ x₁ => ?_
          have N₁ := N.trans (Nx.of_ss N.fm N.len x₁)
          simp only [if_true]
          refine pxs_sound body h2 hks hef A s₁ fe H₁ (hm'.nf x₁.nf) hA N₁.fm N₁.len _ _ ?_
          cases hb : pxs O cal q (st'.at σ) body with
          | next st₂ => rw [hb] at P'; exact fun H₂ s₂ N₂ => ⟨m, by omega, st₂, H₂, N₁.trans N₂, P'⟩
          | cont st₂ => rw [hb] at P'; exact fun H₂ s₂ N₂ => ⟨m, by omega, st₂, H₂, N₁.trans N₂, P'⟩
          | brk st₂ => rw [hb] at P'; exact fun H₂ s₂ N₂ => P' _ _ (N₁.trans N₂)
          | ret v σ' => rw [hb] at P'; exact (P'.nx (fr := .ret v σ') N₁)
          | exc _ _ => rw [hb] at P'; exact P'.elim
          | stuck => rw [hb] at P'; exact P'.elim
        · rename_i σ ht
          refine T _ _ ht _ _ fun H₁ s₁ x₁ => ?_
          have N₁ := N.trans (Nx.of_ss N.fm N.len x₁)
          simp only [Bool.false_eq_true, if_false]
          exact wpAny_execs_nil (P' _ _ N₁)
        · exact P'.elim
  | .ret e, q, ks, ns, st, sm, env, he, hks, hef => fun A s fe H hm hA F hlen Q E P => by
    rw [es_ret] at he
    obtain ⟨o', pos, rfl, hz⟩ := onS_ret he
    replace he := hz; clear hz
    obtain ⟨ex, rfl, hz⟩ := opt?_eq he
    replace he := hz; clear hz
    rw [qx_ret] at P
    refine wpAny_Return_some (PostS.resK F hlen (pe_sound OK CO hfree e he hks hm F hlen).v P fun v σ₁ _ w H₁ s₁ N₁ r₁ P₁ => ?_)
    exact P₁ w s₁ (N₁.fm.rt r₁)
  | .retOwn i, q, ks, ns, st, sm, env, he, hks, hef => fun A s fe H hm hA F hlen Q E P => by
    rw [es_retOwn] at he
    obtain ⟨o', pos, rfl, hz⟩ := onS_ret he
    replace he := hz; clear hz
    obtain ⟨ex, rfl, hz⟩ := opt?_eq he
    replace he := hz; clear hz
    obtain ⟨x, px', rfl, hz⟩ := onE_name he
    replace he := hz; clear hz
    simp only [Bool.and_eq_true, Bool.not_eq_true', beq_iff_eq] at he
    rw [qx_retOwn] at P
    split at P
    case h_2 => exact P.elim
    rename_i xs hown
    obtain ⟨v, n, z, a, vs, rfl, ho, l, r⟩ := F.vals i x _ he.1 (ownOf_eq hown)
    obtain ⟨p, qq, nm, _⟩ := F.own i a ho
    refine wpAny_Return_some (wpAny_Name (n.load F.kind (P _ s ⟨⟨_, _, rfl⟩, fun b o e => ⟨o, e⟩, fun b o e n => ⟨o, e, n⟩, st, H, rfl, rfl, rfl, F, ?_⟩)) he.2)
    simp only [Rep]
    obtain ⟨o, n', e', c1, d1, f1⟩ := l
    refine ⟨z, a, vs, n', rfl, ⟨fun y => ?_, o, e', c1, d1, f1, .inl rfl, fun ⟨_, z⟩ => by cases z⟩, RepL.mono (vis_hide (H := retH fe st.n0 H) (H' := H) (fun b z => by
      rcases z with z | ⟨n, _, e⟩
      · exact F.hle b z
      · exact F.sto.hidden e) fun _ _ e => e) r⟩
    rcases y with y | ⟨m, _, e⟩
    · obtain ⟨o', e''⟩ := F.felt a y
      rw [qq] at e''; cases e''
    · exact nm m e
  | .brk, q, ks, ns, st, sm, env, he, hks, hef => fun A s fe H hm hA F hlen Q E P => by
    rw [es_brk] at he
    obtain ⟨pos, rfl⟩ := onS_brk he
    exact wpAny_Break (P _ _ (Nx.of_kp F hlen (Kp.refl _ _)))
  | .cont, q, ks, ns, st, sm, env, he, hks, hef => fun A s fe H hm hA F hlen Q E P => by
    rw [es_cont] at he
    obtain ⟨pos, rfl⟩ := onS_cont he
    exact wpAny_Continue (P _ _ (Nx.of_kp F hlen (Kp.refl _ _)))
  | .try_ body hs, q, ks, ns, st, sm, env, he, hks, hef => fun A s fe H hm hA F hlen Q E P => by
    rw [es_try_] at he
    obtain ⟨body', hs', els, fin, pos, rfl, hz⟩ := onS_tr he
    replace he := hz; clear hz
    obtain ⟨rfl, hz⟩ := nil?_eq he
    replace he := hz; clear hz
    obtain ⟨rfl, hz⟩ := nil?_eq he
    replace he := hz; clear hz
    all_goals
      simp only [Bool.and_eq_true] at he
      obtain ⟨⟨h1, h2⟩, h3⟩ := he
      rw [qx_try_] at P
      cases q with
      | false => exact P.elim
      | true =>
        simp only at P
        obtain ⟨outer, hA'⟩ := id hA
        have IH := pxs_sound body h1 hks hef (q := true) (st := st) A s fe H hm hA F hlen
        cases hs' with
        | nil => simp at h3
        | cons h0 hr =>
          refine wpAny_Try_except ?_
          cases hb : pxs O cal true st body with
          | exc x st' =>
            rw [hb] at P IH
            refine IH _ _ ⟨rfl, fun H' sr e s' N X => ?_⟩
            obtain ⟨ea, a0, rfl, hkp, _, _⟩ := id X
            have hm' := hm.nf N.nf
            obtain ⟨l, hl, ff⟩ := (hm'.kp hkp).frames
            rw [hA'] at hl; cases hl
            exact note_land X hA' hef ff (by obtain ⟨l, hl, ff⟩ := hm'.frames; rw [hA'] at hl; cases hl; exact ff) fun s₃ fl => phs_sound hs h2 hks hef hm' hA' N.fm N.len fl (P.nx N)
          | next st' => rw [hb] at P IH; exact IH _ _ fun H' s' N => wpAny_execs_nil (P _ _ N)
          | brk st' => rw [hb] at P IH; exact IH _ _ P
          | cont st' => rw [hb] at P IH; exact IH _ _ P
          | ret v σ => rw [hb] at P IH; exact IH _ _ P
          | stuck => rw [hb] at P; exact P.elim
  | .raiseM e, q, ks, ns, st, sm, env, he, hks, hef => fun A s fe H hm hA F hlen Q E P => by
    rw [es_raiseM] at he
    obtain ⟨o', cs, pos, rfl, hz⟩ := onS_raise he
    replace he := hz; clear hz
    obtain ⟨ec, rfl, hz⟩ := opt?_eq he
    replace he := hz; clear hz
    obtain ⟨rfl, hz⟩ := non?_eq he
    replace he := hz; clear hz
    obtain ⟨x, px', es', cp, rfl, hz⟩ := onNC_eq he
    replace he := hz; clear hz
    obtain ⟨ex, rfl, hz⟩ := one?_eq he
    replace he := hz; clear hz
    simp only [Bool.and_eq_true, beq_iff_eq, List.contains_iff_mem] at he
    obtain ⟨⟨⟨h1, h2⟩, h3⟩, h4⟩ := he
    obtain ⟨g1, g2, g3⟩ := isGlob_of hks h2
    rw [qx_raiseM] at P
    cases q with
    | false => exact P.elim
    | true =>
      simp only at P
      have hst : starEach [ex] env = [(false, eval ex env)] := by rw [starEach_cons (encE_notStar h4)]; rfl
      obtain ⟨nid, iid, E1, E2⟩ := EX.facts (y := .te) (.inl rfl)
      refine wpAny_Raise_call E1 E2 (hm.hand rfl) (by rw [hst]; rfl) (ld_boot F g1 g2 g3 (hfree x h3) (by rw [h1]; exact EX.boot .te) ⟨rfl, ?_⟩)
      rw [hst]
      refine Calls.evalArgs_plain (Calls.spliced_cons (PostS.resK F hlen (pe_sound OK CO hfree e h4 hks hm F hlen).v P fun v σ₁ _ w H₁ s₁ N₁ r₁ P₁ => Calls.spliced_nil ⟨rfl, by simp [show sizeLine = 16777216 from by decide], fun h' ea hmade => ?_⟩))
      cases v with
      | str m =>
        obtain ⟨u, rfl⟩ := r₁
        exact P₁.2 H₁ s₁ _ _ (Nx.of_kp N₁.fm N₁.len (Kp.refl _ _)) (xp_madeM hmade)
      | _ => exact P₁.elim
theorem pxs_sound : ∀ (p : PSs) {q : Bool} {ks : List (Str × NameKind)} {ns : List Str} {st : Fs} {sm : List Stmt} {env : Env}, encSs frees fname ks ns p sm = true → env.scope.names = ks → env.frame = some env.locals → StOk c q k ns env st (execs sm env) (pxs O cal q st p)
  | .nil, q, ks, ns, st, sm, env, he, hks, hef => fun A s fe H hm hA F hlen Q E P => by
    cases sm with
    | cons _ _ => simp [ess_nil, ess_cons, ess_frz] at he
    | nil => simp only [qxs_nil, qxs_cons, qxs_frz] at P; exact wpAny_execs_nil (P _ _ (Nx.of_kp F hlen (Kp.refl _ _)))
  | .cons p r, q, ks, ns, st, sm, env, he, hks, hef => fun A s fe H hm hA F hlen Q E P => by
    cases sm with
    | nil => simp [ess_nil, ess_cons, ess_frz] at he
    | cons sm rest =>
      simp only [ess_nil, ess_cons, ess_frz, Bool.and_eq_true] at he
      refine wpAny_execs_cons (px_sound p he.1 hks hef A s fe H hm hA F hlen _ _ ?_)
      simp only [qxs_nil, qxs_cons, qxs_frz] at P
      cases hp : px O cal q st p with
      | next st' => rw [hp] at P; exact fun H' s' N => pxs_sound r he.2 hks hef A s' fe H' (hm.nf N.nf) hA N.fm N.len Q E (P.nx N)
      | cont st' => rw [hp] at P; exact P
      | brk st' => rw [hp] at P; exact P
      | ret v σ => rw [hp] at P; exact P
      | exc x st' => rw [hp] at P; exact P
      | stuck => rw [hp] at P; exact P
  | .frz j r, q, ks, ns, st, sm, env, he, hks, hef => fun A s fe H hm hA F hlen Q E P => by
    simp only [ess_nil, ess_cons, ess_frz] at he
    simp only [qxs_nil, qxs_cons, qxs_frz] at P
    split at P
    · rename_i ys hj
      have hj := ownOf_eq hj
      obtain ⟨y, hy⟩ : ∃ y, ns[j]? = some y := by
        have : j < st.ρ.length := by
          rcases Nat.lt_or_ge j st.ρ.length with h | h
          · exact h
          · rw [List.getElem?_eq_none h] at hj; cases hj
        exact ⟨ns[j]'(by omega), by simp⟩
      obtain ⟨H', hH', hM', F'⟩ := F.freeze hy hj
      have N : Nx c A ns env fe st H s (st.set j (.val (.lst ys))) H' s := ⟨⟨_, _, rfl⟩, fun b o e => ⟨o, e⟩, fun b z => .inl (hH' b z), Kv.refl _ _ _, fun b o e nf => ⟨o, e, nf⟩, fun n a e => by rw [hM']; exact e, F', by simpa using hlen, rfl, rfl⟩
      exact pxs_sound r he hks hef A s fe H' hm hA F' N.len Q E (P.nx N)
    · exact P.elim
theorem phs_sound : ∀ (p : PHs) {x : EX} {ks : List (Str × NameKind)} {ns : List Str} {st : Fs} {hs : List ExceptHandler} {env : Env} {outer : List Env} {e : Addr} {A : Around} {s sr : Shared} {fe : FE} {H : Hd} {Q : Flow → Shared → Prop} {E : Value → Shared → Prop},
    encHs frees fname ks ns p hs = true → env.scope.names = ks → env.frame = some env.locals → Rm c true (k + 1) A sr.heap → A.frames = some (env :: outer) → Fm c (FrA A) ns env st fe H sr.heap → st.ρ.length = ns.length → Fly A (env :: outer) sr e x s →
    PostS c true A ns env fe st H (phs O cal x st p) sr Q E → wpAny c.M A (handleBy (.ref e) env hs) Q E s
  | .nil, x, ks, ns, st, hs, env, outer, e, A, s, sr, fe, H, Q, E, he, hks, hef, hm, hA, F, hlen, fl, P => P.elim
  | .cons y body r, x, ks, ns, st, hs, env, outer, e, A, s, sr, fe, H, Q, E, he, hks, hef, hm, hA, F, hlen, fl, P => by
    simp only [eh_nil, eh_cons] at he
    obtain ⟨z, pz, b₀, suite, pos, r', rfl, hz⟩ := onHd_eq he
    replace he := hz; clear hz
    all_goals
      simp only [Bool.and_eq_true, beq_iff_eq, List.contains_iff_mem] at he
      obtain ⟨⟨⟨⟨h1, h2⟩, h3⟩, h4⟩, h5⟩ := he
      subst h1
      obtain ⟨g1, g2, g3⟩ := isGlob_of hks h2
      obtain ⟨B, a0, h, tk, hs0, _, hfl, kh, hB, hfr⟩ := id fl
      have kp : Kp A sr s := ⟨h, tk, hs0, kh⟩
      have Fs := F.kp kp
      have Fs' : Fm c (FrA (A.mark (some (.ref e)))) ns env st fe H s.heap := Fs
      have hfls : Heap.FlyingW B (env :: outer) e (.type x.name) a0 s.heap := by rw [hs0]; exact hfl
      have hBs : ∀ b o, s.heap.get? b = some o → (∃ o', sr.heap.get? b = some o') → b ∉ (env :: outer).filterMap (·.frame) → B.get? b = some o := by rw [hs0]; exact hB
      obtain ⟨ob, hob, hobc⟩ := hfls.there
      simp only [qh_nil, qh_cons] at P
      by_cases hpl : (x.plain && y.plain) = true
      case neg => rw [if_neg hpl] at P; exact P.elim
      rw [if_pos hpl] at P
      obtain ⟨hp1, hp2⟩ := and_two hpl
      refine wpAny_handleBy_builtin (X := x.name) (T := y.name) (b := decide (x = y)) (EX.exc y) (EX.notTup y) (EX.sub x y hp1 hp2) (ld_boot Fs' g1 g2 g3 (hfree _ h3) (EX.boot y) ⟨rfl, ⟨ob, hob, hobc⟩, ?_⟩)
      by_cases hxy : x = y
      · rw [if_pos hxy] at P
        rw [if_pos (by simpa using hxy)]
        refine lands_againW hfls fun h₆ hfl₆ hsm₆ => ?_
        have kh₆ : Kh (FrA A) sr.heap h₆ := fly_kh kp hA hfls.2.2.1 hBs hfl₆.1 hsm₆
        have kp₆ : Kp A sr { s with heap := h₆ } := by rw [hs0]; exact ⟨h₆, tk, rfl, kh₆⟩
        have F₆ := F.kp kp₆
        have hm₆ := hm.kp kp₆
        have hmk : Rm c false (k + 1) (A.mark (some (.ref e))) h₆ := ⟨hm₆.depth, hm₆.units, fun q => by (cases q), hm₆.frames⟩
        have IH := pxs_sound body h4 hks hef (q := false) (st := st) (A.mark (some (.ref e))) { s with heap := h₆ } fe H hmk ⟨outer, hA⟩ F₆ hlen
        have Nk := Nx.of_kp F hlen kp₆
        have P' := P.nx Nk
        cases hb : pxs O cal false st body with
        | next st' => rw [hb] at P' IH; exact IH _ _ fun H' s' N => P' H' s' N.mark
        | brk st' => rw [hb] at P' IH; exact IH _ _ fun H' s' N => P' H' s' N.mark
        | cont st' => rw [hb] at P' IH; exact IH _ _ fun H' s' N => P' H' s' N.mark
        | ret v σ => rw [hb] at P' IH; exact IH _ _ fun w s' N => P' w s' N.mark
        | exc _ _ => rw [hb] at P'; exact P'.elim
        | stuck => rw [hb] at P'; exact P'.elim
      · rw [if_neg hxy] at P
        rw [if_neg (by simpa using hxy)]
        exact phs_sound r h5 hks hef hm hA F hlen fl P
  | .asEq i e0, x, ks, ns, st, hs, env, outer, e, A, s, sr, fe, H, Q, E, he, hks, hef, hm, hA, F, hlen, fl, P => as_eq_ok OK CO hfree he hks hm hA F hlen fl P
end
end
end Mine
end
section
open PySem PySem.W PyProof.Rows
set_option linter.unusedVariables false
set_option linter.unusedSectionVars false
namespace Mine

theorem cellsFrom_keep : ∀ (names : List (Str × NameKind)) (n : Nat) (acc : List (Str × Addr)) (x : Str), (acc.lookup x).isSome = true → ((cellsFrom n names acc).lookup x).isSome = true
  | [], _, _, _, h => h
  | (m, kd) :: r, n, acc, x, h => by
    unfold cellsFrom
    split
    · refine cellsFrom_keep r _ _ x ?_
      rw [List.lookup_cons]
      cases hb : x == m with
      | true => rfl
      | false => exact h
    · exact cellsFrom_keep r _ _ x h
theorem cellsFrom_mem : ∀ (names : List (Str × NameKind)) (n : Nat) (acc : List (Str × Addr)) (x : Str), (x, NameKind.cell) ∈ names → ((cellsFrom n names acc).lookup x).isSome = true
  | [], _, _, _, h => by cases h
  | (m, kd) :: r, n, acc, x, h => by
    unfold cellsFrom
    rcases List.mem_cons.mp h with e | h
    · cases e
      rw [if_pos (by decide)]
      refine cellsFrom_keep r _ _ _ ?_
      simp [List.lookup_cons]
    · split
      · exact cellsFrom_mem r _ _ x h
      · exact cellsFrom_mem r _ _ x h

theorem bindL_out {kd : Str → Option NameKind} : ∀ (ns : List Str) (vs : List Value) (m : Str → Option Value) (x : Str), x ∉ ns → bindL kd (ns.zip vs) m x = m x
  | [], _, _, _, _ => rfl
  | _ :: _, [], _, _, _ => rfl
  | n :: ns, v :: vs, m, x, h => by
    simp only [List.zip_cons_cons, bindL]
    rw [bindL_out ns vs _ x fun q => h (List.mem_cons_of_mem _ q)]
    have : x ≠ n := fun q => h (q ▸ List.mem_cons_self ..)
    split <;> simp [this]
theorem bindL_in {kd : Str → Option NameKind} : ∀ (ns : List Str) (vs : List Value) (m : Str → Option Value) (i : Nat) (x : Str) (v : Value), ns.Nodup → ns[i]? = some x → vs[i]? = some v → kd x = some .local → bindL kd (ns.zip vs) m x = some v
  | [], _, _, _, _, _, _, h, _, _ => by simp at h
  | _ :: _, [], _, _, _, _, _, _, h, _ => by simp at h
  | n :: ns, w :: vs, m, i, x, v, nd, hx, hv, hk => by
    simp only [List.zip_cons_cons, bindL]
    cases i with
    | zero =>
      simp at hx hv
      subst hx; subst hv
      rw [bindL_out ns vs _ _ (List.nodup_cons.mp nd).1, if_pos hk]
      simp
    | succ i => simp at hx hv; exact bindL_in ns vs _ i x v (List.nodup_cons.mp nd).2 hx hv hk
theorem bindC_out {kd : Str → Option NameKind} : ∀ (ns : List Str) (vs : List Value) (m : Str → Option Value) (x : Str), x ∉ ns → bindC kd (ns.zip vs) m x = m x
  | [], _, _, _, _ => rfl
  | _ :: _, [], _, _, _ => rfl
  | n :: ns, v :: vs, m, x, h => by
    simp only [List.zip_cons_cons, bindC]
    rw [bindC_out ns vs _ x fun q => h (List.mem_cons_of_mem _ q)]
    have : x ≠ n := fun q => h (q ▸ List.mem_cons_self ..)
    split <;> simp [this]
theorem bindC_in {kd : Str → Option NameKind} : ∀ (ns : List Str) (vs : List Value) (m : Str → Option Value) (i : Nat) (x : Str) (v : Value), ns.Nodup → ns[i]? = some x → vs[i]? = some v → kd x ≠ some .local → bindC kd (ns.zip vs) m x = some v
  | [], _, _, _, _, _, _, h, _, _ => by simp at h
  | _ :: _, [], _, _, _, _, _, _, h, _ => by simp at h
  | n :: ns, w :: vs, m, i, x, v, nd, hx, hv, hk => by
    simp only [List.zip_cons_cons, bindC]
    cases i with
    | zero =>
      simp at hx hv
      subst hx; subst hv
      rw [bindC_out ns vs _ _ (List.nodup_cons.mp nd).1, if_neg hk]
      simp
    | succ i => simp at hx hv; exact bindC_in ns vs _ i x v (List.nodup_cons.mp nd).2 hx hv hk

/-- a def of the text; n values come in, the rest are its own -/
noncomputable def FnAt (c : Cx) (f : Str) (body : List Stmt) (scope : Scope) (ns : List Str) (np n : Nat) (xs : List AV) : Prop :=
  ∃ a o fd vs0, c.mg f = some (.ref a) ∧ c.h0.get? a = some o ∧ o.data = .func fd ∧ fd.body = .stmts body ∧ fd.scope = scope ∧ fd.globals = mainGlobals ∧ fd.closure = [] ∧ fd.builtins = builtinsNs ∧ fd.qualname = f ∧ c.h0.CodeRec fd.code f ∧
    (∀ R : Vw, RepL R vs0 xs) ∧ ∀ (s : Shared) vs, c.h0.StaysIn s.heap → vs.length = n → BindsTo s fd ⟨vs, []⟩ ((ns.take np).zip (vs ++ vs0))
theorem FnAt.obj {c : Cx} {f : Str} {body : List Stmt} {scope : Scope} {ns : List Str} {np n : Nat} {xs : List AV} (h : FnAt c f body scope ns np n xs) : FnObj c f := let ⟨a, o, fd, _, h1, h2, h3, _⟩ := h; ⟨a, o, fd, h1, h2, h3⟩
/-- a def is entered -/
theorem enter_def {prog : Program} {w : World} {A : Around} {R : Result → Shared → Prop} {s : Shared} {name : Str} {body : List Stmt} {scope : Scope} {fd : FuncData} {a : Addr} {o : Obj} {args : List Value} {binds : List (Str × Value)}
    (hroom : A.depth < recursionLimit) (ho : s.heap.get? a = some o) (hdata : o.data = .func fd) (hlim : s.heap.NoLimit) (hcd : s.heap.CodeRec fd.code name)
    (e1 : fd.body = .stmts body) (e2 : fd.scope = scope) (e3 : fd.globals = mainGlobals) (e4 : fd.closure = []) (e5 : fd.builtins = builtinsNs) (e6 : fd.qualname = name)
    (hbind : BindsTo s fd ⟨args, []⟩ binds)
    (hkind : ∀ x ∈ binds, scope.names.lookup x.1 = some .local ∨ (scope.names.lookup x.1 = some .cell ∧ ((cellsFrom (s.heap.objs.size + 1) scope.names []).lookup x.1).isSome = true))
    (h : ∀ h₁ tk, Fr s.heap s.heap.objs.size h₁ (bindL (envOfC name scope s.heap.objs.size a fd.code).kindOf binds fun _ => none) →
      Cl s.heap.objs.size (cellsFrom (s.heap.objs.size + 1) scope.names []) h₁ (bindC (envOfC name scope s.heap.objs.size a fd.code).kindOf binds fun _ => none) →
      wpAny (model prog w) (A.deeper (envOfC name scope s.heap.objs.size a fd.code)) (execs body (envOfC name scope s.heap.objs.size a fd.code))
        (fun f s' => R (.ok (.ret (match f with | .ret v => v | _ => .none))) s')
        (fun e s' => wpAny (model prog w) (A.deeper (envOfC name scope s.heap.objs.size a fd.code)) (leaving (envOfC name scope s.heap.objs.size a fd.code) e)
          (fun _ s'' => R (.error e) s'') (fun e' s'' => R (.error e') s'') s')
        { s with heap := h₁, toks := tk })
    (hco : scope.isCoroutine = false) (hgen : scope.isGenerator = false) (hk : scope.kind = .function) :
    codeAny (model prog w) A (.call (.ref a) ⟨args, []⟩) R s := by
  have ee : callEnvC fd s.heap.objs.size a = envOfC name scope s.heap.objs.size a fd.code := by
    subst e2; subst e6
    unfold callEnvC envOfC
    simp only [e3, e5]
    rfl
  rw [← ee] at h
  subst e2; subst e6
  refine codeAny_call_function hroom ho hdata hco hgen e1 hcd (hbind _ _ _ _ ?_)
  rw [e4]
  refine wpAny_newFunctionEnv_cells hk hkind fun env he s' x => ?_
  subst he
  refine ⟨hlim.keeps x.toInCall.keep, codeAny_func ?_⟩
  obtain ⟨h₁, tk, rfl, _⟩ := x.done
  have x' := x.toInCall
  exact h h₁ tk ⟨x'.ns, x'.keep, x'.fresh⟩ ⟨x.cell, x.apart, x.above⟩

noncomputable def fnRes : FR → ER
  | .ret v σ => .ok (.av v) σ
  | .next st => .ok (.av .none) st.σ
  | .exc x st => .exc x st.σ
  | _ => .stuck
noncomputable def rho0 (args : List AV) (n : Nat) : List (Option Ent) := args.map (fun a => some (.val a)) ++ List.replicate (n - args.length) none
/-- a def's beginning -/
noncomputable def st0 (args : List AV) (n : Nat) (σ : Store) (lo : Nat) : Fs := ⟨rho0 args n, σ, lo, σ.length⟩

/-- what is looked at of a def's text -/
noncomputable def fnOk (frees : List Str) (fname : Nat → Str) (scope : Scope) (ns : List Str) (np : Nat) (p : PSs) (body : List Stmt) : Bool :=
  scope.kind == .function && !scope.isGenerator && !scope.isCoroutine && encSs frees fname scope.names ns p body && decide ((ns.take np).Nodup) && decide (np ≤ ns.length) && (ns.take np).all (fun x => scope.names.lookup x == some .local || scope.names.lookup x == some .cell)

/-- what the caller gets -/
theorem ret_ss {c : Cx} {A A' : Around} {ns : List Str} {env : Env} {st' : Fs} {σ : Store} {lo : Nat} {H H' : Hd} {s s' : Shared} (S : Sto σ H s.heap) (F : Fm c (FrA A') ns env st' ⟨s.heap, H, Wr σ H lo⟩ H' s'.heap) (hn : st'.n0 = σ.length) (hF : ∀ b o, s.heap.get? b = some o → FrA A' b → FrA A b)
    (rest : ∃ h' tk, s' = { s with heap := h', toks := tk }) (lv : ∀ b o, s.heap.get? b = some o → ∃ o', s'.heap.get? b = some o') (nf : Nf s.heap s'.heap) : Ss A lo σ H s st'.σ (retH ⟨s.heap, H, Wr σ H lo⟩ σ.length H') s' := by
  have sub : ∀ b, (retH ⟨s.heap, H, Wr σ H lo⟩ σ.length H').p b → H'.p b := fun b z => by
    rcases z with z | ⟨n, _, e⟩
    · exact F.hle b z
    · exact F.sto.hidden e
  have old : ∀ n b, n < σ.length → H'.m n = some b → H.m n = some b := fun n b l e => F.mold n b (by rw [hn]; exact l) e
  exact {
    rest := rest
    kv := fun b o n e => by
      obtain ⟨p1, p2⟩ := F.keep b o n e
      exact ⟨fun f => p1 (f.imp (fun f z => f (hF b o e z)) id), p2⟩
    lv := lv
    nf := nf
    hp := fun b z => .inl z
    hid := fun b z => by
      rcases z with z | ⟨n, l, e⟩
      · exact .inl z
      · exact .inr (F.mnew n b (by rw [hn]; exact l) e)
    mx := fun n b e => F.mle n b e
    mn := fun n b e => by
      rcases Nat.lt_or_ge n σ.length with l | l
      · exact .inl (old n b l e)
      · exact .inr ⟨l, F.mnew n b (by rw [hn]; exact l) e⟩
    o := rfl
    sto := ⟨fun n mo e => by
        obtain ⟨b, e1, r⟩ := F.sto.at' n mo e
        exact ⟨b, e1, r.kv (Kv.refl (fun _ => False) (fun _ => False) _) id (vis_hide (H := retH ⟨s.heap, H, Wr σ H lo⟩ σ.length H') (H' := H') sub fun _ _ e => e)⟩, F.sto.inj, F.sto.lt, fun n b mo _ e => by
        rcases Nat.lt_or_ge n σ.length with l | l
        · exact .inl (S.hidden (old n b l e))
        · exact .inr ⟨n, l, e⟩, F.sto.al, F.sto.tot⟩
    live := fun b z => F.hlt b (sub b z)
    len := by have := F.n0le; omega
    rv := fun n mo l e => by
      obtain ⟨b, e1, _⟩ := F.sto.at' n mo e
      exact S.tot n b (old n b l e1)
    hm0 := S.lt }

section
variable {c : Cx} {O : OpsF} (OK : OpsOk c O) {k : Nat} {cal : Cal} {fname : Nat → Str} (CO : CallsOk c k cal fname) {frees : List Str} (hfree : ∀ x ∈ frees, c.mg x = none)
include OK CO hfree

theorem code_of {f : Str} {body : List Stmt} {scope : Scope} {ns : List Str} {np n : Nat} {p : PSs} {args xs : List AV} {σ : Store} {lo : Nat} (hf : FnAt c f body scope ns np n xs) (hok : fnOk frees fname scope ns np p body = true)
    (hargs : args.length = n) (hnp : n + xs.length = np) :
    ∀ {A : Around} {s : Shared} {H : Hd} {vs : List Value} {a : Addr} {Q E : Value → Shared → Prop}, Rm c true (k + 2) A s.heap → c.h0.StaysIn s.heap → Live H s.heap → Sto σ H s.heap → (∀ n a, H.m n = some a → c.h0.get? a = none) → RepL (vis s.heap H) vs args → c.mg f = some (.ref a) →
      PostE true A lo σ H (fnRes (pxs O cal true (st0 (args ++ xs) ns.length σ lo) p)) s Q E → codeAny c.M A (.call (.ref a) ⟨vs, []⟩) (fun r s' => match r with | .ok (.ret v) => Q v s' | .ok _ => False | .error e => E e s') s := by
  intro A s H vs a Q E hm hst hL S hm0 hr hmg P
  obtain ⟨a', o, fd, vs0, h1, h2, h3, e1, e2, e3, e4, e5, e6, hcr, hr0, hbind⟩ := hf
  rw [hmg] at h1; cases h1
  have hvl0 : vs.length = n := by rw [hr.length, hargs]
  have hbd := hbind s vs hst hvl0
  have hr := hr.append (hr0 (vis s.heap H))
  clear hbind hr0
  have hcr' := hcr
  generalize hcode : fd.code = code at hcr'
  have enter := fun (R : Result → Shared → Prop) hkind hh k3 k2 k1 => enter_def (A := A) (R := R) (w := c.w) (prog := c.prog) (by have := hm.depth; omega) (hst a o h2) h3 (c.nolimit.keeps hst) (hcr.keeps hst) e1 e2 e3 e4 e5 e6 hbd hkind hh k3 k2 k1
  rw [hcode] at enter
  clear hbd hcr
  have hargs : (args ++ xs).length = np := by rw [List.length_append, hargs, hnp]
  generalize args ++ xs = args at hr hargs P ⊢
  generalize hvv : vs ++ vs0 = vv at hr enter
  have h4 := hcr'
  simp only [fnOk, Bool.and_eq_true, beq_iff_eq, Bool.not_eq_true', decide_eq_true_eq, List.all_eq_true, Bool.or_eq_true] at hok
  obtain ⟨⟨⟨⟨⟨⟨k1, k2⟩, k3⟩, k4⟩, k5⟩, k6⟩, k7⟩ := hok
  have hvl : vv.length = np := by rw [hr.length, hargs]
  have hkind : ∀ x ∈ (ns.take np).zip vv, scope.names.lookup x.1 = some .local ∨ (scope.names.lookup x.1 = some .cell ∧ ((cellsFrom (s.heap.objs.size + 1) scope.names []).lookup x.1).isSome = true) := fun x hx => by
    rcases k7 x.1 (List.of_mem_zip hx).1 with h | h
    · exact .inl h
    · exact .inr ⟨h, cellsFrom_mem _ _ _ _ (mem_of_lookup h)⟩
  refine enter _ hkind (fun h₁ tk F₁ X₁ => ?_) k3 k2 k1
  generalize hEnv : envOfC f scope s.heap.objs.size a code = env at F₁ X₁ ⊢
  have eL : env.locals = s.heap.objs.size := by rw [← hEnv]; rfl
  have eS : env.scope = scope := by rw [← hEnv]; rfl
  have eC : env.cells = cellsFrom (s.heap.objs.size + 1) scope.names [] := by rw [← hEnv]; rfl
  have eF : env.frame = some env.locals := by rw [← hEnv]; rfl
  have eG : env.globals = mainGlobals := by rw [← hEnv]; rfl
  have eB : env.builtins = builtinsNs := by rw [← hEnv]; rfl
  have eCo : env.code = code := by rw [← hEnv]; rfl
  have eK : ∀ x, env.kindOf x = scope.names.lookup x := fun x => by show env.scope.names.lookup x = _; rw [eS]
  rw [← eC] at X₁
  rw [← eL] at F₁ X₁
  obtain ⟨l, hl, ff⟩ := hm.frames
  have dead : ∀ b, s.heap.objs.size ≤ b → s.heap.get? b = none := fun b hb => Heap.get?_none_of_le hb
  have deadL : s.heap.get? env.locals = none := dead _ (Nat.le_of_eq eL.symm)
  have deadC : ∀ x cc, env.cells.lookup x = some cc → s.heap.get? cc = none := fun x cc q => dead _ (by have := X₁.above x cc (mem_of_lookup q); rw [eL] at this; exact Nat.le_of_lt this)
  have h0L : c.h0.get? env.locals = none := by
    cases e : c.h0.get? env.locals with
    | none => rfl
    | some o' => have := hst _ _ e; rw [deadL] at this; cases this
  have hA' : (A.deeper env).frames = some (env :: l) := by show A.frames.map (env :: ·) = _; rw [hl]; rfl
  have ff' : h₁.FunFrames c.h0 (env :: l) := by
    refine ⟨by rw [eS, k1]; decide, ?_, (Kh.of_keeps (F := fun _ => False) F₁.keep).nf.frames ff⟩
    obtain ⟨oL, es, ep, e, d, _⟩ := F₁.ns
    exact ⟨env.locals, oL, eF, h0L, e, fun vs z => by rw [d] at z; cases z⟩
  have frs : ∀ b, FrA (A.deeper env) b → b = env.locals ∨ FrA A b := fun b ⟨l', e1, e2⟩ => by
    rw [hA'] at e1; cases e1
    rw [List.filterMap_cons, eF] at e2
    rcases List.mem_cons.mp e2 with e2 | e2
    · exact .inl e2
    · exact .inr ⟨l, hl, e2⟩
  have hFrL : FrA (A.deeper env) env.locals := ⟨_, hA', by rw [List.filterMap_cons, eF]; exact List.mem_cons_self ..⟩
  generalize hH0 : (⟨fun b => H.p b ∨ b = env.locals ∨ ∃ x, env.cells.lookup x = some b, H.m, fun _ => none⟩ : Hd) = H₀
  have p0 : ∀ b, H₀.p b ↔ (H.p b ∨ b = env.locals ∨ ∃ x, env.cells.lookup x = some b) := fun b => by rw [← hH0]
  have m0 : H₀.m = H.m := by rw [← hH0]
  have live : Live H₀ h₁ := fun b z => by
    rcases (p0 b).mp z with z | rfl | ⟨x, z⟩
    · obtain ⟨o', e⟩ := hL b z; exact ⟨o', F₁.keep b o' e⟩
    · obtain ⟨oL, es, ep, e, _⟩ := F₁.ns; exact ⟨oL, e⟩
    · obtain ⟨o', e, _⟩ := X₁.cell x b z; exact ⟨o', e⟩
  have hHN : ∀ b, H₀.p b → H.p b ∨ s.heap.get? b = none := fun b z => by
    rcases (p0 b).mp z with z | rfl | ⟨x, z⟩
    · exact .inl z
    · exact .inr deadL
    · exact .inr (deadC x b z)
  have kh1 : Kh (FrA (A.deeper env)) s.heap h₁ := Kh.of_keeps F₁.keep
  have hlen0 : (rho0 args ns.length).length = ns.length := by
    unfold rho0
    rw [List.length_append, List.length_map, List.length_replicate]
    omega
  have getv : ∀ (i : Nat) t, (rho0 args ns.length)[i]? = some (some t) → ∃ x, args[i]? = some x ∧ t = .val x := fun i t h => by
    unfold rho0 at h
    by_cases hi : i < args.length
    · rw [List.getElem?_append_left (by simpa using hi), List.getElem?_map] at h
      cases e : args[i]? with
      | none => rw [e] at h; cases h
      | some x => rw [e] at h; simp at h; exact ⟨x, rfl, h.symm⟩
    · rw [List.getElem?_append_right (by simpa using hi), List.getElem?_replicate] at h
      split at h <;> simp at h
  have F : Fm c (FrA (A.deeper env)) ns env (st0 args ns.length σ lo) ⟨s.heap, H, Wr σ H lo⟩ H₀ h₁ := {
    keep := kh1.kv
    wsub := fun b ⟨n, mo, _, e1, e2⟩ => S.hid n b mo e1 e2
    base := hst
    baseF := fun b z => by
      rcases frs b z with rfl | ⟨l', e1, e2⟩
      · exact h0L
      · rw [hl] at e1; cases e1
        exact (ff.mem e2).1
    basew := fun b ⟨n, mo, _, e1, e2⟩ => hm0 n b e2
    hle := fun b z => (p0 b).mpr (.inl z)
    mle := fun n b e => by rw [m0]; exact e
    mold := fun n b _ e => by rw [m0] at e; exact e
    mnew := fun n b l e => by
      rw [m0] at e
      exact absurd (S.lt n b e) (Nat.not_lt.mpr l)
    mw := fun n b mo _ l q e => ⟨n, mo, l, q, by rw [← m0]; exact e⟩
    hlt := live
    felt := hL
    wlt := fun b ⟨n, mo, _, e1, e2⟩ => S.al n b e2
    kind := by rw [eS]; exact k1
    glob := eG
    bi := eB
    code := let ⟨cd, o, vs, _, e, g, d, _⟩ := h4; ⟨cd, o, vs, eCo.trans e, g, d⟩
    ns := ⟨_, F₁.ns⟩
    hl := (p0 _).mpr (.inr (.inl rfl))
    lnew := deadL
    hc := fun x cc _ q => ⟨(p0 _).mpr (.inr (.inr ⟨x, q⟩)), deadC x cc q⟩
    cl := fun x q => by
      rw [eK] at q
      have := cellsFrom_mem scope.names (s.heap.objs.size + 1) [] x (mem_of_lookup q)
      rw [← eC] at this
      obtain ⟨cc, e⟩ := Option.isSome_iff_exists.mp this
      exact ⟨cc, _, e, X₁.cell x cc e⟩
    capart := fun x y cc h1 h2 => name_of_addr X₁.apart (mem_of_lookup h1) (mem_of_lookup h2)
    vals := fun i x t hx ht => by
      obtain ⟨av, hav, rfl⟩ := getv i t ht
      obtain ⟨v, hv, hrv⟩ := hr.get hav
      have hi : i < np := by
        rcases Nat.lt_or_ge i args.length with h | h
        · omega
        · rw [List.getElem?_eq_none h] at hav; cases hav
      have hx' : (ns.take np)[i]? = some x := by rw [List.getElem?_take, if_pos hi]; exact hx
      refine ⟨v, ?_, Rep.mono (vis_new (Kh.of_keeps (F := fun _ => False) F₁.keep) hHN fun n a e => by rw [m0]; exact e) hrv⟩
      rcases k7 x (List.mem_of_getElem? hx') with hk | hk
      · exact .inl ⟨by rw [eK]; exact hk, _, F₁.ns, bindL_in _ _ _ i x v k5 hx' hv (by rw [eK]; exact hk)⟩
      · have := cellsFrom_mem scope.names (s.heap.objs.size + 1) [] x (mem_of_lookup hk)
        rw [← eC] at this
        obtain ⟨cc, e⟩ := Option.isSome_iff_exists.mp this
        have hcell := X₁.cell x cc e
        rw [bindC_in _ _ _ i x v k5 hx' hv (by rw [eK, hk]; decide)] at hcell
        exact .inr ⟨by rw [eK]; exact hk, cc, e, hcell⟩
    own := fun i b e => by rw [← hH0] at e; cases e
    oinj := fun i j b e => by rw [← hH0] at e; cases e
    mh0 := fun n b e => hm0 n b (by rw [← m0]; exact e)
    sto := S.new kh1 (fun b z => (p0 b).mpr (.inl z)) hHN m0
    n0le := Nat.le_refl _ }
  have hm' : Rm c true (k + 1) (A.deeper env) h₁ := ⟨by have := hm.depth; show A.depth + 1 + (k + 1) < _; omega, by have := hm.units; show A.units + 3 + 8 * (k + 1) < _; omega, fun h => hm.hand h, ⟨_, hA', ff'⟩⟩
  have hF : ∀ b o, s.heap.get? b = some o → FrA (A.deeper env) b → FrA A b := fun b o e z => by
    rcases frs b z with rfl | z
    · rw [deadL] at e; cases e
    · exact z
  have ss : ∀ {st' : Fs} {H' : Hd} {s' : Shared}, Fm c (FrA (A.deeper env)) ns env st' ⟨s.heap, H, Wr σ H lo⟩ H' s'.heap → st'.n0 = σ.length → (∃ h' tk', s' = { s with heap := h', toks := tk' }) → (∀ b o, h₁.get? b = some o → ∃ o', s'.heap.get? b = some o') → Nf h₁ s'.heap → Ss A lo σ H s st'.σ (retH ⟨s.heap, H, Wr σ H lo⟩ σ.length H') s' :=
    fun {st' H' s'} F' hn rest lv nf => ret_ss S F' hn hF rest (fun b o e => lv b o (F₁.keep b o e)) (kh1.nf.trans nf)
  have S1 := pxs_sound OK CO hfree p k4 (by rw [eS]) eF (q := true) (st := st0 args ns.length σ lo) (A.deeper env) { s with heap := h₁, toks := tk } ⟨s.heap, H, Wr σ H lo⟩ _ hm' ⟨l, hA'⟩ F hlen0
  cases hp : pxs O cal true (st0 args ns.length σ lo) p with
  | ret v σ' =>
    rw [hp] at S1 P
    refine S1 _ _ fun w s' R => ?_
    obtain ⟨st', H', e1, e2, e3, F', r'⟩ := R.back
    subst e1
    exact P w _ s' (ss F' e2 (let ⟨h', t', e⟩ := R.rest; ⟨h', t', e⟩) R.lv R.nf) r'
  | next st' =>
    rw [hp] at S1 P
    exact S1 _ _ fun H' s' N => P _ _ s' (ss N.fm N.n0 (let ⟨h', t', e⟩ := N.rest; ⟨h', t', e⟩) N.lv N.nf) (by simp [RepW, Rep])
  | exc x st' =>
    rw [hp] at S1 P
    refine S1 _ _ ⟨rfl, fun H' sr e s' N X => ?_⟩
    obtain ⟨ea, a0, rfl, hkp, hdead, _, _⟩ := id X
    obtain ⟨l', hl', ff2⟩ := ((hm'.nf N.nf).kp hkp).frames
    rw [hA'] at hl'; cases hl'
    obtain ⟨l', hl', ff3⟩ := (hm'.nf N.nf).frames
    rw [hA'] at hl'; cases hl'
    show wpAny c.M (A.deeper env) (noteFrame (.ref ea) env >>= fun _ => setFlight (.ref ea) none) _ _ s'
    refine wpAny_bind (note_land X hA' eF ff2 ff3 fun s₃ fl => ?_)
    obtain ⟨B, a1, h₃, tk₃, hs₃, hag, hfl, kh₃, hB, hfr⟩ := fl
    -- the state at the raise, with the frame's slots as they are now
    obtain ⟨mL, oL, esL, epL, eLo, dLo, rLo⟩ := N.fm.ns
    obtain ⟨sl, eL3⟩ := (kh₃ env.locals oL eLo).2
    have fr : ({ oL with slots := sl } : Obj).isFreed = false := by
      have : ({ oL with slots := sl } : Obj).data = .dict esL epL := dLo
      unfold Obj.isFreed
      rw [this]
    have up : (sr.heap.update env.locals fun o => { o with slots := sl }).get? env.locals = some { oL with slots := sl } := Heap.get?_update_self _ eLo fr
    have ot : ∀ b, b ≠ env.locals → (sr.heap.update env.locals fun o => { o with slots := sl }).get? b = sr.heap.get? b := fun b hb => Heap.get?_update_other _ _ (Ne.symm hb)
    have khu : Kh (FrA (A.deeper env)) sr.heap (sr.heap.update env.locals fun o => { o with slots := sl }) := fun b o e => by
      by_cases hb : b = env.locals
      · subst hb
        rw [eLo] at e; cases e
        refine ⟨fun z => ?_, sl, up⟩
        rcases z with z | ⟨fs, z⟩
        · exact absurd hFrL z
        · rw [dLo] at z; cases z
      · exact ⟨fun _ => (ot b hb).trans e, o.slots, (ot b hb).trans e⟩
    have F2 := N.fm.step khu
    obtain ⟨hr', tr', er⟩ := N.rest
    have ss2 := ss (s' := { sr with heap := sr.heap.update env.locals fun o => { o with slots := sl } }) F2 N.n0 ⟨_, tr', by rw [er]⟩ (fun b o e => let ⟨o', e'⟩ := N.lv b o e; let ⟨_, e''⟩ := (khu b o' e').2; ⟨_, e''⟩) (N.nf.trans khu.nf)
    refine P.2 _ _ _ _ ss2 ⟨ea, a1, rfl, ⟨h₃, tk₃, by rw [hs₃], fun b o e => ?_⟩, ?_, ?_, .inr ?_⟩
    · by_cases hb : b = env.locals
      · subst hb
        have e : (sr.heap.update env.locals fun o => { o with slots := sl }).get? env.locals = some o := e
        rw [up] at e; cases e
        exact ⟨fun _ => eL3, sl, eL3⟩
      · have e : (sr.heap.update env.locals fun o => { o with slots := sl }).get? b = some o := e
        rw [ot b hb] at e
        obtain ⟨q1, q2⟩ := kh₃ b o e
        refine ⟨fun f => q1 (f.imp (fun f z => ?_) id), q2⟩
        rcases frs b z with z | z
        · exact hb z
        · exact f z
    · have : ea ≠ env.locals := fun z => by rw [z, eLo] at hdead; cases hdead
      show (sr.heap.update env.locals fun o => { o with slots := sl }).get? ea = none
      rw [ot ea this]; exact hdead
    · rw [hs₃]
      exact hag.base fun b z => (ot b fun y => by rw [y, eLo] at z; cases z).trans z
    · obtain ⟨_, _, _, oe, ws, T, oT, ts, he, hcl, hd, h1', hT, hTe, hoT, hdT, h3'⟩ := hfl
      rw [hs₃]
      refine ⟨oe, ws, T, oT, ts, he, hcl, hd, h1', ?_, hTe, hoT, hdT, h3'⟩
      have hTl : T ≠ env.locals := fun z => by
        have hoT : h₃.get? T = some oT := hoT
        rw [z, eL3] at hoT; cases hoT
        have hdT : oL.data = _ := hdT
        rw [dLo] at hdT; cases hdT
      show (sr.heap.update env.locals fun o => { o with slots := sl }).get? T = none
      rw [ot T hTl]
      cases e : sr.heap.get? T with
      | none => rfl
      | some o' =>
        exfalso
        by_cases hTf : T ∈ (env :: l).filterMap (·.frame)
        · obtain ⟨o2, e3, nf⟩ := hfr T hTf
          have hoT : h₃.get? T = some oT := hoT
          rw [hoT] at e3; cases e3
          exact nf _ hdT
        · have := hB T oT hoT ⟨_, e⟩ hTf
          rw [hT] at this; cases this
  | brk _ => rw [hp] at P; exact P.elim
  | cont _ => rw [hp] at P; exact P.elim
  | stuck => rw [hp] at P; exact P.elim

theorem calls_of {f : Str} {body : List Stmt} {scope : Scope} {ns : List Str} {np n : Nat} {p : PSs} {args xs : List AV} {σ : Store} {lo : Nat} (hf : FnAt c f body scope ns np n xs) (hok : fnOk frees fname scope ns np p body = true)
    (hargs : args.length = n) (hnp : n + xs.length = np) :
    Calls c (k + 2) f σ lo args (fnRes (pxs O cal true (st0 (args ++ xs) ns.length σ lo) p)) := by
  intro A s H vs a hm hst hL S hm0 hr hmg
  exact fun Q E P => wpAny_call (code_of OK CO hfree hf hok hargs hnp hm hst hL S hm0 hr hmg P)
end
end Mine
end
section
open PySem PySem.W PyProof.Rows
namespace Mine
set_option maxRecDepth 100000


noncomputable def itemsV : AV → Option (List AV)
  | .lst xs => some xs
  | .tup xs => some xs
  | .range a b s => if Builtin.Range.small a b s = true then (if (Builtin.Range.rangeSize a b s).toNat ≤ 1048576 then some (rangeL a b s) else none) else none
  | _ => none

section
variable {c : Cx} {A : Around}
theorem itr_list (hh : A.handled = none) {I l : Addr} {vs : List Value} (hI : l ≠ I) : Itr c A I (fun b => b = I ∨ b = l) (fun i v => vs[i]? = some v) vs.length (fun i h => h.IsListIter I l i ∧ h.IsList l vs.toArray) where
  fld := fun i h ⟨⟨o, e, hc, hd⟩, _⟩ => ⟨o, _, e, hd, by rw [hc]; unfold okC; decide +kernel⟩
  nt := fun i h ⟨⟨o, e, hc, hd⟩, _⟩ => ⟨o, _, e, hc, by decide +kernel⟩
  frame := fun i h h' ⟨⟨o, e, hc, hd⟩, ⟨o2, e2, hc2, n, hd2⟩⟩ fr => by
    refine ⟨⟨o, (fr I o (.inl rfl) e).1 ⟨_, hd⟩, hc, hd⟩, ?_⟩
    obtain ⟨sl, e3⟩ := (fr l o2 (.inr rfl) e2).2
    exact ⟨_, e3, hc2, n, hd2⟩
  item := fun i s Q E hi ⟨hit, hl⟩ h => by
    refine wpAny_pyNext_list_item hit hl (x := vs[i]) (by simp [hi]) fun h' hit' sb => ?_
    exact h _ h' s.toks (by simp [hi]) ⟨hit', hl.extBut (fun b o hb e => (sb.2 b hb).trans e) hI⟩ (fun b o hb e => (sb.2 b hb).trans e) (let ⟨o, e, _⟩ := hit'; ⟨o, e⟩)
  done := fun s Q E ⟨hit, hl⟩ h => wpAny_pyNext_list_end hh hit hl (by simp) fun h' eb => h h' s.toks fun b o hb e => eb b o hb e
  self := fun i s Q E ⟨hit, _⟩ h => wpAny_pyIter_listiter hit h

theorem itr_tup (hh : A.handled = none) {I l : Addr} {vs : List Value} (hI : l ≠ I) : Itr c A I (fun b => b = I ∨ b = l) (fun i v => vs[i]? = some v) vs.length (fun i h => h.IsTupleIter I l i ∧ h.IsTuple l vs.toArray) where
  fld := fun i h ⟨⟨o, e, hc, hd⟩, _⟩ => ⟨o, _, e, hd, by rw [hc]; unfold okC; decide +kernel⟩
  nt := fun i h ⟨⟨o, e, hc, hd⟩, _⟩ => ⟨o, _, e, hc, by decide +kernel⟩
  frame := fun i h h' ⟨⟨o, e, hc, hd⟩, ⟨o2, e2, hc2, n, hd2⟩⟩ fr => by
    refine ⟨⟨o, (fr I o (.inl rfl) e).1 ⟨_, hd⟩, hc, hd⟩, ?_⟩
    obtain ⟨sl, e3⟩ := (fr l o2 (.inr rfl) e2).2
    exact ⟨_, e3, hc2, n, hd2⟩
  item := fun i s Q E hi ⟨hit, hl⟩ h => by
    refine wpAny_pyNext_tuple_item hit hl (x := vs[i]) (by simp [hi]) fun h' hit' sb => ?_
    exact h _ h' s.toks (by simp [hi]) ⟨hit', hl.extBut (fun b o hb e => (sb.2 b hb).trans e) hI⟩ (fun b o hb e => (sb.2 b hb).trans e) (let ⟨o, e, _⟩ := hit'; ⟨o, e⟩)
  done := fun s Q E ⟨hit, hl⟩ h => wpAny_pyNext_tuple_end hh hit hl (by simp) fun h' eb => h h' s.toks fun b o hb e => eb b o hb e
  self := fun i s Q E ⟨hit, _⟩ h => wpAny_pyIter_tupleiter hit h

theorem itr_range (hh : A.handled = none) {I : Addr} {a b st : Int} (hs : 0 ≤ Builtin.Range.rangeSize a b st) : Itr c A I (fun b => b = I) (fun i v => ∃ t, v = .int (a + i * st) t) (Builtin.Range.rangeSize a b st).toNat
    (fun i h => IsRangeIter h I (a + i * st) (Builtin.Range.rangeSize a b st - i) st) where
  fld := fun i h hit => ⟨_, _, hit, rfl, by show ¬ okC (.type "range_iterator"); unfold okC; decide +kernel⟩
  nt := fun i h hit => ⟨_, _, hit, rfl, by decide +kernel⟩
  frame := fun i h h' hit fr => (fr I _ rfl hit).1 ⟨_, rfl⟩
  item := fun i s Q E hi hit h => by
    refine wpAny_pyNext_range_item hit (by omega) fun h' hit' sb => ?_
    refine h _ h' (s.toks + 1) ⟨_, rfl⟩ ?_ (fun b o hb e => (sb.2 b hb).trans e) ⟨_, hit'⟩
    have e1 : a + (i : Int) * st + st = a + ((i + 1 : Nat) : Int) * st := by rw [Int.natCast_add, Int.add_mul]; omega
    have e2 : Builtin.Range.rangeSize a b st - (i : Int) - 1 = Builtin.Range.rangeSize a b st - ((i + 1 : Nat) : Int) := by omega
    rw [e1, e2] at hit'
    exact hit'
  done := fun s Q E hit h => wpAny_pyNext_range_end hh hit (by omega) fun h' eb => h h' s.toks fun b o hb e => eb b o hb e
  self := fun i s Q E hit h => wpAny_pyIter_rangeiter hit h

theorem rangeSize_nonneg (a b s : Int) : 0 ≤ Builtin.Range.rangeSize a b s := by
  unfold Builtin.Range.rangeSize
  split
  · split
    · exact Int.add_nonneg (Int.ediv_nonneg (by omega) (by omega)) (by omega)
    · omega
  · split
    · exact Int.add_nonneg (Int.ediv_nonneg (by omega) (by omega)) (by omega)
    · omega

theorem itemsV_ref {a : AV} {xs : List AV} (h : itemsV a = some xs) : (∀ n, a ≠ .ptr n) ∧ (∀ k ys, a ≠ .itr k ys) ∧ a ≠ .any :=
  ⟨by rintro b rfl; simp [itemsV] at h, by rintro k ys rfl; simp [itemsV] at h, by rintro rfl; simp [itemsV] at h⟩

theorem itemsV_ok {q : Bool} {k : Nat} {s : Shared} {H : Hd} {a : AV} {va : Value} {xs : List AV} (hm : Rm c q (k + 1) A s.heap) (hq : q = true) (r : RepO s.heap H va a) (h : itemsV a = some xs) (Q E : Value → Shared → Prop)
    (K : ∀ I fp P St h' tk, (∀ b o, s.heap.get? b = some o → h'.get? b = some o) → s.heap.get? I = none → fp I → (∀ b, fp b → ∃ o, h'.get? b = some o) → (∀ b, fp b → b = I ∨ va = .ref b) → xs.length ≤ 1048576 → Itr c A I fp P xs.length St → St 0 h' →
      (∀ (i : Nat) v x, P i v → xs[i]? = some x → Rep (vis s.heap H) v x) → Q (.ref I) { s with heap := h', toks := tk }) : wpAny c.M A (pyIter va) Q E s := by
  have hh := hm.hand hq
  cases a <;> simp only [itemsV, reduceCtorEq] at h
  · rename_i a b st
    by_cases hsm : Builtin.Range.small a b st = true
    case neg => rw [if_neg hsm] at h; cases h
    rw [if_pos hsm] at h
    by_cases hsz : (Builtin.Range.rangeSize a b st).toNat ≤ 1048576
    case neg => rw [if_neg hsz] at h; cases h
    rw [if_pos hsz] at h
    cases h
    simp only [RepO, Rep] at r
    obtain ⟨r, ta, tb, ts, rfl, _, o, e, hc, hd, hdi, _, hsl⟩ := r
    have hr : IsRange s.heap r a b st ta tb ts := by
      show s.heap.get? r = _
      rw [e]; obtain ⟨c', d', da', sl'⟩ := o
      simp only at hc hd hdi hsl
      rw [hc, hd, hdi, hsl ⟨_, rfl⟩]
    refine wpAny_pyIter_range hr hsm ?_
    refine K s.heap.objs.size (fun b => b = s.heap.objs.size) (fun i v => ∃ t, v = .int (a + i * st) t) (fun i h => IsRangeIter h s.heap.objs.size (a + i * st) (Builtin.Range.rangeSize a b st - i) st) _ s.toks (fun b o e => Heap.get?_push_of_some _ e) (Heap.get?_none_of_le (Nat.le_refl _)) rfl (fun b hb => by subst hb; exact ⟨_, Heap.get?_push_size _ rfl⟩) (fun b hb => .inl hb) (by simpa [rangeL] using hsz)
      (by simp only [rangeL, List.length_map, List.length_range]; exact itr_range hh (rangeSize_nonneg a b st)) ?_ ?_
    · simp only [Int.natCast_zero, Int.zero_mul, Int.add_zero, Int.sub_zero]
      exact Heap.get?_push_size _ rfl
    · rintro i v x ⟨t, rfl⟩ hx
      simp only [rangeL, List.getElem?_map, Option.map_eq_some_iff] at hx
      obtain ⟨j, hj, rfl⟩ := hx
      obtain ⟨hj1, hj2⟩ := List.getElem?_eq_some_iff.mp hj
      simp at hj2
      subst hj2
      exact ⟨t, rfl⟩
  · cases h
    simp only [RepO, Rep] at r
    obtain ⟨hz, l, vs, n, rfl, ⟨_, o, e, hc, hd, _⟩, rl⟩ := r
    have ht : s.heap.IsTuple l vs.toArray := ⟨o, e, hc, n, hd⟩
    have hlt := Heap.lt_size e
    refine wpAny_pyIter_tuple ht ?_
    refine K s.heap.objs.size (fun b => b = s.heap.objs.size ∨ b = l) (fun i v => vs[i]? = some v) (fun i h => h.IsTupleIter s.heap.objs.size l i ∧ h.IsTuple l vs.toArray) _ s.toks (fun b o e => Heap.get?_push_of_some _ e) (Heap.get?_none_of_le (Nat.le_refl _)) (.inl rfl) (fun b hb => ?_) (fun b hb => hb.imp id fun x => by rw [x]) hz
      (by rw [← rl.length]; exact itr_tup hh (l := l) (vs := vs) (Nat.ne_of_lt hlt)) ⟨⟨_, Heap.get?_push_size _ rfl, rfl, rfl⟩, ht.push _⟩ ?_
    · rcases hb with rfl | rfl
      · exact ⟨_, Heap.get?_push_size _ rfl⟩
      · exact ⟨o, Heap.get?_push_of_some _ e⟩
    · intro i v x hv hx
      obtain ⟨v', hv', rv⟩ := rl.get hx
      rw [hv] at hv'; cases hv'; exact rv
  · cases h
    simp only [RepO] at r
    obtain ⟨hz, l, vs, rfl, hl, rl⟩ := r
    obtain ⟨o, n, e, hc, hd, _⟩ := id hl
    have hlt := Heap.lt_size e
    refine wpAny_pyIter_list hl.isList ?_
    refine K s.heap.objs.size (fun b => b = s.heap.objs.size ∨ b = l) (fun i v => vs[i]? = some v) (fun i h => h.IsListIter s.heap.objs.size l i ∧ h.IsList l vs.toArray) _ s.toks (fun b o e => Heap.get?_push_of_some _ e) (Heap.get?_none_of_le (Nat.le_refl _)) (.inl rfl) (fun b hb => ?_) (fun b hb => hb.imp id fun x => by rw [x]) hz
      (by rw [← rl.length]; exact itr_list hh (l := l) (vs := vs) (Nat.ne_of_lt hlt)) ⟨⟨_, Heap.get?_push_size _ rfl, rfl, rfl⟩, hl.isList.push _⟩ ?_
    · rcases hb with rfl | rfl
      · exact ⟨_, Heap.get?_push_size _ rfl⟩
      · exact ⟨o, Heap.get?_push_of_some _ e⟩
    · intro i v x hv hx
      obtain ⟨v', hv', rv⟩ := rl.get hx
      rw [hv] at hv'; cases hv'; exact rv
end

section
variable {c : Cx} {A : Around}
end

/- looks at plain values -/
/- the built-ins' calls -/
noncomputable def tyName : AV → Option String
  | .none => some "NoneType"
  | .bool _ => some "bool"
  | .int _ => some "int"
  | .float _ => some "float"
  | .str _ => some "str"
  | .bytes _ => some "bytes"
  | .lst _ => some "list"
  | .tup _ => some "tuple"
  | .range _ _ _ => some "range"
  | .itr k _ => some k.cls
  | .set fz _ _ => some (setName fz)
  | _ => none
theorem tyName_ok {s : Shared} {H : Hd} {v : Value} {x : AV} {T : String} (h : tyName x = some T) (r : RepO s.heap H v x) : s.TypeIs v T := by
  cases x with
  | none => cases h; cases r; rfl
  | bool => cases h; cases r; rfl
  | int => cases h; obtain ⟨t, rfl⟩ := r; rfl
  | float => cases h; obtain ⟨t, rfl⟩ := r; rfl
  | str => cases h; obtain ⟨t, rfl⟩ := r; rfl
  | bytes => cases h; obtain ⟨t, rfl⟩ := r; rfl
  | range => cases h; simp only [RepO, Rep] at r; obtain ⟨r, ta, tb, ts, rfl, _, o, e, hc, _⟩ := r; exact ⟨o, e, hc⟩
  | tup => cases h; simp only [RepO, Rep] at r; obtain ⟨_, l, vs, n, rfl, ⟨_, o, e, hc, _⟩, _⟩ := r; exact ⟨o, e, hc⟩
  | lst => cases h; obtain ⟨_, l, vs, rfl, hl, _⟩ := r; exact hl.typeIs
  | itr => cases h; obtain ⟨l, rfl, o, e, hc, _⟩ := r; exact ⟨o, e, hc⟩
  | set => cases h; obtain ⟨l, rfl, o, _, _, _, e, hc, _⟩ := r; exact ⟨o, e, hc⟩
  | _ => cases h
theorem cls_nb : ∀ k : IK, (Value.type k.cls == Value.type "builtin_function_or_method") = false
  | .list => by decide
  | .tuple => by decide
  | .range => by decide
theorem tyName_nb {x : AV} {T : String} (h : tyName x = some T) : (Value.type T == Value.type "builtin_function_or_method") = false := by
  cases x with
  | itr k _ => cases h; exact cls_nb k
  | set fz _ _ => cases h; cases fz <;> decide
  | _ => cases h <;> decide

theorem repOL1 {h : Heap} {H : Hd} {vs : List Value} {x : AV} (r : RepOL h H vs [x]) : ∃ v, vs = [v] ∧ RepO h H v x := by
  cases vs with
  | nil => exact r.elim
  | cons v vs => cases vs with
    | nil => exact ⟨v, rfl, r.1⟩
    | cons => exact r.2.elim
theorem repOL2 {h : Heap} {H : Hd} {vs : List Value} {x y : AV} (r : RepOL h H vs [x, y]) : ∃ v w, vs = [v, w] ∧ RepO h H v x ∧ RepO h H w y := by
  cases vs with
  | nil => exact r.elim
  | cons v vs =>
    obtain ⟨w, rfl, q⟩ := repOL1 r.2
    exact ⟨v, w, rfl, r.1, q⟩

theorem rep_fresh_range {H : Hd} {s : Shared} {a b st : Int} {t u v : Tok} (hL : Live H s.heap) :
    Rep (vis (s.heap.push { cls := .type "range", data := .fields #[.int a t, .int b u, .int st v] }) H) (.ref s.heap.objs.size) (.range a b st) := by
  simp only [Rep]
  exact ⟨_, t, u, v, rfl, hL.fresh, _, Heap.get?_push_size _ rfl, rfl, rfl, rfl, .inr (.inr (.inl rfl)), fun _ => rfl⟩

section
variable {c : Cx} {q : Bool} {k : Nat} {A : Around} {s : Shared} {H : Hd} {Q E : Value → Shared → Prop}
theorem call_max_ok {l : Addr} {vs : List Value} {xs : List AV} {ns : List Int} {m : Int} (hh : A.handled = none) (hl : IsL s.heap l vs) (rl : RepL (vis s.heap H) vs xs) (hn : ints? xs = some ns) (hx : maxI ns = some m) (P : Post q A H (.ok (.int m)) s Q E) :
    wpAny c.M A (PySem.call (.builtin "max") [.ref l]) Q E s := by
  obtain ⟨ps, e1, e2⟩ := ints_items hn rl
  have hl' := hl.isList
  rw [e1] at hl'
  have hne : 0 < ps.length := by
    cases ps with
    | nil => subst e2; cases hx
    | cons => simp
  refine max_intList hh hl' (by simpa using hne) fun v h' tk hv kp => ?_
  obtain ⟨m', t, rfl, hm'⟩ := best_max hne hv
  rw [e2, hx] at hm'; cases hm'
  exact P _ _ (Kp.of kp) ⟨t, rfl⟩
end

section
variable {c : Cx} {k : Nat} {A : Around} {s : Shared} {H : Hd} {vs : List Value}
/-- lengths of other things -/
noncomputable def lenV : AV → Res
  | .str x => if x.length ≤ 1048576 then .ok (.int x.length) else .stuck
  | .bytes b => if b.size ≤ 1048576 then .ok (.int b.size) else .stuck
  | .tup ys => .ok (.int ys.length)
  | _ => .stuck
noncomputable def b_len : List AV → Res
  | [.lst ys] => .ok (.int ys.length)
  | [x] => lenV x
  | _ => .stuck
theorem lenV_ok {x : AV} {v : Value} (hm : Rm c true (k + 1) A s.heap) (r : RepO s.heap H v x) : Tr c true A H (PySem.call (.builtin "len") [v]) (lenV x) s := by
  unfold lenV
  split
  · rename_i x
    obtain ⟨t, rfl⟩ := r
    split
    · exact fun Q E P => PySem.P.len_str (by omega) (P _ _ Kp.toks ⟨_, rfl⟩)
    · exact Tr.stuck
  · obtain ⟨t, rfl⟩ := r
    split
    · exact fun Q E P => len_bytes (by omega) (P _ _ Kp.toks ⟨_, rfl⟩)
    · exact Tr.stuck
  · rename_i ys
    have r : Rep (vis s.heap H) v (.tup ys) := r
    simp only [Rep] at r
    obtain ⟨hz, l, vs, n, rfl, ⟨_, o, e, hc, hd, _⟩, rl⟩ := r
    have hle := rl.length
    exact fun Q E P => PyProof.Rows.len_tuple (items := List.toArray vs) ⟨o, e, hc, n, hd⟩ (by simp; omega) (P _ _ Kp.toks ⟨_, by simp [hle]; rfl⟩)
  · exact Tr.stuck
theorem b_len_ok {xs : List AV} (hm : Rm c true (k + 1) A s.heap) (r : RepOL s.heap H vs xs) : Tr c true A H (PySem.call (.builtin "len") vs) (b_len xs) s := by
  unfold b_len
  split
  · obtain ⟨v, rfl, hz, l, ws, rfl, hl, rl⟩ := repOL1 r
    exact fun Q E P => PySem.Calls.call_len_list hl.isList (by simp [rl.length]; omega) (P _ _ Kp.toks ⟨_, by simp [rl.length]; rfl⟩)
  · obtain ⟨v, rfl, rv⟩ := repOL1 r
    exact lenV_ok hm rv
  · exact Tr.stuck
noncomputable def isiT (T : String) : Bool := T == "list" || (T == "tuple" || (T == "str" || T == "bytes"))
theorem isi_t {T : String} (h : isiT T = true) : typeOf (.type T) = pure (.type "type") ∧ isSubtype (.type T) (.type T) = pure true := by
  unfold isiT at h
  rcases Bool.or_eq_true_iff.mp h with h | h
  · rw [eq_of_beq h]; exact ⟨isi_tl, isi_sl⟩
  · rcases Bool.or_eq_true_iff.mp h with h | h
    · rw [eq_of_beq h]; exact ⟨isi_tt, isi_st⟩
    · rcases Bool.or_eq_true_iff.mp h with h | h
      · rw [eq_of_beq h]; exact ⟨isi_ts, isi_ss⟩
      · rw [eq_of_beq h]; exact ⟨isi_tb, isi_sb⟩
noncomputable def b_isinstance : List AV → Res
  | [x, .type T] => if tyName x = some T ∧ isiT T = true then .ok (.bool true) else .stuck
  | _ => .stuck
theorem b_isinstance_ok {xs : List AV} (r : RepOL s.heap H vs xs) : Tr c true A H (PySem.call (.builtin "isinstance") vs) (b_isinstance xs) s := by
  unfold b_isinstance
  split
  · obtain ⟨v, w, rfl, rx, ry⟩ := repOL2 r
    have ry : w = .type _ := ry
    subst ry
    split
    · rename_i e; exact fun Q E P => call_isinstance_yes (tyName_ok e.1 rx) (isi_t e.2).1 (isi_t e.2).2 (P _ _ (Kp.refl _ _) rfl)
    · exact Tr.stuck
  · exact Tr.stuck
noncomputable def b_chr : List AV → Res
  | [.int i] => if 0 ≤ i ∧ i ≤ 1114111 then .ok (.str ⟨#[i.toNat]⟩) else .stuck
  | _ => .stuck
theorem b_chr_ok {xs : List AV} (r : RepOL s.heap H vs xs) : Tr c true A H (PySem.call (.builtin "chr") vs) (b_chr xs) s := by
  unfold b_chr
  split
  · obtain ⟨v, rfl, t, rfl⟩ := repOL1 r
    split
    · rename_i h
      exact fun Q E P => PyProof.Rows.chr_of_range h.1 h.2 (P _ _ Kp.toks ⟨_, rfl⟩)
    · exact Tr.stuck
  · exact Tr.stuck
noncomputable def b_range : List AV → Res
  | [.int n] => .ok (.range 0 n 1)
  | [.int a, .int b] => .ok (.range a b 1)
  | _ => .stuck
theorem b_range_ok {xs : List AV} (hL : Live H s.heap) (r : RepOL s.heap H vs xs) : Tr c true A H (PySem.call (.type "range") vs) (b_range xs) s := by
  unfold b_range
  split
  · obtain ⟨v, rfl, t, rfl⟩ := repOL1 r
    exact fun Q E P => call_range_1 (P _ _ (Kp.of fun _ _ e => Heap.get?_push_of_some _ e) (rep_fresh_range hL))
  · obtain ⟨v, w, rfl, ⟨t, rfl⟩, u, rfl⟩ := repOL2 r
    exact fun Q E P => call_range_2 (P _ _ (Kp.of fun _ _ e => Heap.get?_push_of_some _ e) (rep_fresh_range hL))
  · exact Tr.stuck
noncomputable def b_max : List AV → Res
  | [.lst ys] => (match ints? ys with | some ns => (match maxI ns with | some m => .ok (.int m) | none => .stuck) | none => .stuck)
  | _ => .stuck
theorem b_max_ok {xs : List AV} (hm : Rm c true (k + 1) A s.heap) (r : RepOL s.heap H vs xs) : Tr c true A H (PySem.call (.builtin "max") vs) (b_max xs) s := by
  unfold b_max
  split
  · obtain ⟨v, rfl, hz, l, ws, rfl, hl, rl⟩ := repOL1 r
    split
    · rename_i ns hn
      split
      · rename_i m hx; exact fun Q E P => call_max_ok (hm.hand rfl) hl rl hn hx P
      · exact Tr.stuck
    · exact Tr.stuck
  · exact Tr.stuck
noncomputable def b_type : List AV → Res
  | [x] => (match tyName x with | some T => .ok (.type T) | none => .stuck)
  | _ => .stuck
theorem b_type_ok {xs : List AV} (r : RepOL s.heap H vs xs) : Tr c true A H (PySem.call (.type "type") vs) (b_type xs) s := by
  unfold b_type
  split
  · obtain ⟨v, rfl, rr⟩ := repOL1 r
    split
    · rename_i T hT
      exact fun Q E P => call_type_of (tyName_ok hT rr) (tyName_nb hT) (P _ _ (Kp.refl _ _) rfl)
    · exact Tr.stuck
  · exact Tr.stuck
noncomputable def b_tuple : List AV → Res
  | [.lst ys] => .ok (.tup ys)
  | _ => .stuck
theorem b_tuple_ok {xs : List AV} (hL : Live H s.heap) (r : RepOL s.heap H vs xs) : Tr c true A H (PySem.call (.type "tuple") vs) (b_tuple xs) s := by
  unfold b_tuple
  split
  · obtain ⟨v, rfl, hz, l, ws, rfl, hl, rl⟩ := repOL1 r
    exact tup_of_list hL hl hz rl
  · exact Tr.stuck
noncomputable def inByte (n : Int) : Bool := decide (0 ≤ n ∧ n < 256)
noncomputable def b_bytes : List AV → Res
  | [.lst ys] => (match ints? ys with | some ns => if ns.all inByte = true then (if ns.length ≤ 1048576 then .ok (.bytes (byteArr ns)) else .stuck) else .stuck | none => .stuck)
  | _ => .stuck
theorem b_bytes_ok {xs : List AV} (hm : Rm c true (k + 1) A s.heap) (r : RepOL s.heap H vs xs) : Tr c true A H (PySem.call (.type "bytes") vs) (b_bytes xs) s := by
  unfold b_bytes
  split
  · obtain ⟨v, rfl, hz, l, ws, rfl, hl, rl⟩ := repOL1 r
    split
    · rename_i ns hn
      split
      · rename_i hr
        split
        · rename_i hz'
          exact bytes_of_list hm hl (ints_are hn rl) (fun n h => by have := List.all_eq_true.mp hr n h; simpa [inByte] using this) hz'
        · exact Tr.stuck
      · exact Tr.stuck
    · exact Tr.stuck
  · exact Tr.stuck
noncomputable def gotGI : AV → Option Bool
  | .lst _ => some true
  | .tup _ => some true
  | .str _ => some true
  | .bytes _ => some true
  | .int _ => some false
  | .none => some false
  | .set false _ _ => some false
  | _ => none
noncomputable def b_hasattr : List AV → Res
  | [x, .str n] => if n = PySem.Str.ofString "__getitem__" then (match gotGI x with | some b => .ok (.bool b) | none => .stuck) else .stuck
  | _ => .stuck
theorem b_hasattr_ok {xs : List AV} (hm : Rm c true (k + 1) A s.heap) (r : RepOL s.heap H vs xs) : Tr c true A H (PySem.call (.builtin "hasattr") vs) (b_hasattr xs) s := by
  unfold b_hasattr
  split
  · rename_i x n
    obtain ⟨v, w, rfl, rx, u, rfl⟩ := repOL2 r
    split
    · rename_i hn
      subst hn
      split
      · rename_i bb hg
        intro Q E P
        have hh := hm.hand rfl
        obtain ⟨hp, g, d, tk, os⟩ := s
        have K : ∀ h' tk', (∀ b o, hp.get? b = some o → h'.get? b = some o) → Q (.bool bb) ⟨h', g, d, tk', os⟩ := fun h' tk' k' => P _ ⟨h', g, d, tk', os⟩ (Kp.of (s := ⟨hp, g, d, tk, os⟩) k') rfl
        cases x <;> first | (cases hg; done) | skip
        · cases hg; cases rx; exact has_none hh K
        · cases hg; obtain ⟨t, rfl⟩ := rx; exact has_int hh K
        · cases hg; obtain ⟨t, rfl⟩ := rx; exact has_str K
        · cases hg; obtain ⟨t, rfl⟩ := rx; exact has_bytes K
        · cases hg; obtain ⟨l, ws, n, sl, rfl, ho, _⟩ := rep_tup_is (s := ⟨hp, g, d, tk, os⟩) rx; exact has_tuple ho K
        · cases hg
          obtain ⟨_, l, ws, rfl, ⟨⟨oc, od, odt, osl⟩, n, ho, h1, h2, h3⟩, _⟩ := rx
          simp only at h1 h2 h3
          subst h1 h2 h3
          exact has_list ho K
        · rename_i fz ld xs
          cases fz with
          | true => cases hg
          | false =>
            cases hg
            obtain ⟨l, rfl, ⟨oc, od, odt, osl⟩, es, ep, tb, ho, h1, h2, h3, _⟩ := rx
            simp only at h1 h2 h3
            have h1 : oc = .type "set" := h1
            subst h1 h2 h3
            exact has_set hh ho K
      · exact Tr.stuck
    · exact Tr.stuck
  · exact Tr.stuck
end
/-- the built-ins' calls -/
noncomputable def callB (f : BI) (xs : List AV) : Res := match f with
  | .len => b_len xs
  | .range => b_range xs
  | .max => b_max xs
  | .type => b_type xs
  | .tuple => b_tuple xs
  | .bytes => b_bytes xs
  | .hasattr => b_hasattr xs
  | .isinstance => b_isinstance xs
  | .chr => b_chr xs
  | _ => .stuck
theorem callB_ok {c : Cx} {k : Nat} {A : Around} {s : Shared} {H : Hd} {f : BI} {v : Value} {xs : List AV} {vs : List Value} (hm : Rm c true (k + 1) A s.heap) (hL : Live H s.heap) (r : RepOL s.heap H vs xs) (hv : bootBuiltins (f.name : Str) = some v) :
    Tr c true A H (PySem.call v vs) (callB f xs) s := by
  have e : v = f.val := by have := BI.boot f; exact Option.some.inj (hv.symm.trans this)
  subst e
  cases f with
  | len => exact b_len_ok hm r
  | range => exact b_range_ok hL r
  | max => exact b_max_ok hm r
  | type => exact b_type_ok r
  | tuple => exact b_tuple_ok hL r
  | bytes => exact b_bytes_ok hm r
  | hasattr => exact b_hasattr_ok hm r
  | isinstance => exact b_isinstance_ok r
  | chr => exact b_chr_ok r
  | _ => exact Tr.stuck

section
variable {c : Cx} {q : Bool} {k : Nat} {A : Around} {s : Shared} {H : Hd}
theorem lists_addN {l b : Addr} {vs ws : List Value} {xs ys : List AV} {Q E : Value → Shared → Prop} (hl : IsL s.heap l vs) (hb : IsL s.heap b ws) (hx : RepL (vis s.heap H) vs xs) (hy : RepL (vis s.heap H) ws ys) (hz : xs.length + ys.length ≤ 1048576)
    (K : ∀ D vs s', Kp A s s' → s.heap.get? D = none → IsL s'.heap D vs → RepL (vis s.heap H) vs (xs ++ ys) → Q (.ref D) s') : wpAny c.M A (binaryOp .Add (.ref l) (.ref b)) Q E s := by
  obtain ⟨⟨cls, dd, data, sl⟩, n, ho, hc, hd, _⟩ := id hl
  obtain ⟨⟨cls2, dd2, data2, sl2⟩, n2, ho2, hc2, hd2, _⟩ := id hb
  simp only at hc hd hc2 hd2
  subst hc hd hc2 hd2
  have e : vs.toArray ++ ws.toArray = (vs ++ ws).toArray := by simp
  refine concat_meets ⟨_, ho, rfl⟩ ⟨_, ho2, rfl⟩ noFill_list_add seq_list_add PySem.F.slot_list_add PySem.F.entry_list_add (PySem.F.args_list_add_2 _ _) (list_addW l b vs.toArray ws.toArray n n2 dd dd2 sl sl2 (by simp [hx.length, hy.length]; exact line_ok hz)) ⟨ho, ho2, ?_⟩
  rw [e]
  exact K _ (vs ++ ws) _ (Kp.push _) (Heap.get?_none_of_le (Nat.le_refl _)) ⟨_, _, Heap.get?_push_size _ rfl, rfl, rfl, rfl⟩ (hx.append hy)
end
/- the words together -/
noncomputable def addV (a b : AV) : Res :=
  two AV.lst? a b (fun a b => if a.length + b.length ≤ 1048576 then .ok (.lst (a ++ b)) else .stuck)
  (two AV.tup? a b (fun a b => if a.length + b.length ≤ 1048576 then .ok (.tup (a ++ b)) else .stuck)
  (two AV.str? a b (fun a b => if a.length + b.length ≤ 1048576 then .ok (.str (a ++ b)) else .stuck)
  (two AV.bytes? a b (fun a b => if a.size + b.size ≤ 1048576 then .ok (.bytes (a ++ b)) else .stuck) .stuck)))
noncomputable def modS (a b : AV) : Res := two AV.str? a b (fun f y => if f = fmtC then (if y.length ≤ 1000000 then .ok (.str (saidC y)) else .stuck) else .stuck) .stuck
noncomputable def opBin (op : Operator) (a b : AV) : Res := two AV.int? a b (intBin op) (match op with
  | .Add => addV a b
  | .Mod => modS a b
  | _ => .stuck)
noncomputable def opInpl (_op : Operator) (_x _y : AV) : Res := .stuck
noncomputable def opUn (op : UnaryOp) : AV → Res
  | .int a => match op with | .USub => .ok (.int (-a)) | _ => .stuck
  | _ => .stuck
noncomputable def ordI (op : CmpOp) (xs ys : List AV) : Option Bool := match ints? xs, ints? ys with
  | some ns, some ms => some (ordB op (lexI ns ms))
  | _, _ => none
noncomputable def ordS (op : CmpOp) (a b : Str) : Option Bool := match op with
  | .Lt => some (decide (a.cps.toList < b.cps.toList))
  | .GtE => some (!decide (a.cps.toList < b.cps.toList))
  | _ => none
noncomputable def ordV (op : CmpOp) (a b : AV) : Option Bool := two AV.lst? a b (ordI op) (two AV.tup? a b (ordI op) (two AV.str? a b (ordS op) (two AV.bytes? a b (fun a b => some (ordB op (Builtin.Bytes.order a.toList b.toList))) none)))
noncomputable def intA (op : CmpOp) : AV → AV → Option Bool
  | .int a, .int b => intCmp op a b
  | _, _ => none
noncomputable def ordA (op : CmpOp) (x y : AV) : Option Bool := match intA op x y with
  | some r => some r
  | none => ordV op x y
noncomputable def opCmp (op : CmpOp) (x y : AV) : Option Bool := match op with
  | .Eq => eqCmp .Eq x y
  | .NotEq => eqCmp .NotEq x y
  | .Lt => ordA .Lt x y
  | .Gt => intA .Gt x y
  | .GtE => ordA .GtE x y
  | _ => none
noncomputable def opTruth : AV → Option Bool
  | .bool b => some b
  | .int a => some (a != 0)
  | .none => some false
  | .lst xs => some (!xs.isEmpty)
  | _ => none
noncomputable def opIdx : AV → AV → Res
  | .lst xs, .int i => idxL xs i
  | _, _ => .stuck
noncomputable def opSlice (o a b z : AV) : Res := match o.lst? with
  | some xs => sliceL xs a b z
  | none => if z.none? = true then (match asPart a, asPart b with | some lo, some hi => cutV o lo hi | _, _ => .stuck) else .stuck
noncomputable def AV.ptr? : AV → Option Nat
  | .ptr n => some n
  | _ => Option.none
theorem ptr?_eq {a : AV} {n : Nat} (h : a.ptr? = some n) : a = .ptr n := by
  cases a with
  | ptr m => exact congrArg AV.ptr (Option.some.inj h)
  | _ => cases h
noncomputable def opIs (a b : AV) : Option Bool := match a.ptr? with
  | some _ => b.lst?.map fun _ => false
  | none => none
noncomputable def opOmeth (m : OMI) (xs args : List AV) : Option (List AV) := match m, args with
  | .append, [x] => if xs.length < 1000000 then some (xs ++ [x]) else none
  | _, _ => none
noncomputable def mt_str (a : AV) : Option String := a.str?.map fun _ => "str"
noncomputable def opMty (m : MI) (a : AV) : Option String := match m with
  | .join => mt_str a
  | _ => none
noncomputable def m_join (a : AV) (xs : List AV) : Res := match a.str?, xs with
  | some x, [.lst ys] => (match strs? ys with
    | some zs => if x.length ≤ 16 then (if (zs.map (·.length)).sum + zs.length ≤ 1048576 then .ok (.str (Txt.join x zs)) else .stuck) else .stuck
    | none => .stuck)
  | _, _ => .stuck
noncomputable def opMeth (m : MI) (a : AV) (xs : List AV) : Res := match m with
  | .join => m_join a xs
  | _ => .stuck
noncomputable def opAttr (n : TA) (a : AV) : Res := match n with
  | .name_ => (match a.type? with
    | some T => if T = "int" then .ok (.str (Str.ofString "int")) else if T = "NoneType" then .ok (.str (Str.ofString "NoneType")) else if T = "set" then .ok (.str (Str.ofString "set")) else .stuck
    | none => .stuck)
  | _ => .stuck
/-- two lists behind each other, made anew -/
noncomputable def opCat (a b : AV) : Option (List AV) := match a.lst?, b.lst? with
  | some xs, some ys => if xs.length + ys.length ≤ 1048576 then some (xs ++ ys) else none
  | _, _ => none
noncomputable def ops (ld : Bool) : OpsF where
  ld := ld
  bin := opBin
  inpl := opInpl
  un := opUn
  cmp := opCmp
  truth := opTruth
  idx := opIdx
  slice := opSlice
  bcall := callB
  mty := opMty
  meth := opMeth
  items := itemsV
  is_ := opIs
  attr := opAttr
  ometh := opOmeth
  cat := opCat

section
variable {c : Cx} {q : Bool} {k : Nat} {A : Around} {s : Shared} {H : Hd}
theorem addV_ok {a b : AV} {va vb : Value} (hL : Live H s.heap) (ra : RepO s.heap H va a) (rb : RepO s.heap H vb b) : Tr c q A H (binaryOp .Add va vb) (addV a b) s := by
  refine two_cases (P := fun r => Tr c q A H (binaryOp .Add va vb) r s) (fun x y ea eb => ?_) (two_cases (P := fun r => Tr c q A H (binaryOp .Add va vb) r s) (fun x y ea eb => ?_) (two_cases (P := fun r => Tr c q A H (binaryOp .Add va vb) r s) (fun x y ea eb => ?_) (two_cases (P := fun r => Tr c q A H (binaryOp .Add va vb) r s) (fun x y ea eb => ?_) Tr.stuck)))
  · rw [lst?_eq ea] at ra; rw [lst?_eq eb] at rb
    obtain ⟨hz, l, vs, rfl, hl, rl⟩ := ra; obtain ⟨hz', l', vs', rfl, hl', rl'⟩ := rb
    split
    · exact lists_add hL hl hl' rl rl' (by assumption)
    · exact Tr.stuck
  · rw [tup?_eq ea] at ra; rw [tup?_eq eb] at rb
    split
    · exact tups_add hL ra rb (by assumption)
    · exact Tr.stuck
  · rw [str?_eq ea] at ra; rw [str?_eq eb] at rb
    obtain ⟨t, rfl⟩ := ra; obtain ⟨u, rfl⟩ := rb
    split
    · exact strs_add (by assumption)
    · exact Tr.stuck
  · rw [bytes?_eq ea] at ra; rw [bytes?_eq eb] at rb
    obtain ⟨t, rfl⟩ := ra; obtain ⟨u, rfl⟩ := rb
    split
    · exact bytes_add (by assumption)
    · exact Tr.stuck
theorem modS_ok {a b : AV} {va vb : Value} (ra : RepO s.heap H va a) (rb : RepO s.heap H vb b) : Tr c q A H (binaryOp .Mod va vb) (modS a b) s := by
  refine two_cases (P := fun r => Tr c q A H (binaryOp .Mod va vb) r s) (fun x y ea eb => ?_) Tr.stuck
  rw [str?_eq ea] at ra; rw [str?_eq eb] at rb
  obtain ⟨t, rfl⟩ := ra; obtain ⟨u, rfl⟩ := rb
  split
  · rename_i hf
    subst hf
    split
    · rename_i hz
      exact fun Q E P => mod_fmtC hz fun t' k => P _ _ Kp.toks ⟨_, rfl⟩
    · exact Tr.stuck
  · exact Tr.stuck
theorem opBin_ok {op : Operator} {a b : AV} {va vb : Value} (hm : Rm c q (k + 1) A s.heap) (hL : Live H s.heap) (ra : RepO s.heap H va a) (rb : RepO s.heap H vb b) : Tr c q A H (binaryOp op va vb) (opBin op a b) s := by
  refine two_cases (P := fun r => Tr c q A H (binaryOp op va vb) r s) (fun x y ea eb => ?_) ?_
  · rw [int?_eq ea] at ra; rw [int?_eq eb] at rb
    obtain ⟨t, rfl⟩ := ra; obtain ⟨u, rfl⟩ := rb; exact intBin_ok hm
  · cases op with
    | Add => exact addV_ok hL ra rb
    | Mod => exact modS_ok ra rb
    | _ => exact Tr.stuck
theorem opInpl_ok {op : Operator} {a b : AV} {va vb : Value} (hm : Rm c q (k + 1) A s.heap) (ra : RepO s.heap H va a) (rb : RepO s.heap H vb b) : Tr c q A H (inplaceOp op va vb) (opInpl op a b) s := Tr.stuck
theorem opUn_ok {op : UnaryOp} {a : AV} {va : Value} (ra : RepO s.heap H va a) : Tr c q A H (unaryOp op va) (opUn op a) s := by
  unfold opUn
  split
  · obtain ⟨t, rfl⟩ := ra
    split
    · exact fun Q E P => PySem.P.neg_int (P _ _ Kp.toks ⟨_, rfl⟩)
    · exact Tr.stuck
  · exact Tr.stuck
theorem intA_ok {op : CmpOp} {a b : AV} {va vb : Value} {r : Bool} (ra : RepO s.heap H va a) (rb : RepO s.heap H vb b) (h : intA op a b = some r) : Tr c q A H (compareOp op va vb) (.ok (.bool r)) s := by
  unfold intA at h
  split at h
  · obtain ⟨t, rfl⟩ := ra; obtain ⟨u, rfl⟩ := rb; exact intCmp_ok h
  · cases h
theorem ordI_some {op : CmpOp} {xs ys : List AV} {r : Bool} (h : ordI op xs ys = some r) : ∃ ns ms, ints? xs = some ns ∧ ints? ys = some ms ∧ r = ordB op (lexI ns ms) := by
  unfold ordI at h
  split at h
  · rename_i ns ms h1 h2; cases h; exact ⟨ns, ms, h1, h2, rfl⟩
  · cases h
theorem rep_isTup {va : Value} {xs : List AV} (r : Rep (vis s.heap H) va (.tup xs)) : ∃ l vs, va = .ref l ∧ s.heap.IsTuple l (List.toArray vs) ∧ RepL (vis s.heap H) vs xs := by
  obtain ⟨l, vs, n, sl, rfl, ho, rl, _⟩ := rep_tup_is r
  exact ⟨l, vs, rfl, ⟨_, ho, rfl, n, rfl⟩, rl⟩
theorem ordV_lt {a b : AV} {va vb : Value} {r : Bool} (hm : Rm c q (k + 1) A s.heap) (ra : RepO s.heap H va a) (rb : RepO s.heap H vb b) (h : ordV .Lt a b = some r) : Tr c q A H (compareOp .Lt va vb) (.ok (.bool r)) s := by
  revert h
  refine two_cases (P := fun o => o = some r → Tr c q A H (compareOp .Lt va vb) (.ok (.bool r)) s) (fun x y ea eb h => ?_) (two_cases (P := fun o => o = some r → Tr c q A H (compareOp .Lt va vb) (.ok (.bool r)) s) (fun x y ea eb h => ?_) (two_cases (P := fun o => o = some r → Tr c q A H (compareOp .Lt va vb) (.ok (.bool r)) s) (fun x y ea eb h => ?_) (two_cases (P := fun o => o = some r → Tr c q A H (compareOp .Lt va vb) (.ok (.bool r)) s) (fun x y ea eb h => ?_) fun h => by cases h)))
  · rw [lst?_eq ea] at ra; rw [lst?_eq eb] at rb
    obtain ⟨ns, ms, h1, h2, rfl⟩ := ordI_some h
    obtain ⟨_, l, vs, rfl, hl, rl⟩ := ra; obtain ⟨_, l', vs', rfl, hl', rl'⟩ := rb
    exact rc_list_lt hm hl hl' (ints_are h1 rl) (ints_are h2 rl')
  · rw [tup?_eq ea] at ra; rw [tup?_eq eb] at rb
    obtain ⟨ns, ms, h1, h2, rfl⟩ := ordI_some h
    obtain ⟨l, vs, rfl, hl, rl⟩ := rep_isTup ra; obtain ⟨l', vs', rfl, hl', rl'⟩ := rep_isTup rb
    exact rc_tuple_lt hm hl hl' (ints_are h1 rl) (ints_are h2 rl')
  · rw [str?_eq ea] at ra; rw [str?_eq eb] at rb
    obtain ⟨t, rfl⟩ := ra; obtain ⟨u, rfl⟩ := rb; cases h
    exact fun Q E P => PySem.P.lt_str (P _ _ (Kp.refl _ _) rfl)
  · rw [bytes?_eq ea] at ra; rw [bytes?_eq eb] at rb
    obtain ⟨t, rfl⟩ := ra; obtain ⟨u, rfl⟩ := rb; cases h
    exact rc_bytes_lt
theorem ordV_ge {a b : AV} {va vb : Value} {r : Bool} (hm : Rm c q (k + 1) A s.heap) (ra : RepO s.heap H va a) (rb : RepO s.heap H vb b) (h : ordV .GtE a b = some r) : Tr c q A H (compareOp .GtE va vb) (.ok (.bool r)) s := by
  revert h
  refine two_cases (P := fun o => o = some r → Tr c q A H (compareOp .GtE va vb) (.ok (.bool r)) s) (fun x y ea eb h => ?_) (two_cases (P := fun o => o = some r → Tr c q A H (compareOp .GtE va vb) (.ok (.bool r)) s) (fun x y ea eb h => ?_) (two_cases (P := fun o => o = some r → Tr c q A H (compareOp .GtE va vb) (.ok (.bool r)) s) (fun x y ea eb h => ?_) (two_cases (P := fun o => o = some r → Tr c q A H (compareOp .GtE va vb) (.ok (.bool r)) s) (fun x y ea eb h => ?_) fun h => by cases h)))
  · rw [lst?_eq ea] at ra; rw [lst?_eq eb] at rb
    obtain ⟨ns, ms, h1, h2, rfl⟩ := ordI_some h
    obtain ⟨_, l, vs, rfl, hl, rl⟩ := ra; obtain ⟨_, l', vs', rfl, hl', rl'⟩ := rb
    exact rc_list_ge hm hl hl' (ints_are h1 rl) (ints_are h2 rl')
  · rw [tup?_eq ea] at ra; rw [tup?_eq eb] at rb
    obtain ⟨ns, ms, h1, h2, rfl⟩ := ordI_some h
    obtain ⟨l, vs, rfl, hl, rl⟩ := rep_isTup ra; obtain ⟨l', vs', rfl, hl', rl'⟩ := rep_isTup rb
    exact rc_tuple_ge hm hl hl' (ints_are h1 rl) (ints_are h2 rl')
  · rw [str?_eq ea] at ra; rw [str?_eq eb] at rb
    obtain ⟨t, rfl⟩ := ra; obtain ⟨u, rfl⟩ := rb; cases h
    exact fun Q E P => PySem.P.ge_str (P _ _ (Kp.refl _ _) rfl)
  · rw [bytes?_eq ea] at ra; rw [bytes?_eq eb] at rb
    obtain ⟨t, rfl⟩ := ra; obtain ⟨u, rfl⟩ := rb; cases h
    exact rc_bytes_ge
theorem ordA_ok {op : CmpOp} {a b : AV} {va vb : Value} {r : Bool} (ra : RepO s.heap H va a) (rb : RepO s.heap H vb b) (h : ordA op a b = some r) (hv : ordV op a b = some r → Tr c q A H (compareOp op va vb) (.ok (.bool r)) s) : Tr c q A H (compareOp op va vb) (.ok (.bool r)) s := by
  unfold ordA at h
  split at h
  · rename_i r' h'; cases h; exact intA_ok ra rb h'
  · exact hv h
theorem opCmp_ok {op : CmpOp} {a b : AV} {va vb : Value} {r : Bool} (hm : Rm c q (k + 1) A s.heap) (ra : RepO s.heap H va a) (rb : RepO s.heap H vb b) (h : opCmp op a b = some r) : Tr c q A H (compareOp op va vb) (.ok (.bool r)) s := by
  cases op with
  | Eq => exact eqCmp_ok hm h ra rb
  | NotEq => exact eqCmp_ok hm h ra rb
  | Lt => exact ordA_ok ra rb h fun h => ordV_lt hm ra rb h
  | Gt => exact intA_ok ra rb h
  | GtE => exact ordA_ok ra rb h fun h => ordV_ge hm ra rb h
  | _ => cases h
theorem opTruth_ok {a : AV} {va : Value} {r : Bool} (ra : RepO s.heap H va a) (h : opTruth a = some r) : TrB c A (truthy va) r s := by
  unfold opTruth at h
  split at h
  · cases h; cases ra; exact fun Q E P => wpAny_truthy_bool (P _ (Kp.refl _ _))
  · cases h; obtain ⟨t, rfl⟩ := ra; exact fun Q E P => PySem.P.truthy_int (P _ (Kp.refl _ _))
  · cases h; cases ra; exact fun Q E P => truthy_none (P _ (Kp.refl _ _))
  · cases h; obtain ⟨hz, l, vs, rfl, hl, rl⟩ := ra; exact truthL_ok hl hz rl
  · cases h
theorem opIdx_ok {a b : AV} {va vb : Value} (ra : RepO s.heap H va a) (rb : RepO s.heap H vb b) : Tr c q A H (getItem va vb) (opIdx a b) s := by
  unfold opIdx
  split
  · obtain ⟨hz, l, vs, rfl, hl, rl⟩ := ra; obtain ⟨u, rfl⟩ := rb
    exact idxL_ok hl hz rl
  · exact Tr.stuck
theorem opIdx_ty {a b : AV} {va : Value} (ra : RepO s.heap H va a) (h : opIdx a b ≠ .stuck) : ∃ T id, s.TypeIs va T ∧ typeLookup (.type T) "__getitem__" = pure (some (.builtin id)) := by
  unfold opIdx at h
  split at h
  · obtain ⟨hz, l, vs, rfl, hl, rl⟩ := ra
    exact ⟨"list", _, hl.typeIs, list_getitem_lookup⟩
  · exact absurd rfl h
theorem opSlice_ok {a x y z : AV} {va : Value} {r : Addr} {ux uy uz : Value} (hL : Live H s.heap) (ra : RepO s.heap H va a) (h1 : Rep (vis s.heap H) ux x) (h2 : Rep (vis s.heap H) uy y) (h3 : Rep (vis s.heap H) uz z)
    (hr : s.heap.get? r = some { cls := .type "slice", data := .fields #[ux, uy, uz] }) : Tr c q A H (getItem va (.ref r)) (opSlice a x y z) s := by
  unfold opSlice
  split
  · rename_i xs hx
    rw [lst?_eq hx] at ra
    obtain ⟨hz, l, vs, rfl, hl, rl⟩ := ra
    exact sliceL_ok hL hl hz rl h1 h2 h3 hr
  · split
    · rename_i hz
      rw [none?_eq hz] at h3
      simp only [Rep] at h3
      subst h3
      split
      · rename_i lo hi e1 e2
        exact cutV_ok hL ra (asPart_ok e1 h1) (asPart_ok e2 h2) ⟨_, hr, rfl, rfl⟩
      · exact Tr.stuck
    · exact Tr.stuck
theorem opSlice_ty {a x y z : AV} {va : Value} (ra : RepO s.heap H va a) (h : opSlice a x y z ≠ .stuck) : ∃ T id, s.TypeIs va T ∧ typeLookup (.type T) "__getitem__" = pure (some (.builtin id)) := by
  unfold opSlice at h
  split at h
  · rename_i xs hx
    rw [lst?_eq hx] at ra
    obtain ⟨hz, l, vs, rfl, hl, rl⟩ := ra
    exact ⟨"list", _, hl.typeIs, list_getitem_lookup⟩
  · split at h
    · split at h
      · unfold cutV at h
        split at h
        · rename_i xs _
          have ra : Rep (vis s.heap H) va (.tup xs) := ra
          obtain ⟨l, vs, n, sl, rfl, ho, _⟩ := rep_tup_is ra
          exact ⟨"tuple", _, ⟨_, ho, rfl⟩, F.slot_tuple_getitem.lookup⟩
        · obtain ⟨t, rfl⟩ := ra; exact ⟨"str", _, rfl, lk_str_gi⟩
        · obtain ⟨t, rfl⟩ := ra; exact ⟨"bytes", _, typeIs_bytes _ _ t, lk_bytes_gi⟩
        · exact absurd rfl h
      · exact absurd rfl h
    · exact absurd rfl h
theorem RepM.notTup {h : Heap} {R : Vw} {a : Addr} : ∀ {mo : MO}, RepM h R a mo → ∃ o, h.get? a = some o ∧ o.cls ≠ .type "tuple"
  | .lst _, ⟨_, _, ⟨o, n, e, c, _⟩, _⟩ => ⟨o, e, by rw [c]; decide⟩
  | .set _ _, ⟨o, es, ep, t, e, c, _⟩ => ⟨o, e, by rw [c]; decide⟩
  | .itr k _, r => by
    obtain ⟨o, e, c, _⟩ := r
    exact ⟨o, e, by rw [c]; cases k <;> decide⟩
theorem opIs_ok {op : CmpOp} {a b : AV} {va vb : Value} {r : Bool} {σ : Store} (S : Sto σ H s.heap) (ra : Rep (vis s.heap H) va a) (rb : Rep (vis s.heap H) vb b) (h : opIs a b = some r) (hop : op = .Is ∨ op = .IsNot) : Tr c q A H (compareOp op va vb) (.ok (.bool (if op = .Is then r else !r))) s := by
  unfold opIs at h
  split at h
  case h_2 => cases h
  rename_i x ha
  cases hb : b.lst? with
  | none => rw [hb] at h; cases h
  | some ys =>
    rw [hb] at h
    cases h
    rw [ptr?_eq ha] at ra
    rw [lst?_eq hb] at rb
    simp only [Rep] at ra rb
    obtain ⟨D, hD, rfl⟩ := ra
    obtain ⟨_, B, vs, n, rfl, ⟨nB, oB, e4, _⟩, _⟩ := rb
    have hD : H.m x = some D := hD
    obtain ⟨mo, e1⟩ := S.tot x D hD
    obtain ⟨D', e2, r1⟩ := S.at' x mo e1
    rw [hD] at e2; cases e2
    obtain ⟨oD, e3, c3⟩ := r1.notTup
    have hne : D ≠ B := fun e => nB (e ▸ S.hid x D mo e1 hD)
    exact is_of (b := false) (fun Q' hq => wpAny_isSame_ref_other hne e3 e4 c3 hq) hop
theorem opOmeth_ok {m : OMI} {D : Addr} {vs : List Value} {xs : List AV} {ws : List Value} {args xs' : List AV} (hl : IsL s.heap D vs) (hz : xs.length ≤ 1048576) (r : RepL (vis s.heap H) vs xs) (ra : RepL (vis s.heap H) ws args) (h : opOmeth m xs args = some xs') (Q E : Value → Shared → Prop)
    (K : ∀ h' vs' tk, IsL h' D vs' → xs'.length ≤ 1048576 → RepL (vis s.heap H) vs' xs' → Heap.SameBut D s.heap h' → Q .none { s with heap := h', toks := tk }) : wpAny c.M A (PySem.call (.builtin ("list." ++ m.name)) (.ref D :: ws)) Q E s := by
  unfold opOmeth at h
  split at h
  · rename_i x
    split at h
    · rename_i hlt
      cases h
      obtain ⟨w, rfl, rw⟩ : ∃ w, ws = [w] ∧ Rep (vis s.heap H) w x := by
        rcases ws with _ | ⟨w, _ | ⟨w', ws⟩⟩
        · simp [RepL] at ra
        · simp only [RepL] at ra; exact ⟨w, rfl, ra.1⟩
        · simp [RepL] at ra
      exact list_appendL (by rw [List.size_toArray, r.length]; exact line_ok (by omega)) hl fun h' l' sb => K h' _ s.toks l' (by simp; omega) (r.append (by simp only [RepL]; exact ⟨rw, trivial⟩)) sb
    · cases h
  · cases h
theorem mt_str_ok {a : AV} {va : Value} {T : String} (ra : RepO s.heap H va a) (h : mt_str a = some T) :
    PlainAttrs T ∧ Slot T "join" (T ++ "." ++ "join") ∧ typeOf (.builtin (T ++ "." ++ "join")) = pure (.type "method_descriptor") ∧ s.TypeIs va T ∧ ∀ b, va = .ref b → ∃ ob, s.heap.get? b = some ob ∧ ob.dict = none := by
  unfold mt_str at h
  obtain ⟨x, hx, rfl⟩ := Option.map_eq_some_iff.mp h
  rw [str?_eq hx] at ra
  obtain ⟨t, rfl⟩ := ra
  exact ⟨PySem.F.plainAttrs_str, PySem.F.slot_str_join, PySem.F.type_str_join, rfl, fun b e => by cases e⟩
theorem opMty_ok {m : MI} {a : AV} {va : Value} {T : String} (ra : RepO s.heap H va a) (h : opMty m a = some T) : PlainAttrs T ∧ Slot T m.name (T ++ "." ++ m.name) ∧ typeOf (.builtin (T ++ "." ++ m.name)) = pure (.type "method_descriptor") ∧ s.TypeIs va T ∧ ∀ b, va = .ref b → ∃ ob, s.heap.get? b = some ob ∧ ob.dict = none := by
  cases m with
  | join => exact mt_str_ok ra h
  | _ => cases h
theorem m_join_ok {a : AV} {va : Value} {xs : List AV} {vs : List Value} {T : String} (ra : RepO s.heap H va a) (rx : RepOL s.heap H vs xs) (h : mt_str a = some T) : Tr c q A H (PySem.call (.builtin (T ++ "." ++ "join")) (va :: vs)) (m_join a xs) s := by
  unfold mt_str at h
  obtain ⟨x, hx, rfl⟩ := Option.map_eq_some_iff.mp h
  rw [str?_eq hx] at ra ⊢
  obtain ⟨t, rfl⟩ := ra
  unfold m_join
  split
  · rename_i y ys e
    cases e
    obtain ⟨v, rfl, hz, l, ws, rfl, hl, rl⟩ := repOL1 rx
    split
    · rename_i zs hz'
      split
      · split
        · exact join_ok hl (strs_are hz' rl) (by assumption) (by assumption)
        · exact Tr.stuck
      · exact Tr.stuck
    · exact Tr.stuck
  · exact Tr.stuck
theorem opMeth_ok {m : MI} {a : AV} {va : Value} {xs : List AV} {vs : List Value} {T : String} (ra : RepO s.heap H va a) (rx : RepOL s.heap H vs xs) (h : opMty m a = some T) : Tr c q A H (PySem.call (.builtin (T ++ "." ++ m.name)) (va :: vs)) (opMeth m a xs) s := by
  cases m with
  | join => exact m_join_ok ra rx h
  | _ => cases h
theorem opAttr_ok {n : TA} {a : AV} {va : Value} (hm : Rm c q (k + 1) A s.heap) (hq : q = true) (ra : RepO s.heap H va a) : Tr c q A H (getAttr va (n.name : Str) true) (opAttr n a) s := by
  cases n with
  | lengthHint => exact Tr.stuck
  | name_ =>
    show Tr c q A H (getAttr va (Str.ofString "__name__") true) (match a.type? with
      | some T => if T = "int" then .ok (.str (Str.ofString "int")) else if T = "NoneType" then .ok (.str (Str.ofString "NoneType")) else if T = "set" then .ok (.str (Str.ofString "set")) else .stuck
      | none => .stuck) s
    split
    case h_2 => exact Tr.stuck
    rename_i T hT
    rw [type?_eq hT] at ra
    have ra : va = .type T := ra
    subst ra
    split
    · rename_i e; subst e; exact fun Q E P => nm_int fun tk u => P _ _ Kp.toks ⟨_, rfl⟩
    · split
      · rename_i e; subst e; exact fun Q E P => nm_none fun tk u => P _ _ Kp.toks ⟨_, rfl⟩
      · split
        · rename_i e; subst e; exact fun Q E P => nm_set fun tk u => P _ _ Kp.toks ⟨_, rfl⟩
        · exact Tr.stuck
theorem opCat_ok {a b : AV} {va vb : Value} {xs : List AV} (hL : Live H s.heap) (ra : RepO s.heap H va a) (rb : RepO s.heap H vb b) (h : opCat a b = some xs) : xs.length ≤ 1048576 ∧ ∀ (Q E : Value → Shared → Prop), (∀ D vs s', Kp A s s' → s.heap.get? D = none → IsL s'.heap D vs → RepL (vis s.heap H) vs xs → Q (.ref D) s') → wpAny c.M A (binaryOp .Add va vb) Q E s := by
  unfold opCat at h
  split at h
  · rename_i x y ea eb
    rw [lst?_eq ea] at ra; rw [lst?_eq eb] at rb
    obtain ⟨hz, l, vs, rfl, hl, rl⟩ := ra; obtain ⟨hz', l', ws, rfl, hl', rl'⟩ := rb
    split at h
    · rename_i hle
      cases h
      refine ⟨by rw [List.length_append]; exact hle, fun Q E K => ?_⟩
      exact lists_addN hl hl' rl rl' hle K
    · cases h
  · cases h
end
noncomputable def Cx.ld (c : Cx) : Bool := !c.w.params.followText "set-order"
theorem ops_ok (c : Cx) : OpsOk c (ops c.ld) where
  ld := rfl
  bin := fun hm hL ra rb => opBin_ok hm hL ra rb
  inpl := fun hm _ ra rb => opInpl_ok hm ra rb
  un := fun _ _ ra => opUn_ok ra
  cmp := fun hm _ ra rb h => opCmp_ok hm ra rb h
  truth := fun _ _ ra h => opTruth_ok ra h
  idx := fun _ _ ra rb => opIdx_ok ra rb
  idxT := fun ra h => opIdx_ty ra h
  slice := fun _ hL ra h1 h2 h3 hr => opSlice_ok hL ra h1 h2 h3 hr
  sliceT := fun ra h => opSlice_ty ra h
  bcall := fun hq hm _ hL r hv => by subst hq; exact callB_ok hm hL r hv
  itemsR := fun h => itemsV_ref h
  items := fun hm hq _ ra h Q E K => itemsV_ok hm hq ra h Q E K
  methT := fun ra h => opMty_ok ra h
  meth := fun _ _ _ ra rx h => opMeth_ok ra rx h
  ometh := fun _ _ _ hl hz r ra h Q E K => opOmeth_ok hl hz r ra h Q E K
  attr := fun hq hm _ ra => opAttr_ok hm hq ra
  is_ := fun _ S ra rb h hop => opIs_ok S ra rb h hop
  cat := fun _ hL ra rb h => opCat_ok hL ra rb h

end Mine
end
section
open PySem PySem.W PyProof.Rows
namespace Mine
set_option maxRecDepth 100000
/-- a def's plain names are bound to what is given -/
noncomputable def BindOk (xs : List Str) : Prop := ∀ (f : Str) (body : List Stmt) (scope : Scope) (pm code doc : Value) (as : List Arg) (vs : List Value), as.map (·.arg) = xs → vs.length = xs.length → bindArgs (PySem.Calls.docDef f ⟨[], as, none, [], [], none, []⟩ body scope pm code doc) ⟨vs, []⟩ = pure (xs.zip vs)
theorem args_nil {as : List Arg} (h : as.map (·.arg) = []) : as = [] := by cases as with | nil => rfl | cons _ _ => cases h
theorem args_cons {as : List Arg} {x : Str} {xs : List Str} (h : as.map (·.arg) = x :: xs) : ∃ a p r, as = ⟨x, a, p⟩ :: r ∧ r.map (·.arg) = xs := by
  cases as with
  | nil => cases h
  | cons y r =>
    obtain ⟨h1, h2⟩ := List.cons.inj h
    cases y with
    | mk n a p => exact ⟨a, p, r, by rw [show n = x from h1], h2⟩
theorem len_cons {vs : List Value} {n : Nat} (h : vs.length = n + 1) : ∃ v r, vs = v :: r ∧ r.length = n := by
  cases vs with
  | nil => cases h
  | cons v r => exact ⟨v, r, rfl, Nat.succ.inj h⟩
theorem bindOk1 {x : Str} (h : ∀ f body scope pm code doc a p v, bindArgs (PySem.Calls.docDef f ⟨[], [⟨x, a, p⟩], none, [], [], none, []⟩ body scope pm code doc) ⟨[v], []⟩ = pure [(x, v)]) : BindOk [x] := fun f body scope pm code doc as vs ha hv => by
  obtain ⟨a, p, r0, rfl, ha1⟩ := args_cons ha
  obtain ⟨v, ws0, rfl, hv1⟩ := len_cons hv
  rw [args_nil ha1, List.length_eq_zero_iff.mp hv1]
  exact h ..
theorem bindOk2 {x y : Str} (h : ∀ f body scope pm code doc a p b q v w, bindArgs (PySem.Calls.docDef f ⟨[], [⟨x, a, p⟩, ⟨y, b, q⟩], none, [], [], none, []⟩ body scope pm code doc) ⟨[v, w], []⟩ = pure [(x, v), (y, w)]) : BindOk [x, y] := fun f body scope pm code doc as vs ha hv => by
  obtain ⟨a, p, r0, rfl, ha1⟩ := args_cons ha
  obtain ⟨b, q, r1, rfl, ha2⟩ := args_cons ha1
  obtain ⟨v, ws0, rfl, hv1⟩ := len_cons hv
  obtain ⟨w, ws1, rfl, hv2⟩ := len_cons hv1
  rw [args_nil ha2, List.length_eq_zero_iff.mp hv2]
  exact h ..
noncomputable def plainParams (a : Arguments) (xs : List Str) : Bool := a.posonlyargs.isEmpty && a.vararg.isNone && a.kwonlyargs.isEmpty && a.kw_defaults.isEmpty && a.kwarg.isNone && a.defaults.isEmpty && a.args.map (·.arg) == xs
/-- a def of the text, looked at -/
noncomputable def defOk (p : Program) (frees : List Str) (fname : Nat → Str) (f : Str) (ns : List Str) (np : Nat) (q : PSs) : Bool := match (recsOf p).find? (fun d => d.name == f) with
  | some d => fnOk frees fname d.scope ns np q d.body && plainParams d.params (ns.take np)
  | none => false
noncomputable def freesOk (p : Program) (loose : List Str) (frees : List Str) : Bool := frees.all fun x => !startupNames.contains x && !loose.contains x && !((recsOf p).map (·.name)).contains x && !((litsOf p).map (·.1)).contains x && !((clssOf p loose).map (·.name)).contains x

theorem frees_of {p : Program} {loose : List Str} {mean : ExcName → Option Value} {mg mb : Str → Option Value} {h : Heap} (T : Top p loose mean mg mb h) {frees : List Str} (hf : freesOk p loose frees = true) : ∀ x ∈ frees, mg x = none := fun x hx => by
  have := List.all_eq_true.mp hf x hx
  simp only [Bool.and_eq_true, Bool.not_eq_true'] at this
  obtain ⟨⟨⟨⟨h1, h2⟩, h3⟩, h4⟩, h5⟩ := this
  exact T.free x (fun z => by rw [List.contains_iff_mem.mpr z] at h1; cases h1) (fun z => by rw [List.contains_iff_mem.mpr z] at h2; cases h2) (fun z => by rw [List.contains_iff_mem.mpr z] at h3; cases h3)
    (fun z => by rw [List.contains_iff_mem.mpr z] at h4; cases h4) (fun z => by rw [List.contains_iff_mem.mpr z] at h5; cases h5)

/-- what a def's text says, ready for calls_of; the last xs may be left out -/
structure DefAt (c : Cx) (frees : List Str) (fname : Nat → Str) (f : Str) (ns : List Str) (np n : Nat) (xs : List AV) (q : PSs) : Prop where
  all : ∃ body scope, FnAt c f body scope ns np n xs ∧ fnOk frees fname scope ns np q body = true
  len : n + xs.length = np
abbrev DefIs (c : Cx) (frees : List Str) (fname : Nat → Str) (f : Str) (ns : List Str) (np : Nat) (q : PSs) : Prop := DefAt c frees fname f ns np np [] q

theorem def_of {prog : Program} {w : World} {p : Program} {loose : List Str} {mean : ExcName → Option Value} {mg mb : Str → Option Value} {h : Heap} (T : Top p loose mean mg mb h) {frees : List Str} {fname : Nat → Str} {f : Str} {ns : List Str} {np : Nat} {q : PSs}
    (hd : defOk p frees fname f ns np q = true) (hb : BindOk (ns.take np)) : DefIs ⟨prog, w, h, mg, mb, T.g, T.b, T.builtins, T.nolimit⟩ frees fname f ns np q := by
  refine ⟨?_, rfl⟩
  unfold defOk at hd
  cases e : (recsOf p).find? (fun d => d.name == f) with
  | none => rw [e] at hd; cases hd
  | some d =>
    rw [e] at hd
    simp only [Bool.and_eq_true] at hd
    obtain ⟨h1, h2⟩ := hd
    have hn : d.name = f := by have := List.find?_some e; simpa using this
    have hm := List.mem_of_find?_eq_some e
    subst hn
    obtain ⟨a, o, pm, code, doc, f1, f2, f3, f4⟩ := T.fn d hm
    refine ⟨d.body, d.scope, ⟨a, o, _, [], f1, f2, f3, rfl, rfl, rfl, rfl, rfl, rfl, f4, fun R => by simp [RepL], fun s vs _ hl => .of_eq ?_⟩, h1⟩
    rw [List.append_nil]
    unfold plainParams at h2
    simp only [Bool.and_eq_true, List.isEmpty_iff, Option.isNone_iff_eq_none, beq_iff_eq] at h2
    obtain ⟨⟨⟨⟨⟨⟨a1, a2⟩, a3⟩, a4⟩, a5⟩, a6⟩, a7⟩ := h2
    have hp : d.params = ⟨[], d.params.args, none, [], [], none, []⟩ := by
      rcases hq : d.params with ⟨x1, x2, x3, x4, x5, x6, x7⟩
      rw [hq] at a1 a2 a3 a4 a5 a6
      simp only at a1 a2 a3 a4 a5 a6
      rw [a1, a2, a3, a4, a5, a6]
    simp only [fnOk, Bool.and_eq_true, decide_eq_true_eq] at h1
    rw [hp]
    exact hb _ _ _ _ _ _ _ _ a7 (by rw [List.length_take, Nat.min_eq_left h1.1.2]; exact hl)

section
variable {c : Cx} {O : OpsF} (OK : OpsOk c O) {k : Nat} {cal : Cal} {fname : Nat → Str} (CO : CallsOk c k cal fname) {frees : List Str} (hfree : ∀ x ∈ frees, c.mg x = none)
include OK CO hfree
theorem DefAt.calls {f : Str} {ns : List Str} {np n : Nat} {p : PSs} {args xs : List AV} {σ : Store} {lo : Nat} (D : DefAt c frees fname f ns np n xs p) (hargs : args.length = n) : Calls c (k + 2) f σ lo args (fnRes (pxs O cal true (st0 (args ++ xs) ns.length σ lo) p)) := by
  obtain ⟨body, scope, h1, h2⟩ := D.all
  exact calls_of OK CO hfree h1 h2 hargs D.len
theorem DefAt.calls0 {f : Str} {ns : List Str} {np : Nat} {p : PSs} {args : List AV} {σ : Store} {lo : Nat} (D : DefIs c frees fname f ns np p) (hargs : args.length = np) : Calls c (k + 2) f σ lo args (fnRes (pxs O cal true (st0 args ns.length σ lo) p)) := by
  have := DefAt.calls OK CO hfree (σ := σ) (lo := lo) D hargs
  rwa [List.append_nil] at this
theorem DefAt.code {f : Str} {ns : List Str} {np : Nat} {p : PSs} {args : List AV} {σ : Store} {lo : Nat} (D : DefIs c frees fname f ns np p) (hargs : args.length = np)
    {A : Around} {s : Shared} {H : Hd} {vs : List Value} {a : Addr} {Q E : Value → Shared → Prop} (hm : Rm c true (k + 2) A s.heap) (hst : c.h0.StaysIn s.heap) (hL : Live H s.heap) (S : Sto σ H s.heap) (hm0 : ∀ n a, H.m n = some a → c.h0.get? a = none) (hr : RepL (vis s.heap H) vs args) (hmg : c.mg f = some (.ref a))
    (P : PostE true A lo σ H (fnRes (pxs O cal true (st0 args ns.length σ lo) p)) s Q E) : codeAny c.M A (.call (.ref a) ⟨vs, []⟩) (fun r s' => match r with | .ok (.ret v) => Q v s' | .ok _ => False | .error e => E e s') s := by
  obtain ⟨body, scope, h1, h2⟩ := D.all
  exact code_of OK CO hfree h1 h2 hargs rfl hm hst hL S hm0 hr hmg (by rw [List.append_nil]; exact P)
end
theorem DefAt.obj {c : Cx} {frees : List Str} {fname : Nat → Str} {f : Str} {ns : List Str} {np n : Nat} {xs : List AV} {q : PSs} (D : DefAt c frees fname f ns np n xs q) : FnObj c f := by
  obtain ⟨body, scope, h1, h2⟩ := D.all
  exact h1.obj

theorem Calls.mono {c : Cx} {k k' : Nat} {f : Str} {σ : Store} {lo : Nat} {args : List AV} {r : ER} (h : Calls c k f σ lo args r) (hk : k ≤ k') : Calls c k' f σ lo args r := fun A s H vs a hm => h A s H vs a ⟨by have := hm.depth; omega, by have := hm.units; omega, hm.hand, hm.frames⟩

/-- one more def may be called -/
noncomputable def ext (O : OpsF) (cal : Cal) (i np : Nat) (ns : List Str) (p : PSs) : Cal := fun σ lo f args => if f = i then (if args.length = np then fnRes (pxs O cal true (st0 args ns.length σ lo) p) else .stuck) else cal σ lo f args
theorem ext_hit {O : OpsF} {cal : Cal} {i np : Nat} {ns : List Str} {p : PSs} {σ : Store} {lo : Nat} {args : List AV} (h : args.length = np) : ext O cal i np ns p σ lo i args = fnRes (pxs O cal true (st0 args ns.length σ lo) p) := by
  unfold ext; rw [if_pos rfl, if_pos h]
theorem ext_ne {O : OpsF} {cal : Cal} {i np : Nat} {ns : List Str} {p : PSs} {σ : Store} {lo f : Nat} {args : List AV} (h : f ≠ i) : ext O cal i np ns p σ lo f args = cal σ lo f args := by
  unfold ext; rw [if_neg h]
theorem ext_ok {c : Cx} {O : OpsF} (OK : OpsOk c O) {k : Nat} {cal : Cal} {fname : Nat → Str} (CO : CallsOk c k cal fname) {frees : List Str} (hfree : ∀ x ∈ frees, c.mg x = none) {i np : Nat} {ns : List Str} {p : PSs} (D : DefIs c frees fname (fname i) ns np p) : CallsOk c (k + 2) (ext O cal i np ns p) fname := ⟨fun σ lo f args h => by
  by_cases hf : f = i
  · subst hf
    by_cases hl : args.length = np
    · rw [ext_hit hl]
      exact ⟨DefAt.calls0 OK CO hfree D hl, D.obj⟩
    · exact absurd (by unfold ext; rw [if_pos rfl, if_neg hl]) h
  · rw [ext_ne hf] at h ⊢
    obtain ⟨a, b⟩ := CO.ok σ lo f args h
    exact ⟨a.mono (by omega), b⟩⟩

/- what leaves no thing of the store behind -/
/-- nothing is hidden -/
noncomputable def H0 : Hd := ⟨fun _ => False, fun _ => none, fun _ => none⟩
theorem sto0 (h : Heap) : Sto [] H0 h where
  at' := fun n mo e => by simp at e
  inj := fun n n' a e => by cases e
  lt := fun n a e => by cases e
  hid := fun n a mo _ e => by cases e
  al := fun n a e => by cases e
  tot := fun n a e => by cases e
/-- the script as a value -/
theorem script_rep {h : Heap} {l : Addr} {vs : List Value} {ns : List Int} (hl : IsL h l vs) (hI : IntsAre vs ns) (hz : ns.length ≤ 1048576) : RepL (vis h H0) [.ref l] [.lst (ns.map .int)] := by
  obtain ⟨o, n, e, hc, hd, hdi⟩ := hl
  have : ∀ {vs : List Value} {ns : List Int}, IntsAre vs ns → RepL (vis h H0) vs (ns.map .int) := by
    intro vs ns hI
    induction hI with
    | nil => simp [RepL]
    | cons n t _ ih => simp only [List.map_cons, RepL, Rep]; exact ⟨⟨t, rfl⟩, ih⟩
  simp only [RepL, Rep, and_true]
  exact ⟨by simpa using hz, l, vs, n, rfl, ⟨(fun z => z : ¬ H0.p l), o, e, hc, hd, hdi, .inl rfl, fun ⟨fs, z⟩ => by cases z⟩, this hI⟩

/-- the top: a law that comes to True -/
theorem kp_top {s s' : Shared} (k : Kp callerA s s') : (∀ b o, s.heap.get? b = some o → s'.heap.get? b = some o) ∧ s'.os = s.os ∧ s'.gens = s.gens := by
  obtain ⟨h', tk, rfl, kh⟩ := k
  refine ⟨fun b o e => (kh b o e).1 (.inl ?_), rfl, rfl⟩
  rintro ⟨l, hl, hb⟩
  cases hl
  simp at hb

theorem isL_of_well {P : Params} {h : Heap} {l : Addr} {vs : List Value} {ys : List WData} {d : WData} (hL : h.IsList l vs.toArray) (w : Well P h (.ref l) d) (e : d = .list ys) : IsL h l vs := by
  cases w <;> try (cases e)
  rename_i vs' e _
  obtain ⟨o', e', hc', n', hd'⟩ := hL
  rw [e] at e'; cases e'
  exact ⟨_, _, e, rfl, hd', rfl⟩
end Mine
end
section
open PySem PySem.W PyProof.Rows
namespace Mine
set_option maxRecDepth 100000
section
variable {O : OpsF} {cal : Cal} {q : Bool} {st : Fs}
theorem pe_const {v : AV} : pe O cal q st (.const v) = .of O.truth st.ρ (.ok (.av v) st.σ) := rfl
theorem pe_name {i : Nat} : pe O cal q st (.name i) = .of O.truth st.ρ (slotV st i) := rfl
theorem pe_glob {b : BI} : pe O cal q st (.glob b) = .of O.truth st.ρ (.ok (.av (.type b.name)) st.σ) := rfl
theorem pe_bin {op : Operator} {l r : PE} : pe O cal q st (.bin op l r) = .of O.truth st.ρ ((pe O cal q st l).v.bind fun a σ₁ => (pe O cal q (st.at σ₁) r).v.bind fun b σ₂ => ofRes (O.bin op (derefS st.ρ σ₂ a) (derefS st.ρ σ₂ b)) σ₂) := rfl
theorem pe_not {x : PE} : pe O cal q st (.un .Not x) = ⟨(pe O cal q st x).v.bind fun a σ₁ => ofRes (O.un .Not (derefS st.ρ σ₁ a)) σ₁, (pe O cal q st x).t.map fun p => (!p.1, p.2)⟩ := rfl
theorem pe_neg {x : PE} : pe O cal q st (.un .USub x) = .of O.truth st.ρ ((pe O cal q st x).v.bind fun a σ₁ => ofRes (O.un .USub (derefS st.ρ σ₁ a)) σ₁) := rfl
theorem pe_is {l r : PE} : pe O cal q st (.cmp .Is l r) = .of O.truth st.ρ ((pe O cal q st l).v.bindA fun a σ₁ => (pe O cal q (st.at σ₁) r).v.bindA fun b σ₂ => ofB (O.is_ a b) σ₂) := rfl
theorem pe_isnot {l r : PE} : pe O cal q st (.cmp .IsNot l r) = .of O.truth st.ρ ((pe O cal q st l).v.bindA fun a σ₁ => (pe O cal q (st.at σ₁) r).v.bindA fun b σ₂ => ofB ((O.is_ a b).map (!·)) σ₂) := rfl
noncomputable def isIs : CmpOp → Bool
  | .Is => true
  | .IsNot => true
  | _ => false
theorem pe_cmp {op : CmpOp} {l r : PE} (h : isIs op = false) : pe O cal q st (.cmp op l r) = .of O.truth st.ρ ((pe O cal q st l).v.bind fun a σ₁ => (pe O cal q (st.at σ₁) r).v.bind fun b σ₂ => ofB (O.cmp op (derefS st.ρ σ₂ a) (derefS st.ρ σ₂ b)) σ₂) := by
  cases op <;> first | (cases h; done) | rfl
theorem pe_eq {l r : PE} : pe O cal q st (.cmp .Eq l r) = .of O.truth st.ρ ((pe O cal q st l).v.bind fun a σ₁ => (pe O cal q (st.at σ₁) r).v.bind fun b σ₂ => ofB (O.cmp .Eq (derefS st.ρ σ₂ a) (derefS st.ρ σ₂ b)) σ₂) := pe_cmp rfl
theorem pe_ne {l r : PE} : pe O cal q st (.cmp .NotEq l r) = .of O.truth st.ρ ((pe O cal q st l).v.bind fun a σ₁ => (pe O cal q (st.at σ₁) r).v.bind fun b σ₂ => ofB (O.cmp .NotEq (derefS st.ρ σ₂ a) (derefS st.ρ σ₂ b)) σ₂) := pe_cmp rfl
theorem pe_lt {l r : PE} : pe O cal q st (.cmp .Lt l r) = .of O.truth st.ρ ((pe O cal q st l).v.bind fun a σ₁ => (pe O cal q (st.at σ₁) r).v.bind fun b σ₂ => ofB (O.cmp .Lt (derefS st.ρ σ₂ a) (derefS st.ρ σ₂ b)) σ₂) := pe_cmp rfl
theorem pe_le {l r : PE} : pe O cal q st (.cmp .LtE l r) = .of O.truth st.ρ ((pe O cal q st l).v.bind fun a σ₁ => (pe O cal q (st.at σ₁) r).v.bind fun b σ₂ => ofB (O.cmp .LtE (derefS st.ρ σ₂ a) (derefS st.ρ σ₂ b)) σ₂) := pe_cmp rfl
theorem pe_gt {l r : PE} : pe O cal q st (.cmp .Gt l r) = .of O.truth st.ρ ((pe O cal q st l).v.bind fun a σ₁ => (pe O cal q (st.at σ₁) r).v.bind fun b σ₂ => ofB (O.cmp .Gt (derefS st.ρ σ₂ a) (derefS st.ρ σ₂ b)) σ₂) := pe_cmp rfl
theorem pe_ge {l r : PE} : pe O cal q st (.cmp .GtE l r) = .of O.truth st.ρ ((pe O cal q st l).v.bind fun a σ₁ => (pe O cal q (st.at σ₁) r).v.bind fun b σ₂ => ofB (O.cmp .GtE (derefS st.ρ σ₂ a) (derefS st.ρ σ₂ b)) σ₂) := pe_cmp rfl
theorem pe_in {l r : PE} : pe O cal q st (.cmp .In l r) = .of O.truth st.ρ ((pe O cal q st l).v.bind fun a σ₁ => (pe O cal q (st.at σ₁) r).v.bind fun b σ₂ => ofB (O.cmp .In (derefS st.ρ σ₂ a) (derefS st.ρ σ₂ b)) σ₂) := pe_cmp rfl
theorem pe_notin {l r : PE} : pe O cal q st (.cmp .NotIn l r) = .of O.truth st.ρ ((pe O cal q st l).v.bind fun a σ₁ => (pe O cal q (st.at σ₁) r).v.bind fun b σ₂ => ofB (O.cmp .NotIn (derefS st.ρ σ₂ a) (derefS st.ρ σ₂ b)) σ₂) := pe_cmp rfl
theorem pe_bop {op : BoolOp} {xs : PEs} : pe O cal q st (.bop op xs) = ⟨pbop O cal q st op xs, pall O cal q st op xs⟩ := rfl
theorem pe_ife {t a b : PE} : pe O cal q st (.ife t a b) = match (pe O cal q st t).t with
    | some (true, σ₁) => pe O cal q (st.at σ₁) a
    | some (false, σ₁) => pe O cal q (st.at σ₁) b
    | none => ⟨.stuck, none⟩ := rfl
theorem pe_list {xs : PEs} : pe O cal q st (.list xs) = .of O.truth st.ρ (onP (pes O cal q st xs) fun l σ₁ => if l.length ≤ 100 then .ok (.av (.lst l)) σ₁ else .stuck) := rfl
theorem pe_tup {xs : PEs} : pe O cal q st (.tup xs) = .of O.truth st.ρ (onP (pes O cal q st xs) fun l σ₁ => if l.length ≤ 100 then .ok (.av (.tup l)) σ₁ else .stuck) := rfl
theorem pe_sub {o i : PE} : pe O cal q st (.sub o i) = .of O.truth st.ρ ((pe O cal q st o).v.bind fun a σ₁ => (pe O cal q (st.at σ₁) i).v.bind fun b σ₂ => ofRes (O.idx (derefS st.ρ σ₂ a) (derefS st.ρ σ₂ b)) σ₂) := rfl
theorem pe_slice {o a b s : PE} : pe O cal q st (.slice o a b s) = .of O.truth st.ρ ((pe O cal q st o).v.bind fun v σ₁ => (pe O cal q (st.at σ₁) a).v.bindA fun x σ₂ => (pe O cal q (st.at σ₂) b).v.bindA fun y σ₃ => (pe O cal q (st.at σ₃) s).v.bindA fun z σ₄ => ofRes (O.slice (derefS st.ρ σ₄ v) x y z) σ₄) := rfl
theorem pe_call {f : Nat} {xs : PEs} : pe O cal true st (.call f xs) = .of O.truth st.ρ (onP (pes O cal true st xs) fun l σ₁ => cal σ₁ st.lo f l) := rfl
theorem pe_bcall {f : BI} {xs : PEs} : pe O cal true st (.bcall f xs) = .of O.truth st.ρ (onL (pes O cal true st xs) fun l σ₁ => ofRes (O.bcall f (l.map (derefS st.ρ σ₁))) σ₁) := rfl
theorem pe_meth {o : PE} {m : MI} {xs : PEs} : pe O cal true st (.meth o m xs) = .of O.truth st.ρ ((pe O cal true st o).v.bind fun a σ₁ => onL (pes O cal true (st.at σ₁) xs) fun l σ₂ => (match O.mty m (derefS st.ρ σ₁ a), O.mty m (derefS st.ρ σ₂ a) with
      | some T, some T' => if T = T' then ofRes (O.meth m (derefS st.ρ σ₂ a) (l.map (derefS st.ρ σ₂))) σ₂ else .stuck
      | _, _ => .stuck)) := rfl
theorem pe_setd {x : PE} : pe O cal q st (.setd x) = .of O.truth st.ρ ((pe O cal q st x).v.bindA fun a σ₁ => match a with | .int i => (if 0 ≤ i ∧ i < 32 then .ok (.av (.set false O.ld [i])) σ₁ else .stuck) | _ => .stuck) := rfl
theorem pe_attr {x : PE} {n : TA} : pe O cal true st (.attr x n) = .of O.truth st.ρ ((pe O cal true st x).v.bind fun a σ₁ => ofRes (O.attr n (derefS st.ρ σ₁ a)) σ₁) := rfl
theorem pes_nil' : pes O cal q st .nil = some ([], st.σ) := rfl
theorem pes_cons {e : PE} {es : PEs} : pes O cal q st (.cons e es) = match (pe O cal q st e).v with
    | .ok v σ₁ => (match pes O cal q (st.at σ₁) es with
      | some (l, σ₂) => some (v :: l, σ₂)
      | none => none)
    | _ => none := rfl
theorem pr_v {tr : AV → Option Bool} {ρ : List (Option Ent)} {r : ER} : (PR.of tr ρ r).v = r := rfl
theorem pr_t {tr : AV → Option Bool} {ρ : List (Option Ent)} {r : ER} : (PR.of tr ρ r).t = r.truth tr ρ := rfl
theorem bind_ok {v : OV} {σ : Store} {f : OV → Store → ER} : (ER.ok v σ).bind f = f v σ := rfl
theorem bindA_ok {v : AV} {σ : Store} {f : AV → Store → ER} : (ER.ok (.av v) σ).bindA f = f v σ := rfl
theorem truth_ok {tr : AV → Option Bool} {ρ : List (Option Ent)} {v : OV} {σ : Store} : (ER.ok v σ).truth tr ρ = (tr (derefS ρ σ v)).map fun b => (b, σ) := rfl
theorem ofB_some {b : Bool} {σ : Store} : ofB (some b) σ = .ok (.av (.bool b)) σ := rfl
theorem ofRes_ok {v : AV} {σ : Store} : ofRes (.ok v) σ = .ok (.av v) σ := rfl
theorem ofRes_exc {v : EX} {σ : Store} : ofRes (.exc v) σ = .exc v σ := rfl
theorem onL_some {l : List OV} {σ : Store} {f : List OV → Store → ER} : onL (some (l, σ)) f = f l σ := rfl
theorem onP_some {l : List OV} {σ : Store} {f : List AV → Store → ER} : onP (some (l, σ)) f = match plains l with | some l => f l σ | none => .stuck := rfl
theorem plains_nil : plains [] = some [] := rfl
theorem plains_cons {x : AV} {r : List OV} : plains (.av x :: r) = (plains r).map (x :: ·) := rfl
theorem pall_and_nil : pall O cal q st .And .nil = some (true, st.σ) := by rw [pall]; rfl
theorem pall_or_nil : pall O cal q st .Or .nil = some (false, st.σ) := by rw [pall]; rfl
theorem pall_and_cons {e : PE} {es : PEs} : pall O cal q st .And (.cons e es) = match (pe O cal q st e).t with | some (false, σ₁) => some (false, σ₁) | some (true, σ₁) => pall O cal q (st.at σ₁) .And es | none => none := by
  rw [pall.eq_def]
  dsimp only
  cases (pe O cal q st e).t with
  | none => rfl
  | some p => obtain ⟨b, σ⟩ := p; cases b <;> rfl
theorem pall_or_cons {e : PE} {es : PEs} : pall O cal q st .Or (.cons e es) = match (pe O cal q st e).t with | some (true, σ₁) => some (true, σ₁) | some (false, σ₁) => pall O cal q (st.at σ₁) .Or es | none => none := by
  rw [pall.eq_def]
  dsimp only
  cases (pe O cal q st e).t with
  | none => rfl
  | some p => obtain ⟨b, σ⟩ := p; cases b <;> rfl
theorem pbop_one {op : BoolOp} {e : PE} : pbop O cal q st op (.cons e .nil) = (pe O cal q st e).v := by rw [pbop]
theorem pbop_and {e e' : PE} {es : PEs} : pbop O cal q st .And (.cons e (.cons e' es)) = (pe O cal q st e).v.bind fun v σ₁ => match O.truth (derefS st.ρ σ₁ v) with | some false => .ok v σ₁ | some true => pbop O cal q (st.at σ₁) .And (.cons e' es) | none => .stuck := by
  rw [pbop]
  congr 1
  funext v σ₁
  cases O.truth (derefS st.ρ σ₁ v) with
  | none => rfl
  | some b => cases b <;> rfl
theorem pbop_or {e e' : PE} {es : PEs} : pbop O cal q st .Or (.cons e (.cons e' es)) = (pe O cal q st e).v.bind fun v σ₁ => match O.truth (derefS st.ρ σ₁ v) with | some true => .ok v σ₁ | some false => pbop O cal q (st.at σ₁) .Or (.cons e' es) | none => .stuck := by
  rw [pbop]
  congr 1
  funext v σ₁
  cases O.truth (derefS st.ρ σ₁ v) with
  | none => rfl
  | some b => cases b <;> rfl
theorem pe_comp {caps : List Nat} {elt src : PE} {conds : PEs} {a : OV} {σ₁ : Store} {l ys : List AV} (h1 : (pe O cal true st src).v = .ok a σ₁) (h2 : O.items (derefS st.ρ σ₁ a) = some l)
    (h3 : mapF (fun x => compF σ₁.length (pall O cal true ((st.at σ₁).inner caps x) .And conds) (pe O cal true ((st.at σ₁).inner caps x) elt).v) l = some ys) : pe O cal true st (.comp caps elt src conds) = .of O.truth st.ρ (.ok (.av (.lst ys)) σ₁) := by
  rw [qe_comp, h1]
  simp only [ER.bind, h2, onItems, h3]
theorem pe_compc {caps : List Nat} {elt src : PE} {conds : PEs} {a : OV} {σ₁ : Store} {l ys : List AV} (h1 : (pe O cal true st src).v = .ok a σ₁) (h2 : O.items (derefS st.ρ σ₁ a) = some l)
    (h3 : mapF (fun x => compF σ₁.length (pall O cal true ((st.at σ₁).inner caps x) .And conds) (pe O cal true ((st.at σ₁).inner caps x) elt).v) l = some ys) : pe O cal true st (.compc caps elt src conds) = .of O.truth st.ρ (.ok (.av (.lst ys)) σ₁) := by
  rw [qe_compc, h1]
  simp only [ER.bind, h2, onItems, h3]
theorem pe_cat {l r : PE} : pe O cal q st (.cat l r) = .of O.truth st.ρ ((pe O cal q st l).v.bind fun a σ₁ => (pe O cal q (st.at σ₁) r).v.bind fun b σ₂ => catF (O.cat (derefS st.ρ σ₂ a) (derefS st.ρ σ₂ b)) (O.bin .Add (derefS st.ρ σ₂ a) (derefS st.ρ σ₂ b)) σ₂) := rfl
end
theorem mapF_gen {α : Type} {f : AV → Option (Option AV)} {g : α → AV} {h : α → Option AV} : ∀ {l : List α}, (∀ j ∈ l, f (g j) = some (h j)) → mapF f (l.map g) = some (l.filterMap h)
  | [], _ => rfl
  | a :: l, k => by
    have ih := mapF_gen (f := f) (g := g) (h := h) (l := l) fun j hj => k j (List.mem_cons_of_mem _ hj)
    simp only [List.map_cons, mapF, k a (List.mem_cons_self ..), List.filterMap_cons]
    cases h a with
    | none => exact ih
    | some y => simp only [ih, Option.map_some]
theorem mapF_map {α : Type} {f : AV → Option (Option AV)} {g h : α → AV} {l : List α} (k : ∀ j ∈ l, f (g j) = some (some (h j))) : mapF f (l.map g) = some (l.map h) := by
  rw [mapF_gen (h := fun j => some (h j)) k]
  congr 1
  rw [← List.filterMap_eq_map]; rfl
theorem mapF_filter {α : Type} {f : AV → Option (Option AV)} {g h : α → AV} {p : α → Bool} {l : List α} (k : ∀ j ∈ l, f (g j) = some (if p j = true then some (h j) else none)) : mapF f (l.map g) = some ((l.filter p).map h) := by
  rw [mapF_gen (h := fun j => if p j = true then some (h j) else none) k]
  congr 1
  induction l with
  | nil => rfl
  | cons a l ih =>
    have ih := ih fun j hj => k j (List.mem_cons_of_mem _ hj)
    simp only [List.filterMap_cons, List.filter_cons]
    cases p a <;> simp [ih]
theorem compF_t {n : Nat} {σ : Store} {e : ER} {v : AV} {σ' : Store} (h : e = .ok (.av v) σ') (hn : σ'.length = n) : compF n (some (true, σ)) e = some (some v) := by
  subst h
  simp [compF, elemF, hn]
/- what holds of the end of a row of statements -/
section
variable {O : OpsF} {cal : Cal} {q : Bool} {st : Fs} {K : FR → Prop} {r : PSs}
noncomputable def thenK (O : OpsF) (cal : Cal) (q : Bool) (r : PSs) (K : FR → Prop) : FR → Prop
  | .next st' => K (pxs O cal q st' r)
  | f => K f
theorem pk_cons {s : PS} (h : thenK O cal q r K (px O cal q st s)) : K (pxs O cal q st (.cons s r)) := by
  rw [qxs_cons]
  revert h
  cases px O cal q st s <;> exact fun h => h
theorem pk_step {s : PS} {st' : Fs} (h : px O cal q st s = .next st') (k : K (pxs O cal q st' r)) : K (pxs O cal q st (.cons s r)) := by
  rw [qxs_cons, h]; exact k
theorem pk_nil (h : K (.next st)) : K (pxs O cal q st .nil) := by rw [qxs_nil]; exact h
theorem tk_nil (h : K (pxs O cal q st r)) : thenK O cal q r K (pxs O cal q st .nil) := by rw [qxs_nil]; exact h
theorem pk_assign {i : Nat} {e : PE} {v : AV} {σ : Store} (h : (pe O cal q st e).v = .ok (.av v) σ) (k : K (pxs O cal q ((st.at σ).set i (.val v)) r)) : K (pxs O cal q st (.cons (.assign i e) r)) := by
  refine pk_step ?_ k
  rw [qx_assign, h]; rfl
theorem pk_own {i : Nat} {xs : PEs} {ol : List OV} {ys : List AV} {σ : Store} (h : pes O cal q st xs = some (ol, σ)) (hp : plains ol = some ys) (hl : ys.length ≤ 100) (k : K (pxs O cal q ((st.at σ).set i (.own ys)) r)) : K (pxs O cal q st (.cons (.ownl i xs) r)) := by
  refine pk_step ?_ k
  rw [qx_ownl]; simp only [h, hp, hl, if_true]
theorem pk_unpack2 {i j : Nat} {a b : PE} {x y : AV} {σ₁ σ : Store} (h1 : (pe O cal true st a).v = .ok (.av x) σ₁) (h2 : (pe O cal true (st.at σ₁) b).v = .ok (.av y) σ) (k : K (pxs O cal true (((st.at σ).set i (.val x)).set j (.val y)) r)) : K (pxs O cal true st (.cons (.unpack2 i j a b) r)) := by
  refine pk_step ?_ k
  have e : (pe O cal true st (.tup (.cons a (.cons b .nil)))).v = .ok (.av (.tup [x, y])) σ := by
    rw [pe_tup, pr_v, pes_cons, h1]
    simp only [pes_cons, h2, pes_nil', onP_some, plains, Option.map_some]
    rfl
  rw [qx_unpack2, e]; rfl
theorem pk_ometh {i : Nat} {m : OMI} {es : PEs} {xs xs' l : List AV} {ol : List OV} {σ : Store} (hi : ownOf st i = some xs) (h : pes O cal true st es = some (ol, σ)) (hp : plains ol = some l) (hm : O.ometh m xs l = some xs') (k : K (pxs O cal true ((st.at σ).set i (.own xs')) r)) : K (pxs O cal true st (.cons (.ometh i m es none) r)) := by
  refine pk_step ?_ k
  rw [qx_ometh]; simp only [omethF, h, hp, hi, hm]
theorem pk_if {t : PE} {a b : PSs} {c : Bool} {σ : Store} (h : (pe O cal q st t).t = some (c, σ)) (k : if c = true then thenK O cal q r K (pxs O cal q (st.at σ) a) else thenK O cal q r K (pxs O cal q (st.at σ) b)) : K (pxs O cal q st (.cons (.ite t a b) r)) := by
  refine pk_cons ?_
  rw [qx_ite, h]
  cases c <;> simpa using k
theorem pk_if_t {t : PE} {a b : PSs} {σ : Store} (h : (pe O cal q st t).t = some (true, σ)) (k : thenK O cal q r K (pxs O cal q (st.at σ) a)) : K (pxs O cal q st (.cons (.ite t a b) r)) := pk_if h (by simpa using k)
theorem pk_if_f {t : PE} {a b : PSs} {σ : Store} (h : (pe O cal q st t).t = some (false, σ)) (k : thenK O cal q r K (pxs O cal q (st.at σ) b)) : K (pxs O cal q st (.cons (.ite t a b) r)) := pk_if h (by simpa using k)
/-- an if that is passed by -/
theorem pk_skip {t : PE} {a : PSs} {σ : Store} (h : (pe O cal q st t).t = some (false, σ)) (k : K (pxs O cal q (st.at σ) r)) : K (pxs O cal q st (.cons (.ite t a .nil) r)) := pk_if_f h (by rw [qxs_nil]; exact k)
theorem pk_ret {e : PE} {v : AV} {σ : Store} (h : (pe O cal q st e).v = .ok (.av v) σ) (k : K (.ret v σ)) : K (pxs O cal q st (.cons (.ret e) r)) := by
  refine pk_cons ?_
  rw [qx_ret, h]; exact k
theorem pk_retOwn {i : Nat} {xs : List AV} (h : ownOf st i = some xs) (k : K (.ret (.lst xs) st.σ)) : K (pxs O cal q st (.cons (.retOwn i) r)) := by
  refine pk_cons ?_
  rw [qx_retOwn]; simp only [h]; exact k
/-- what holds of a turn's end -/
noncomputable def loopK (I : Fs → Prop) (K : FR → Prop) : FR → Prop
  | .next st' => I st'
  | .cont st' => I st'
  | .brk st' => K (.next st')
  | .ret v σ => K (.ret v σ)
  | _ => False
theorem forF_inv {f : AV → Fs → FR} (I : Nat → Fs → Prop) : ∀ (l : List AV) (n : Nat) (st : Fs), I n st → (∀ j x st, l[j]? = some x → I (n + j) st → loopK (I (n + j + 1)) K (f x st)) → (∀ st, I (n + l.length) st → K (.next st)) → K (forF f l st)
  | [], n, st, h0, _, hd => hd st (by simpa using h0)
  | x :: l, n, st, h0, hs, hd => by
    have h1 := hs 0 x st (by simp) (by simpa using h0)
    have go : ∀ st', I (n + 0 + 1) st' → K (forF f l st') := fun st' h' => by
      refine forF_inv I l (n + 1) st' (by simpa using h') (fun j y st hj hI => ?_) (fun st hI => hd st ?_)
      · have := hs (j + 1) y st (by simpa using hj) (by rw [show n + (j + 1) = n + 1 + j by omega]; exact hI)
        rw [show n + (j + 1) + 1 = n + 1 + j + 1 by omega] at this
        exact this
      · rw [List.length_cons, show n + (l.length + 1) = n + 1 + l.length by omega]; exact hI
    rw [forF]
    revert h1
    cases f x st with
    | next st' => exact fun h => go st' h
    | cont st' => exact fun h => go st' h
    | brk st' => exact fun h => h
    | ret v σ => exact fun h => h
    | exc _ _ => exact fun h => h.elim
    | stuck => exact fun h => h.elim
theorem pk_for {i : Nat} {src : PE} {body : PSs} {v : AV} {σ : Store} {l : List AV} (I : Nat → Fs → Prop) (h : (pe O cal true st src).v = .ok (.av v) σ) (hi : O.items v = some l) (h0 : I 0 (st.at σ))
    (hs : ∀ j x st, l[j]? = some x → I j st → loopK (I (j + 1)) (thenK O cal true r K) (pxs O cal true (st.set i (.val x)) body)) (hd : ∀ st, I l.length st → K (pxs O cal true st r)) : K (pxs O cal true st (.cons (.for_ i src body) r)) := by
  refine pk_cons ?_
  have e : px O cal true st (.for_ i src body) = forF (fun x st => pxs O cal true (st.set i (.val x)) body) l (st.at σ) := by
    rw [qx_for_]
    simp only [h, hi]
  rw [e]
  refine forF_inv (K := thenK O cal true r K) I l 0 _ h0 (fun j x st hj hI => ?_) fun st hI => hd st (by simpa using hI)
  simp only [Nat.zero_add] at hI ⊢
  exact hs j x st hj hI
theorem whileF_inv {t : Fs → Option (Bool × Store)} {f : Fs → FR} (I : Nat → Fs → Prop) : ∀ (n m : Nat) (st : Fs), m < n → I m st →
    (∀ m st, I m st → (∃ σ, t st = some (false, σ) ∧ K (.next (st.at σ))) ∨ (∃ σ, t st = some (true, σ) ∧ loopK (fun st' => ∃ m', m' < m ∧ I m' st') K (f (st.at σ)))) → K (whileF t f n st)
  | 0, m, st, h, _, _ => by omega
  | n + 1, m, st, h, hI, hs => by
    rw [whileF]
    rcases hs m st hI with ⟨σ, h1, h2⟩ | ⟨σ, h1, h2⟩
    · rw [h1]; exact h2
    · rw [h1]
      have go : ∀ st', (∃ m', m' < m ∧ I m' st') → K (whileF t f n st') := fun st' ⟨m', hm, hI'⟩ => whileF_inv I n m' st' (by omega) hI' hs
      revert h2
      show loopK _ K (f (st.at σ)) → K (match f (st.at σ) with | .next st' => _ | .cont st' => _ | .brk st' => _ | .ret v σ => _ | .exc _ _ => _ | .stuck => _)
      cases f (st.at σ) with
      | next st' => exact fun h => go st' h
      | cont st' => exact fun h => go st' h
      | brk st' => exact fun h => h
      | ret v σ => exact fun h => h
      | exc _ _ => exact fun h => h.elim
      | stuck => exact fun h => h.elim
theorem pk_while {n m : Nat} {t : PE} {body : PSs} (I : Nat → Fs → Prop) (hm : m < n) (h0 : I m st)
    (hs : ∀ m st, I m st → (∃ σ, (pe O cal q st t).t = some (false, σ) ∧ K (pxs O cal q (st.at σ) r)) ∨ (∃ σ, (pe O cal q st t).t = some (true, σ) ∧ loopK (fun st' => ∃ m', m' < m ∧ I m' st') (thenK O cal q r K) (pxs O cal q (st.at σ) body))) : K (pxs O cal q st (.cons (.while_ n t body) r)) := by
  refine pk_cons ?_
  rw [qx_while_]
  exact whileF_inv (K := thenK O cal q r K) I n m st hm h0 hs
theorem pk_try {body : PSs} {hs : PHs} (k : (fun fr => match fr with | .exc x st' => thenK O cal true r K (phs O cal x st' hs) | f => thenK O cal true r K f) (pxs O cal true st body)) : K (pxs O cal true st (.cons (.try_ body hs) r)) := by
  refine pk_cons ?_
  rw [qx_try_]
  revert k
  cases pxs O cal true st body <;> exact fun k => k
/-- a def's result -/
noncomputable def Ends (v : ER) (fr : FR) : Prop := fnRes fr = v
theorem fn_ret {p : PSs} {v : ER} (h : Ends v (pxs O cal q st p)) : fnRes (pxs O cal q st p) = v := h
theorem ends_ret {v : AV} {σ : Store} : Ends (.ok (.av v) σ) (.ret v σ) := rfl
end
section
variable {σ : Store} {ρ : List (Option Ent)}
theorem dS_av {x : AV} : derefS ρ σ (.av x) = deref σ x := rfl
theorem dr_none : deref σ .none = .none := rfl
theorem dr_bool {x : Bool} : deref σ (.bool x) = .bool x := rfl
theorem dr_int {x : Int} : deref σ (.int x) = .int x := rfl
theorem dr_str {x : Str} : deref σ (.str x) = .str x := rfl
theorem dr_type {x : String} : deref σ (.type x) = .type x := rfl
theorem dr_range {a b c : Int} : deref σ (.range a b c) = .range a b c := rfl
theorem dr_tup {x : List AV} : deref σ (.tup x) = .tup x := rfl
theorem dr_lst {x : List AV} : deref σ (.lst x) = .lst x := rfl
theorem dr_set {b l : Bool} {x : List Int} : deref σ (.set b l x) = .set b l x := rfl
end
/- numbers -/
theorem mod_pos (a b : Int) (h0 : 0 < b) : intBin .Mod a b = .ok (.int (a % b)) := by
  unfold intBin
  simp only
  rw [if_neg (by simp; omega), Int.fmod_eq_emod_of_nonneg _ (by omega)]
theorem ob_ii (op : Operator) (a b : Int) : opBin op (.int a) (.int b) = intBin op a b := rfl
theorem oi_l (xs : List AV) (i : Int) : opIdx (.lst xs) (.int i) = idxL xs i := rfl
theorem os_l (xs : List AV) (a b z : AV) : opSlice (.lst xs) a b z = sliceL xs a b z := rfl
theorem idxL_nat {xs : List AV} {i : Int} {x : AV} (h0 : 0 ≤ i) (h : xs[i.toNat]? = some x) : idxL xs i = .ok x := by
  unfold idxL; rw [if_pos h0, h]
theorem cb_len (ys : List AV) : callB .len [.lst ys] = .ok (.int ys.length) := rfl
theorem ints_map (l : List Int) : ints? (l.map .int) = some l := by
  induction l with
  | nil => rfl
  | cons a l ih => simp [ints?, ih]
theorem range2_items (a : Int) (n : Nat) (h : n ≤ 1000) (h1 : -1000000 ≤ a) (h2 : a ≤ 1000000) : itemsV (.range a (a + n) 1) = some ((List.range n).map fun (i : Nat) => .int (a + i)) := by
  have hs : Builtin.Range.small a (a + n) 1 = true := small_one (by omega) (by omega) (by omega) (by omega)
  have hz : Builtin.Range.rangeSize a (a + n) 1 = n := by rw [rangeSize_one]; split <;> omega
  unfold itemsV
  simp only [hs, if_true, hz, Int.toNat_natCast]
  rw [if_pos (by omega)]
  unfold rangeL
  rw [hz]
  simp only [Int.toNat_natCast, Int.mul_one]
theorem range_items (n : Nat) (h : n ≤ 1000) : itemsV (.range 0 n 1) = some ((List.range n).map fun (i : Nat) => .int i) := by
  have := range2_items 0 n h (by omega) (by omega)
  simpa using this
end Mine
end
section
open PySem PySem.W PyProof.Rows
namespace Mine
/- the words, for a name that stands for ops: nothing runs by itself -/
section
variable {O : OpsF} {ld : Bool} (h : O = ops ld)
include h
theorem o_bin : O.bin = opBin := by rw [h]; rfl
theorem o_un : O.un = opUn := by rw [h]; rfl
theorem o_cmp : O.cmp = opCmp := by rw [h]; rfl
theorem o_truth : O.truth = opTruth := by rw [h]; rfl
theorem o_idx : O.idx = opIdx := by rw [h]; rfl
theorem o_slice : O.slice = opSlice := by rw [h]; rfl
theorem o_bcall : O.bcall = callB := by rw [h]; rfl
theorem o_items : O.items = itemsV := by rw [h]; rfl
theorem o_cat : O.cat = opCat := by rw [h]; rfl
theorem o_is : O.is_ = opIs := by rw [h]; rfl
theorem o_mty : O.mty = opMty := by rw [h]; rfl
theorem o_meth : O.meth = opMeth := by rw [h]; rfl
theorem o_ometh : O.ometh = opOmeth := by rw [h]; rfl
end
end Mine
end
section
open PySem PySem.W PyProof.Rows
namespace Mine
set_option maxRecDepth 100000
/- the defs, by number: 0 concat, 1 _law_row, 2 _law_joined, 3 _law_cut, 4 _law_refused, 5 law, 6 concat -/
noncomputable def fname : Nat → Str
  | 0 => PySem.Str.ofString "concat"
  | 1 => PySem.Str.ofString "_law_row"
  | 2 => PySem.Str.ofString "_law_joined"
  | 3 => PySem.Str.ofString "_law_cut"
  | 4 => PySem.Str.ofString "_law_refused"
  | 5 => PySem.Str.ofString "law"
  | 6 => PySem.Str.ofString "concat"
  | _ => PySem.Str.ofString ""
/- concat; slots: 0 a, 1 b, 2 msg -/
noncomputable def concat_ns : List Str := [PySem.Str.ofString "a", PySem.Str.ofString "b", PySem.Str.ofString "msg"]
noncomputable def concat_p : PSs :=
 .cons (.ite (.un .Not (.bcall .hasattr (.cons (.name 0) (.cons (.const (.str (PySem.Str.ofString "__getitem__"))) .nil))))
 (.cons (.assign 2 (.bin .Mod (.const (.str (PySem.Str.ofString "'%s' object can't be concatenated"))) (.attr (.bcall .type (.cons (.name 0) .nil)) .name_)))
 (.cons (.raiseM (.name 2)) .nil))
 (.nil))
 (.cons (.ret (.bin .Add (.name 0) (.name 1))) .nil)
/- _law_row; slots: 0 numbers, 1 kind -/
noncomputable def law_row_ns : List Str := [PySem.Str.ofString "numbers", PySem.Str.ofString "kind"]
noncomputable def law_row_p : PSs :=
 .cons (.ite (.cmp .Eq (.name 1) (.const (.int 1)))
 (.cons (.ret (.bcall .tuple (.cons (.name 0) .nil))) .nil)
 (.nil))
 (.cons (.ite (.cmp .Eq (.name 1) (.const (.int 2)))
 (.cons (.ret (.meth (.const (.str (PySem.Str.ofString ""))) .join (.cons (.comp [] (.bcall .chr (.cons (.bin .Add (.const (.int 97)) (.bin .Mod (.name 2) (.const (.int 26)))) .nil)) (.name 0) (.nil)) .nil))) .nil)
 (.nil))
 (.cons (.ite (.cmp .Eq (.name 1) (.const (.int 3)))
 (.cons (.ret (.bcall .bytes (.cons (.comp [] (.bin .Mod (.name 2) (.const (.int 256))) (.name 0) (.nil)) .nil))) .nil)
 (.nil))
 (.cons (.ret (.name 0)) .nil)))
/- _law_joined; slots: 0 words, 1 which, 2 rises, 3 k -/
noncomputable def law_joined_ns : List Str := [PySem.Str.ofString "words", PySem.Str.ofString "which", PySem.Str.ofString "rises", PySem.Str.ofString "k"]
noncomputable def law_joined_b1 : PSs :=
 .cons (.assign 2 (.comp [0] (.name 4) (.bcall .range (.cons (.bin .Sub (.bcall .len (.cons (.name 0) .nil)) (.const (.int 1))) .nil)) (.cons (.cmp .Lt (.sub (.name 0) (.name 4)) (.sub (.name 0) (.bin .Add (.name 4) (.const (.int 1))))) .nil)))
 (.cons (.ite (.cmp .NotEq (.name 2) (.list (.nil)))
 (.cons (.assign 3 (.sub (.name 2) (.name 1)))
 (.cons (.assign 0 (.bin .Add (.bin .Add (.slice (.name 0) (.const .none) (.name 3) (.const .none)) (.list (.cons (.call 0 (.cons (.sub (.name 0) (.name 3)) (.cons (.sub (.name 0) (.bin .Add (.name 3) (.const (.int 1)))) .nil))) .nil))) (.slice (.name 0) (.bin .Add (.name 3) (.const (.int 2))) (.const .none) (.const .none)))) .nil))
 (.nil)) .nil)
noncomputable def law_joined_p : PSs :=
 .cons (.assign 2 (.list (.cons (.const (.int 0)) .nil)))
 (.cons (.while_ 100 (.cmp .NotEq (.name 2) (.list (.nil))) law_joined_b1)
 (.cons (.ret (.name 0)) .nil))
/- _law_cut; slots: 0 row, 1 words, 2 sizes -/
noncomputable def law_cut_ns : List Str := [PySem.Str.ofString "row", PySem.Str.ofString "words", PySem.Str.ofString "sizes"]
noncomputable def law_cut_b1 : PSs :=
 .cons (.assign 2 (.compc [0] (.name 3) (.bcall .range (.cons (.const (.int 1)) (.cons (.bin .Add (.bcall .len (.cons (.name 0) .nil)) (.const (.int 1))) .nil))) (.cons (.cmp .Eq (.comp [0, 3] (.name 4) (.bcall .range (.cons (.const (.int 1)) (.cons (.name 3) .nil))) (.cons (.cmp .GtE (.slice (.name 0) (.const .none) (.name 3) (.const .none)) (.slice (.name 0) (.name 4) (.name 3) (.const .none))) .nil)) (.list (.nil))) .nil)))
 (.cons (.ometh 1 .append (.cons (.slice (.name 0) (.const .none) (.bcall .max (.cons (.name 2) .nil)) (.const .none)) .nil) none)
 (.cons (.assign 0 (.slice (.name 0) (.bcall .max (.cons (.name 2) .nil)) (.const .none) (.const .none))) .nil))
noncomputable def law_cut_p : PSs :=
 .cons (.ownl 1 (.nil))
 (.cons (.while_ 100 (.cmp .Gt (.bcall .len (.cons (.name 0) .nil)) (.const (.int 0))) law_cut_b1)
 (.cons (.retOwn 1) .nil))
/- _law_refused; slots: 0 thing, 1 name, 2 error -/
noncomputable def law_refused_ns : List Str := [PySem.Str.ofString "thing", PySem.Str.ofString "name", PySem.Str.ofString "error"]
noncomputable def law_refused_p : PSs :=
 .cons (.try_ (.cons (.expr (.call 0 (.cons (.name 0) (.cons (.name 0) .nil)))) .nil) (.asEq 2 (.bin .Add (.bin .Add (.const (.str (PySem.Str.ofString "'"))) (.name 1)) (.const (.str (PySem.Str.ofString "' object can't be concatenated"))))))
 (.cons (.ret (.const (.bool false))) .nil)
/- law; slots: 0 script, 1 kind, 2 words, 3 due, 4 ahead, 5 one, 6 two, 7 whole, 8 word -/
noncomputable def law_ns : List Str := [PySem.Str.ofString "script", PySem.Str.ofString "kind", PySem.Str.ofString "words", PySem.Str.ofString "due", PySem.Str.ofString "ahead", PySem.Str.ofString "one", PySem.Str.ofString "two", PySem.Str.ofString "whole", PySem.Str.ofString "word"]
noncomputable def law_b2 : PSs :=
 .cons (.assign 7 (.call 0 (.cons (.name 7) (.cons (.name 8) .nil)))) .nil
noncomputable def law_b1 : PSs :=
 .cons (.unpack2 5 6 (.call 1 (.cons (.name 4) (.cons (.name 1) .nil))) (.call 1 (.cons (.list (.nil)) (.cons (.name 1) .nil))))
 (.cons (.assign 7 (.call 6 (.cons (.name 5) (.cons (.name 6) .nil))))
 (.cons (.ite (.bop .And (.cons (.cmp .Eq (.name 1) (.const (.int 0))) (.cons (.bop .Or (.cons (.cmp .Is (.name 7) (.name 5)) (.cons (.cmp .Is (.name 7) (.name 6)) .nil))) .nil)))
 (.cons (.ret (.const (.bool false))) .nil)
 (.nil))
 (.cons (.for_ 8 (.name 3) law_b2)
 (.cons (.ite (.bop .Or (.cons (.cmp .NotEq (.name 7) (.call 1 (.cons (.bin .Add (.name 4) (.slice (.name 0) (.const (.int 1)) (.const .none) (.const .none))) (.cons (.name 1) .nil)))) (.cons (.un .Not (.bcall .isinstance (.cons (.name 7) (.cons (.sub (.list (.cons (.glob .list) (.cons (.glob .tuple) (.cons (.glob .str) (.cons (.glob .bytes) .nil))))) (.name 1)) .nil)))) .nil)))
 (.cons (.ret (.const (.bool false))) .nil)
 (.nil)) .nil))))
noncomputable def law_p : PSs :=
 .cons (.assign 0 (.slice (.name 0) (.const .none) (.const (.int 32)) (.const .none)))
 (.cons (.assign 1 (.ife (.name 0) (.bin .Mod (.sub (.name 0) (.const (.int 0))) (.const (.int 4))) (.const (.int 0))))
 (.cons (.ite (.bop .Or (.cons (.un .Not (.call 4 (.cons (.name 1) (.cons (.const (.str (PySem.Str.ofString "int"))) .nil)))) (.cons (.un .Not (.call 4 (.cons (.const .none) (.cons (.const (.str (PySem.Str.ofString "NoneType"))) .nil)))) (.cons (.un .Not (.call 4 (.cons (.setd (.name 1)) (.cons (.const (.str (PySem.Str.ofString "set"))) .nil)))) .nil))))
 (.cons (.ret (.const (.bool false))) .nil)
 (.nil))
 (.cons (.assign 2 (.comp [1] (.call 1 (.cons (.list (.cons (.name 9) .nil)) (.cons (.name 1) .nil))) (.slice (.name 0) (.const (.int 1)) (.const .none) (.const .none)) (.nil)))
 (.cons (.assign 3 (.call 3 (.cons (.call 1 (.cons (.slice (.name 0) (.const (.int 1)) (.const .none) (.const .none)) (.cons (.name 1) .nil))) .nil)))
 (.cons (.ite (.bop .Or (.cons (.cmp .NotEq (.call 2 (.cons (.name 2) (.cons (.const (.int 0)) .nil))) (.name 3)) (.cons (.cmp .NotEq (.call 2 (.cons (.name 2) (.cons (.un .USub (.const (.int 1))) .nil))) (.name 3)) .nil)))
 (.cons (.ret (.const (.bool false))) .nil)
 (.nil))
 (.cons (.for_ 4 (.list (.cons (.list (.nil)) (.cons (.list (.cons (.const (.int 7)) (.cons (.const (.int 7)) .nil))) .nil))) law_b1)
 (.cons (.ret (.const (.bool true))) .nil)))))))
/- concat; slots: 0 a, 1 b, 2 msg -/
noncomputable def concat2_ns : List Str := [PySem.Str.ofString "a", PySem.Str.ofString "b", PySem.Str.ofString "msg"]
noncomputable def concat2_p : PSs :=
 .cons (.ite (.un .Not (.bcall .hasattr (.cons (.name 0) (.cons (.const (.str (PySem.Str.ofString "__getitem__"))) .nil))))
 (.cons (.assign 2 (.bin .Mod (.const (.str (PySem.Str.ofString "'%s' object can't be concatenated"))) (.attr (.bcall .type (.cons (.name 0) .nil)) .name_)))
 (.cons (.raiseM (.name 2)) .nil))
 (.nil))
 (.cons (.ret (.cat (.name 0) (.name 1))) .nil)
noncomputable def frees : List Str := ["hasattr", "TypeError", "type", "bytes", "chr", "tuple", "range", "len", "max", "str", "isinstance", "list"]
noncomputable def cal0 : Cal := fun _ _ _ _ => .stuck
theorem calls0 (c : Cx) (fname : Nat → Str) : CallsOk c 0 cal0 fname := ⟨fun _ _ _ _ h => absurd rfl h⟩
/-- level 1: _law_row -/
noncomputable def cal1 (ld : Bool) : Cal := ext (ops ld) cal0 1 2 law_row_ns law_row_p
theorem cal1_hit {ld : Bool} (σ : Store) (lo : Nat) (args : List AV) (h : args.length = 2) : (cal1 ld) σ lo 1 args = fnRes (pxs (ops ld) cal0 true (st0 args law_row_ns.length σ lo) law_row_p) := ext_hit h
theorem calls1 {c : Cx} (hfree : ∀ x ∈ frees, c.mg x = none) (D1 : DefIs c frees fname (fname 1) law_row_ns 2 law_row_p) : CallsOk c 2 (cal1 c.ld) fname := ext_ok (ops_ok c) (calls0 c fname) hfree D1
/-- level 2: concat -/
noncomputable def cal2 (ld : Bool) : Cal := ext (ops ld) (cal1 ld) 0 2 concat_ns concat_p
theorem cal2_hit {ld : Bool} (σ : Store) (lo : Nat) (args : List AV) (h : args.length = 2) : (cal2 ld) σ lo 0 args = fnRes (pxs (ops ld) (cal1 ld) true (st0 args concat_ns.length σ lo) concat_p) := ext_hit h
theorem cal2_1 {ld : Bool} (σ : Store) (lo : Nat) (args : List AV) : (cal2 ld) σ lo 1 args = (cal1 ld) σ lo 1 args := ext_ne (by decide)
theorem calls2 {c : Cx} (hfree : ∀ x ∈ frees, c.mg x = none) (D1 : DefIs c frees fname (fname 1) law_row_ns 2 law_row_p) (D0 : DefIs c frees fname (fname 0) concat_ns 2 concat_p) : CallsOk c 4 (cal2 c.ld) fname := ext_ok (ops_ok c) (calls1 hfree D1) hfree D0
/-- level 3: concat -/
noncomputable def cal3 (ld : Bool) : Cal := ext (ops ld) (cal2 ld) 6 2 concat2_ns concat2_p
theorem cal3_hit {ld : Bool} (σ : Store) (lo : Nat) (args : List AV) (h : args.length = 2) : (cal3 ld) σ lo 6 args = fnRes (pxs (ops ld) (cal2 ld) true (st0 args concat2_ns.length σ lo) concat2_p) := ext_hit h
theorem cal3_1 {ld : Bool} (σ : Store) (lo : Nat) (args : List AV) : (cal3 ld) σ lo 1 args = (cal2 ld) σ lo 1 args := ext_ne (by decide)
theorem cal3_0 {ld : Bool} (σ : Store) (lo : Nat) (args : List AV) : (cal3 ld) σ lo 0 args = (cal2 ld) σ lo 0 args := ext_ne (by decide)
theorem calls3 {c : Cx} (hfree : ∀ x ∈ frees, c.mg x = none) (D1 : DefIs c frees fname (fname 1) law_row_ns 2 law_row_p) (D0 : DefIs c frees fname (fname 0) concat_ns 2 concat_p) (D6 : DefIs c frees fname (fname 6) concat2_ns 2 concat2_p) : CallsOk c 6 (cal3 c.ld) fname := ext_ok (ops_ok c) (calls2 hfree D1 D0) hfree D6
/-- level 4: _law_joined -/
noncomputable def cal4 (ld : Bool) : Cal := ext (ops ld) (cal3 ld) 2 2 law_joined_ns law_joined_p
theorem cal4_hit {ld : Bool} (σ : Store) (lo : Nat) (args : List AV) (h : args.length = 2) : (cal4 ld) σ lo 2 args = fnRes (pxs (ops ld) (cal3 ld) true (st0 args law_joined_ns.length σ lo) law_joined_p) := ext_hit h
theorem cal4_1 {ld : Bool} (σ : Store) (lo : Nat) (args : List AV) : (cal4 ld) σ lo 1 args = (cal3 ld) σ lo 1 args := ext_ne (by decide)
theorem cal4_0 {ld : Bool} (σ : Store) (lo : Nat) (args : List AV) : (cal4 ld) σ lo 0 args = (cal3 ld) σ lo 0 args := ext_ne (by decide)
theorem cal4_6 {ld : Bool} (σ : Store) (lo : Nat) (args : List AV) : (cal4 ld) σ lo 6 args = (cal3 ld) σ lo 6 args := ext_ne (by decide)
theorem calls4 {c : Cx} (hfree : ∀ x ∈ frees, c.mg x = none) (D1 : DefIs c frees fname (fname 1) law_row_ns 2 law_row_p) (D0 : DefIs c frees fname (fname 0) concat_ns 2 concat_p) (D6 : DefIs c frees fname (fname 6) concat2_ns 2 concat2_p) (D2 : DefIs c frees fname (fname 2) law_joined_ns 2 law_joined_p) : CallsOk c 8 (cal4 c.ld) fname := ext_ok (ops_ok c) (calls3 hfree D1 D0 D6) hfree D2
/-- level 5: _law_cut -/
noncomputable def cal5 (ld : Bool) : Cal := ext (ops ld) (cal4 ld) 3 1 law_cut_ns law_cut_p
theorem cal5_hit {ld : Bool} (σ : Store) (lo : Nat) (args : List AV) (h : args.length = 1) : (cal5 ld) σ lo 3 args = fnRes (pxs (ops ld) (cal4 ld) true (st0 args law_cut_ns.length σ lo) law_cut_p) := ext_hit h
theorem cal5_1 {ld : Bool} (σ : Store) (lo : Nat) (args : List AV) : (cal5 ld) σ lo 1 args = (cal4 ld) σ lo 1 args := ext_ne (by decide)
theorem cal5_0 {ld : Bool} (σ : Store) (lo : Nat) (args : List AV) : (cal5 ld) σ lo 0 args = (cal4 ld) σ lo 0 args := ext_ne (by decide)
theorem cal5_6 {ld : Bool} (σ : Store) (lo : Nat) (args : List AV) : (cal5 ld) σ lo 6 args = (cal4 ld) σ lo 6 args := ext_ne (by decide)
theorem cal5_2 {ld : Bool} (σ : Store) (lo : Nat) (args : List AV) : (cal5 ld) σ lo 2 args = (cal4 ld) σ lo 2 args := ext_ne (by decide)
theorem calls5 {c : Cx} (hfree : ∀ x ∈ frees, c.mg x = none) (D1 : DefIs c frees fname (fname 1) law_row_ns 2 law_row_p) (D0 : DefIs c frees fname (fname 0) concat_ns 2 concat_p) (D6 : DefIs c frees fname (fname 6) concat2_ns 2 concat2_p) (D2 : DefIs c frees fname (fname 2) law_joined_ns 2 law_joined_p) (D3 : DefIs c frees fname (fname 3) law_cut_ns 1 law_cut_p) : CallsOk c 10 (cal5 c.ld) fname := ext_ok (ops_ok c) (calls4 hfree D1 D0 D6 D2) hfree D3
/-- level 6: _law_refused -/
noncomputable def cal6 (ld : Bool) : Cal := ext (ops ld) (cal5 ld) 4 2 law_refused_ns law_refused_p
theorem cal6_hit {ld : Bool} (σ : Store) (lo : Nat) (args : List AV) (h : args.length = 2) : (cal6 ld) σ lo 4 args = fnRes (pxs (ops ld) (cal5 ld) true (st0 args law_refused_ns.length σ lo) law_refused_p) := ext_hit h
theorem cal6_1 {ld : Bool} (σ : Store) (lo : Nat) (args : List AV) : (cal6 ld) σ lo 1 args = (cal5 ld) σ lo 1 args := ext_ne (by decide)
theorem cal6_0 {ld : Bool} (σ : Store) (lo : Nat) (args : List AV) : (cal6 ld) σ lo 0 args = (cal5 ld) σ lo 0 args := ext_ne (by decide)
theorem cal6_6 {ld : Bool} (σ : Store) (lo : Nat) (args : List AV) : (cal6 ld) σ lo 6 args = (cal5 ld) σ lo 6 args := ext_ne (by decide)
theorem cal6_2 {ld : Bool} (σ : Store) (lo : Nat) (args : List AV) : (cal6 ld) σ lo 2 args = (cal5 ld) σ lo 2 args := ext_ne (by decide)
theorem cal6_3 {ld : Bool} (σ : Store) (lo : Nat) (args : List AV) : (cal6 ld) σ lo 3 args = (cal5 ld) σ lo 3 args := ext_ne (by decide)
theorem calls6 {c : Cx} (hfree : ∀ x ∈ frees, c.mg x = none) (D1 : DefIs c frees fname (fname 1) law_row_ns 2 law_row_p) (D0 : DefIs c frees fname (fname 0) concat_ns 2 concat_p) (D6 : DefIs c frees fname (fname 6) concat2_ns 2 concat2_p) (D2 : DefIs c frees fname (fname 2) law_joined_ns 2 law_joined_p) (D3 : DefIs c frees fname (fname 3) law_cut_ns 1 law_cut_p) (D4 : DefIs c frees fname (fname 4) law_refused_ns 2 law_refused_p) : CallsOk c 12 (cal6 c.ld) fname := ext_ok (ops_ok c) (calls5 hfree D1 D0 D6 D2 D3) hfree D4
noncomputable def lawRes (ld : Bool) (ns : List Int) : ER := fnRes (pxs (ops ld) (cal6 ld) true (st0 [.lst (ns.map .int)] law_ns.length [] 0) law_p)
noncomputable def textOk (p : Program) (loose : List Str) : Bool := freesOk p loose frees && defOk p frees fname (fname 1) law_row_ns 2 law_row_p && defOk p frees fname (fname 0) concat_ns 2 concat_p && defOk p frees fname (fname 6) concat2_ns 2 concat2_p && defOk p frees fname (fname 2) law_joined_ns 2 law_joined_p && defOk p frees fname (fname 3) law_cut_ns 1 law_cut_p && defOk p frees fname (fname 4) law_refused_ns 2 law_refused_p && defOk p frees fname (fname 5) law_ns 1 law_p
theorem law_code {prog : Program} {w : World} {p : Program} {loose : List Str} {mean : ExcName → Option Value} {mg mb : Str → Option Value} {s : Shared} (T : Top p loose mean mg mb s.heap) (ht : textOk p loose = true) {ns : List Int} (hres : ∀ ld, ∃ σ, lawRes ld ns = .ok (.av (.bool true)) σ) (hz : ns.length ≤ 1048576)
    {l fa : Addr} {vs : List Value} (hl : IsL s.heap l vs) (hI : IntsAre vs ns) (hmg : mg (fname 5) = some (.ref fa)) {R : Result → Shared → Prop}
    (K : ∀ s', (∀ b o, s.heap.get? b = some o → s'.heap.get? b = some o) → s'.os = s.os → s'.gens = s.gens → R (.ok (.ret (.bool true))) s') : codeAny (model prog w) callerA (.call (.ref fa) ⟨[.ref l], []⟩) R s := by
  simp only [textOk, Bool.and_eq_true] at ht
  obtain ⟨⟨⟨⟨⟨⟨⟨h1, hd1⟩, hd0⟩, hd6⟩, hd2⟩, hd3⟩, hd4⟩, hd5⟩ := ht
  obtain ⟨σ', hres⟩ := hres (!w.params.followText "set-order")
  have hfree := frees_of T h1
  have D1 := def_of (prog := prog) (w := w) T hd1 (bindOk2 (by intros; kernel_rfl))
  have D0 := def_of (prog := prog) (w := w) T hd0 (bindOk2 (by intros; kernel_rfl))
  have D6 := def_of (prog := prog) (w := w) T hd6 (bindOk2 (by intros; kernel_rfl))
  have D2 := def_of (prog := prog) (w := w) T hd2 (bindOk2 (by intros; kernel_rfl))
  have D3 := def_of (prog := prog) (w := w) T hd3 (bindOk1 (by intros; kernel_rfl))
  have D4 := def_of (prog := prog) (w := w) T hd4 (bindOk2 (by intros; kernel_rfl))
  have D5 := def_of (prog := prog) (w := w) T hd5 (bindOk1 (by intros; kernel_rfl))
  have rr := script_rep hl hI hz
  have := D5.code (ops_ok _) (calls6 hfree D1 D0 D6 D2 D3 D4) hfree (args := [.lst (ns.map .int)]) (σ := []) (lo := 0) rfl (A := callerA) (s := s) (H := H0) (vs := [.ref l]) (a := fa)
    (Q := fun v s' => v = .bool true ∧ (∀ b o, s.heap.get? b = some o → s'.heap.get? b = some o) ∧ s'.os = s.os ∧ s'.gens = s.gens) (E := fun _ _ => False)
    ⟨by decide, by decide, fun _ => rfl, [], rfl, trivial⟩ (fun _ _ e => e) (fun _ z => z.elim) (sto0 _) (fun _ _ e => by cases e) rr hmg (by
      show PostE true callerA _ _ _ (lawRes (!w.params.followText "set-order") ns) s _ _
      rw [hres]
      exact fun v H' s' x r => ⟨r, kp_top (x.kp (Nat.le_refl _))⟩)
  refine codeAny_mono this fun r s' h => ?_
  match r, h with
  | .ok (.ret v), ⟨hv, h1, h2, h3⟩ => rw [hv]; exact K s' h1 h2 h3
end Mine
end
section
open PySem PySem.W PyProof.Rows
namespace Mine
theorem pick_range {α : Type} (xs : List α) (a : Nat) : ∀ m : Nat, ((List.range m).map (a + ·)).filterMap (xs[·]?) = (xs.drop a).take m := by
  intro m
  induction m with
  | zero => simp
  | succ m ih =>
    rw [List.range_succ, List.map_append, List.filterMap_append, ih, List.take_succ]
    rw [List.getElem?_drop]
    congr 1
theorem pickL_plain (xs : List AV) (lo hi : Option Int) : pickL xs lo hi none = (xs.drop (lo.elim 0 (clipAt xs.length))).take (hi.elim xs.length (clipAt xs.length) - lo.elim 0 (clipAt xs.length)) := by
  unfold pickL
  rw [sliceBounds_plain]
  simp only
  rw [sliceRange_one, pick_range]
theorem clip_nat (n k : Nat) : clipAt n (k : Int) = min k n := clipAt_nat n k
theorem pick_take (xs : List AV) (k : Nat) : pickL xs none (some (k : Int)) none = xs.take k := by
  rw [pickL_plain]
  simp only [Option.elim_none, Option.elim_some, List.drop_zero, Nat.sub_zero, clip_nat]
  by_cases h : k ≤ xs.length
  · rw [Nat.min_eq_left h]
  · rw [Nat.min_eq_right (by omega), List.take_length, List.take_of_length_le (by omega)]
theorem pick_drop (xs : List AV) (k : Nat) : pickL xs (some (k : Int)) none none = xs.drop k := by
  rw [pickL_plain]
  simp only [Option.elim_none, Option.elim_some, clip_nat]
  by_cases h : k ≤ xs.length
  · rw [Nat.min_eq_left h, List.take_of_length_le (by simp)]
  · rw [Nat.min_eq_right (by omega), List.drop_length, List.take_nil, List.drop_of_length_le (by omega)]
theorem sl_take (xs : List AV) (k : Nat) : sliceL xs .none (.int k) .none = .ok (.lst (xs.take k)) := by
  show (if (none : Option Int) = some 0 then Res.stuck else .ok (.lst (pickL xs none (some (k : Int)) none))) = _
  rw [if_neg (by simp), pick_take]
theorem sl_drop (xs : List AV) (k : Nat) : sliceL xs (.int k) .none .none = .ok (.lst (xs.drop k)) := by
  show (if (none : Option Int) = some 0 then Res.stuck else .ok (.lst (pickL xs (some (k : Int)) none none))) = _
  rw [if_neg (by simp), pick_drop]
theorem idxL_get {xs : List AV} {k : Nat} {x : AV} (h : xs[k]? = some x) : idxL xs (k : Int) = .ok x := idxL_nat (by omega) (by rw [Int.toNat_natCast]; exact h)
end Mine
end
section
open PySem PySem.W PyProof.Rows
namespace Mine
set_option linter.unusedSimpArgs false
set_option linter.unusedVariables false
/- words, letter by letter -/
noncomputable def lx : List Int → List Int → Bool
  | [], [] => false
  | [], _ :: _ => true
  | _ :: _, [] => false
  | a :: x, b :: y => if a = b then lx x y else decide (a < b)
theorem lx_trans : ∀ {x y z : List Int}, lx x y = true → lx y z = true → lx x z = true
  | [], [], _, h, _ => by simp [lx] at h
  | [], _ :: _, [], _, h => by simp [lx] at h
  | [], _ :: _, _ :: _, _, _ => rfl
  | _ :: _, [], _, h, _ => by simp [lx] at h
  | _ :: _, _ :: _, [], _, h => by simp [lx] at h
  | a :: x, b :: y, c :: z, h1, h2 => by
    simp only [lx] at h1 h2 ⊢
    by_cases e1 : a = b
    · subst e1
      rw [if_pos rfl] at h1
      by_cases e2 : a = c
      · subst e2; rw [if_pos rfl] at h2 ⊢; exact lx_trans h1 h2
      · rw [if_neg e2] at h2 ⊢; exact h2
    · rw [if_neg e1, decide_eq_true_eq] at h1
      by_cases e2 : b = c
      · subst e2; rw [if_neg e1]; exact decide_eq_true h1
      · rw [if_neg e2, decide_eq_true_eq] at h2
        rw [if_neg (by omega)]; exact decide_eq_true (by omega)
theorem lx_total : ∀ {x y : List Int}, lx x y = false → lx y x = true ∨ x = y
  | [], [], _ => .inr rfl
  | [], _ :: _, h => by simp [lx] at h
  | _ :: _, [], _ => .inl rfl
  | a :: x, b :: y, h => by
    simp only [lx] at h ⊢
    by_cases e : a = b
    · subst e
      rw [if_pos rfl] at h ⊢
      exact (lx_total h).imp id fun z => by rw [z]
    · rw [if_neg e, decide_eq_false_iff_not] at h
      rw [if_neg fun z => e z.symm]
      exact .inl (decide_eq_true (by omega))
theorem lx_left (a : List Int) (x y : List Int) : lx (a ++ x) (a ++ y) = lx x y := by
  induction a with
  | nil => rfl
  | cons c a ih => simp [lx, ih]
theorem lx_pre {x z : List Int} (h : z ≠ []) : lx x (x ++ z) = true := by
  have := lx_left x [] z
  rw [List.append_nil] at this
  rw [this]
  cases z with
  | nil => exact absurd rfl h
  | cons _ _ => rfl
/-- a beginning, or parted within -/
theorem lx_ext : ∀ {x y : List Int}, lx x y = true → (∃ z, z ≠ [] ∧ y = x ++ z) ∨ ∀ a b, lx (x ++ a) (y ++ b) = true
  | [], [], h => by simp [lx] at h
  | [], c :: y, _ => .inl ⟨c :: y, by simp, rfl⟩
  | _ :: _, [], h => by simp [lx] at h
  | a :: x, b :: y, h => by
    simp only [lx] at h
    by_cases e : a = b
    · subst e
      rw [if_pos rfl] at h
      rcases lx_ext h with ⟨z, h1, h2⟩ | h1
      · exact .inl ⟨z, h1, by rw [h2]; rfl⟩
      · exact .inr fun c d => by simp only [List.cons_append, lx, if_true]; exact h1 c d
    · rw [if_neg e] at h
      exact .inr fun c d => by simp only [List.cons_append, lx]; rw [if_neg e]; exact h
theorem ge_trans {x y z : List Int} (h1 : lx x y = false) (h2 : lx y z = false) : lx x z = false := by
  cases h : lx x z with
  | false => rfl
  | true =>
    rcases lx_total h2 with h3 | h3
    · rw [lx_trans h h3] at h1; cases h1
    · rw [h3, h] at h1; cases h1
/-- less than each of its own ends -/
noncomputable def Ly (w : List Int) : Prop := w ≠ [] ∧ ∀ s t, w = s ++ t → s ≠ [] → t ≠ [] → lx w t = true
theorem Ly.one (x : Int) : Ly [x] := ⟨by simp, fun s t h hs ht => by
  rcases s with _ | ⟨a, s⟩
  · exact absurd rfl hs
  · rcases t with _ | ⟨b, t⟩
    · exact absurd rfl ht
    · have := congrArg List.length h
      simp at this⟩
theorem Ly.join {u v : List Int} (hu : Ly u) (hv : Ly v) (h : lx u v = true) : Ly (u ++ v) := by
  have key : lx (u ++ v) v = true := by
    rcases lx_ext h with ⟨z, hz, rfl⟩ | h'
    · rw [lx_left]
      exact hv.2 u z rfl hu.1 hz
    · have := h' v []
      rwa [List.append_nil] at this
  refine ⟨fun z => hu.1 (List.append_eq_nil_iff.mp z).1, fun s t e hs ht => ?_⟩
  rcases List.append_eq_append_iff.mp e with ⟨a, h1, h2⟩ | ⟨a, h1, h2⟩
  · -- s = u ++ a, v = a ++ t
    cases a with
    | nil => simp at h2; rw [← h2]; exact key
    | cons b a => exact lx_trans key (hv.2 _ t h2 (by simp) ht)
  · -- u = s ++ a, t = a ++ v
    cases a with
    | nil => simp at h2; rw [h2]; exact key
    | cons b a =>
      have h3 := hu.2 s (b :: a) h1 hs (by simp)
      rw [h2]
      rcases lx_ext h3 with ⟨z, hz, e2⟩ | h4
      · have e3 := congrArg List.length h1
        have e4 := congrArg List.length e2
        have : 0 < s.length := List.length_pos_iff.mpr hs
        simp at e3 e4
        omega
      · exact h4 v v
/-- words that rise no more -/
noncomputable def Cfl (ws : List (List Int)) : Prop := (∀ w ∈ ws, Ly w) ∧ ws.Pairwise fun a b => lx a b = false
theorem Cfl.tail {w : List Int} {ws : List (List Int)} (h : Cfl (w :: ws)) : Cfl ws := ⟨fun x hx => h.1 x (List.mem_cons_of_mem _ hx), (List.pairwise_cons.mp h.2).2⟩
theorem part_le {w : List Int} : ∀ {ws : List (List Int)} {p z : List Int}, (∀ x ∈ ws, lx w x = false) → ws.flatten = p ++ z → p ≠ [] → ∃ s t, p = s ++ t ∧ t ≠ [] ∧ lx w t = false
  | [], p, z, _, h, hp => by
    have := (List.append_eq_nil_iff.mp h.symm).1
    exact absurd this hp
  | x :: ws, p, z, hw, h, hp => by
    rw [List.flatten_cons] at h
    rcases List.append_eq_append_iff.mp h with ⟨a, h1, h2⟩ | ⟨a, h1, h2⟩
    · -- p = x ++ a, flatten = a ++ z
      cases a with
      | nil =>
        rw [List.append_nil] at h1
        exact ⟨[], x, h1, h1 ▸ hp, hw x (List.mem_cons_self ..)⟩
      | cons b a =>
        obtain ⟨s, t, e, ht, hl⟩ := part_le (fun y hy => hw y (List.mem_cons_of_mem _ hy)) h2 (by simp)
        exact ⟨x ++ s, t, by rw [h1, e, List.append_assoc], ht, hl⟩
    · -- x = p ++ a
      refine ⟨[], p, rfl, hp, ?_⟩
      cases hl : lx w p with
      | false => rfl
      | true =>
        have hx := hw x (List.mem_cons_self ..)
        cases a with
        | nil => rw [List.append_nil] at h1; rw [h1, hl] at hx; cases hx
        | cons b a =>
          have := lx_trans hl (lx_pre (x := p) (z := b :: a) (by simp))
          rw [← h1, hx] at this; cases this
/-- no longer beginning is such a word -/
theorem Cfl.long {w p z : List Int} {ws : List (List Int)} (h : Cfl (w :: ws)) (e : (w :: ws).flatten = p ++ z) (hp : Ly p) : p.length ≤ w.length := by
  rcases Nat.lt_or_ge w.length p.length with hlt | hge
  · exfalso
    rw [List.flatten_cons] at e
    rcases List.append_eq_append_iff.mp e with ⟨a, h1, h2⟩ | ⟨a, h1, h2⟩
    · -- p = w ++ a
      have ha : a ≠ [] := fun z => by rw [z, List.append_nil] at h1; rw [h1] at hlt; omega
      obtain ⟨s, t, e3, ht, hl⟩ := part_le (w := w) (List.pairwise_cons.mp h.2).1 h2 ha
      have hw := (h.1 w (List.mem_cons_self ..)).1
      have l1 := hp.2 (w ++ s) t (by rw [h1, e3, List.append_assoc]) (fun z => hw (List.append_eq_nil_iff.mp z).1) ht
      have l2 : lx w p = true := by rw [h1]; exact lx_pre ha
      rw [lx_trans l2 l1] at hl; cases hl
    · have := congrArg List.length h1
      rw [List.length_append] at this
      omega
  · exact hge
theorem Cfl.uniq : ∀ {ws vs : List (List Int)}, Cfl ws → Cfl vs → ws.flatten = vs.flatten → ws = vs
  | [], [], _, _, _ => rfl
  | [], v :: vs, _, h2, e => by
    rw [List.flatten_cons] at e
    exact absurd (List.append_eq_nil_iff.mp e.symm).1 (h2.1 v (List.mem_cons_self ..)).1
  | w :: ws, [], h1, _, e => by
    rw [List.flatten_cons] at e
    exact absurd (List.append_eq_nil_iff.mp e).1 (h1.1 w (List.mem_cons_self ..)).1
  | w :: ws, v :: vs, h1, h2, e => by
    have l1 := h1.long (p := v) (z := vs.flatten) (by rw [e, List.flatten_cons]) (h2.1 v (List.mem_cons_self ..))
    have l2 := h2.long (p := w) (z := ws.flatten) (by rw [← e, List.flatten_cons]) (h1.1 w (List.mem_cons_self ..))
    rw [List.flatten_cons, List.flatten_cons] at e
    obtain ⟨e1, e2⟩ := List.append_inj e (Nat.le_antisymm l2 l1)
    rw [e1, Cfl.uniq h1.tail h2.tail e2]
/-- no two neighbours rise -/
theorem pw_of_adj : ∀ {ws : List (List Int)}, (∀ k a b, ws[k]? = some a → ws[k + 1]? = some b → lx a b = false) → ws.Pairwise fun a b => lx a b = false
  | [], _ => .nil
  | [w], _ => List.pairwise_singleton ..
  | w :: x :: ws, h => by
    have ih := pw_of_adj (ws := x :: ws) fun k a b h1 h2 => h (k + 1) a b (by simpa using h1) (by simpa using h2)
    refine List.pairwise_cons.mpr ⟨fun y hy => ?_, ih⟩
    have h0 := h 0 w x rfl rfl
    rcases List.mem_cons.mp hy with rfl | hy
    · exact h0
    · exact ge_trans h0 ((List.pairwise_cons.mp ih).1 y hy)
/-- two neighbours put together -/
noncomputable def glue (ws : List (List Int)) (k : Nat) (a b : List Int) : List (List Int) := ws.take k ++ [a ++ b] ++ ws.drop (k + 2)
theorem glue_split {ws : List (List Int)} {k : Nat} {a b : List Int} (h1 : ws[k]? = some a) (h2 : ws[k + 1]? = some b) : ws = ws.take k ++ a :: b :: ws.drop (k + 2) := by
  have l1 : k < ws.length := (List.getElem?_eq_some_iff.mp h1).1
  have l2 : k + 1 < ws.length := (List.getElem?_eq_some_iff.mp h2).1
  have e1 : ws[k] = a := (List.getElem?_eq_some_iff.mp h1).2
  have e2 : ws[k + 1] = b := (List.getElem?_eq_some_iff.mp h2).2
  have d1 : ws.drop k = a :: ws.drop (k + 1) := by rw [List.drop_eq_getElem_cons l1, e1]
  have d2 : ws.drop (k + 1) = b :: ws.drop (k + 2) := by rw [List.drop_eq_getElem_cons l2, e2]
  rw [← d2, ← d1, List.take_append_drop]
theorem glue_flat {ws : List (List Int)} {k : Nat} {a b : List Int} (h1 : ws[k]? = some a) (h2 : ws[k + 1]? = some b) : (glue ws k a b).flatten = ws.flatten := by
  have e := congrArg List.flatten (glue_split h1 h2)
  rw [e]
  unfold glue
  simp
theorem glue_len {ws : List (List Int)} {k : Nat} {a b : List Int} (h1 : ws[k]? = some a) (h2 : ws[k + 1]? = some b) : (glue ws k a b).length + 1 = ws.length := by
  have e := congrArg List.length (glue_split h1 h2)
  unfold glue
  simp only [List.length_append, List.length_cons, List.length_nil] at e ⊢
  omega
theorem glue_ly {ws : List (List Int)} {k : Nat} {a b : List Int} (h1 : ws[k]? = some a) (h2 : ws[k + 1]? = some b) (hl : lx a b = true) (h : ∀ w ∈ ws, Ly w) : ∀ w ∈ glue ws k a b, Ly w := fun w hw => by
  unfold glue at hw
  simp only [List.mem_append, List.mem_singleton] at hw
  rcases hw with (hw | rfl) | hw
  · exact h w (List.mem_of_mem_take hw)
  · exact (h a (List.mem_of_getElem? h1)).join (h b (List.mem_of_getElem? h2)) hl
  · exact h w (List.mem_of_mem_drop hw)
/- the longest beginning that is such a word -/
noncomputable def lyB (row : List Int) (n : Nat) : Bool := (List.range (n - 1)).all fun j => lx (row.take n) ((row.drop (j + 1)).take (n - (j + 1)))
theorem lyB_iff {row : List Int} {n : Nat} (h0 : 0 < n) (hn : n ≤ row.length) : lyB row n = true ↔ Ly (row.take n) := by
  have hl : (row.take n).length = n := by rw [List.length_take]; omega
  unfold lyB
  rw [List.all_eq_true]
  constructor
  · intro h
    refine ⟨fun z => by rw [z] at hl; simp at hl; omega, fun s t e hs ht => ?_⟩
    have l1 := congrArg List.length e
    rw [hl, List.length_append] at l1
    have p1 : 0 < s.length := List.length_pos_iff.mpr hs
    have p2 : 0 < t.length := List.length_pos_iff.mpr ht
    have := h (s.length - 1) (List.mem_range.mpr (by omega))
    rw [show s.length - 1 + 1 = s.length by omega, ← List.drop_take] at this
    rw [e, List.drop_left] at this
    rw [e]; exact this
  · intro h j hj
    rw [List.mem_range] at hj
    rw [← List.drop_take]
    refine h.2 ((row.take n).take (j + 1)) _ (List.take_append_drop _ _).symm (fun z => ?_) fun z => ?_
    · have := congrArg List.length z
      rw [List.length_take, hl] at this
      simp at this; omega
    · have := congrArg List.length z
      rw [List.length_drop, hl] at this
      simp at this; omega
noncomputable def sizes (row : List Int) : List Nat := ((List.range row.length).map (· + 1)).filter (lyB row)
theorem sizes_max {w : List Int} {ws : List (List Int)} (h : Cfl (w :: ws)) : w.length ∈ sizes (w :: ws).flatten ∧ ∀ n ∈ sizes (w :: ws).flatten, n ≤ w.length := by
  have hw := h.1 w (List.mem_cons_self ..)
  have hp : 0 < w.length := List.length_pos_iff.mpr hw.1
  have hle : w.length ≤ (w :: ws).flatten.length := by rw [List.flatten_cons, List.length_append]; omega
  have ht : (w :: ws).flatten.take w.length = w := by rw [List.flatten_cons, List.take_left]
  unfold sizes
  constructor
  · refine List.mem_filter.mpr ⟨List.mem_map.mpr ⟨w.length - 1, List.mem_range.mpr (by omega), by omega⟩, ?_⟩
    rw [lyB_iff hp hle, ht]
    exact hw
  · intro n hn
    obtain ⟨h1, h2⟩ := List.mem_filter.mp hn
    obtain ⟨i, hi, rfl⟩ := List.mem_map.mp h1
    rw [List.mem_range] at hi
    rw [lyB_iff (by omega) (by omega)] at h2
    have := h.long (z := (w :: ws).flatten.drop (i + 1)) (List.take_append_drop _ _).symm h2
    rw [List.length_take] at this
    omega
end Mine
end
section
open PySem PySem.W PyProof.Rows
namespace Mine
set_option maxRecDepth 100000
set_option linter.unusedSimpArgs false
set_option linter.unusedVariables false
/-- the four kinds of words -/
inductive Kd where
  | l | t | s | b
deriving DecidableEq
noncomputable def Kd.n : Kd → Int
  | .l => 0
  | .t => 1
  | .s => 2
  | .b => 3
/-- a number as a letter -/
noncomputable def Kd.key (d : Kd) (x : Int) : Int := match d with
  | .l => x
  | .t => x
  | .s => x % 26
  | .b => x % 256
noncomputable def Kd.ok (d : Kd) (x : Int) : Prop := match d with
  | .l => True
  | .t => True
  | .s => 0 ≤ x ∧ x < 26
  | .b => 0 ≤ x ∧ x < 256
theorem Kd.key_ok (d : Kd) (x : Int) : d.ok (d.key x) := by
  cases d
  · trivial
  · trivial
  · exact ⟨by show 0 ≤ x % 26; omega, by show x % 26 < 26; omega⟩
  · exact ⟨by show 0 ≤ x % 256; omega, by show x % 256 < 256; omega⟩
noncomputable def Lts (d : Kd) (w : List Int) : Prop := ∀ x ∈ w, d.ok x
noncomputable def stx (w : List Int) : Str := ⟨(w.map fun y => (97 + y).toNat).toArray⟩
noncomputable def wd (d : Kd) (w : List Int) : AV := match d with
  | .l => .lst (w.map .int)
  | .t => .tup (w.map .int)
  | .s => .str (stx w)
  | .b => .bytes (byteArr w)
theorem wd_dr (d : Kd) (w : List Int) (σ : Store) : deref σ (wd d w) = wd d w := by cases d <;> rfl
theorem stx_len (w : List Int) : (stx w).length = w.length := by show (stx w).cps.size = _; simp [stx]
theorem stx_list (w : List Int) : (stx w).cps.toList = w.map fun y => (97 + y).toNat := by simp [stx]
theorem byt_list (w : List Int) : (byteArr w).toList = w.map fun n => n.toNat.toUInt8 := by simp [byteArr]
theorem byt_size (w : List Int) : (byteArr w).size = w.length := by simp [byteArr]
/- order -/
theorem lexI_lx : ∀ x y : List Int, (lexI x y == .lt) = lx x y
  | [], [] => rfl
  | [], _ :: _ => rfl
  | _ :: _, [] => rfl
  | a :: x, b :: y => by
    simp only [lexI, lx]
    by_cases e : a = b
    · rw [if_pos e, if_pos e]; exact lexI_lx x y
    · rw [if_neg e, if_neg e]
      by_cases h : a < b
      · rw [if_pos h, decide_eq_true h]; rfl
      · rw [if_neg h, decide_eq_false h]; rfl
theorem stx_lx : ∀ {x y : List Int}, Lts .s x → Lts .s y → decide ((x.map fun y => (97 + y).toNat) < (y.map fun y => (97 + y).toNat)) = lx x y
  | [], [], _, _ => by simp [lx]
  | [], _ :: _, _, _ => by simp [lx]
  | _ :: _, [], _, _ => by simp [lx]
  | a :: x, b :: y, hx, hy => by
    have ih := stx_lx (x := x) (y := y) (fun z hz => hx z (List.mem_cons_of_mem _ hz)) fun z hz => hy z (List.mem_cons_of_mem _ hz)
    have ha := hx a (List.mem_cons_self ..)
    have hb := hy b (List.mem_cons_self ..)
    simp only [Kd.ok] at ha hb
    simp only [List.map_cons, lx, List.cons_lt_cons_iff]
    by_cases e : a = b
    · subst e
      rw [if_pos rfl, ← ih]
      simp
    · rw [if_neg e]
      have h1 : ¬ (97 + a).toNat = (97 + b).toNat := by omega
      simp only [h1, false_and, or_false, decide_eq_decide]
      omega
theorem byt_lx : ∀ {x y : List Int}, Lts .b x → Lts .b y → (Builtin.Bytes.order (x.map fun n => n.toNat.toUInt8) (y.map fun n => n.toNat.toUInt8) == .lt) = lx x y
  | [], [], _, _ => rfl
  | [], _ :: _, _, _ => rfl
  | _ :: _, [], _, _ => rfl
  | a :: x, b :: y, hx, hy => by
    have ih := byt_lx (x := x) (y := y) (fun z hz => hx z (List.mem_cons_of_mem _ hz)) fun z hz => hy z (List.mem_cons_of_mem _ hz)
    have ha := hx a (List.mem_cons_self ..)
    have hb := hy b (List.mem_cons_self ..)
    simp only [Kd.ok] at ha hb
    have key : ∀ p q : Int, 0 ≤ p → p < 256 → 0 ≤ q → q < 256 → (p.toNat.toUInt8 < q.toNat.toUInt8 ↔ p < q) := fun p q h1 h2 h3 h4 => by
      rw [UInt8.lt_iff_toNat_lt]
      simp only [Nat.toUInt8, UInt8.toNat_ofNat']
      omega
    simp only [List.map_cons, Builtin.Bytes.order, lx]
    have k1 := key a b ha.1 ha.2 hb.1 hb.2
    have k2 := key b a hb.1 hb.2 ha.1 ha.2
    by_cases e : a = b
    · subst e
      rw [if_neg (fun z => by have := k1.mp z; omega), if_neg (fun z => by have := k1.mp z; omega), if_pos rfl]
      exact ih
    · rw [if_neg e]
      by_cases h : a < b
      · rw [if_pos (k1.mpr h), decide_eq_true h]; rfl
      · rw [if_neg fun z => h (k1.mp z), if_pos (k2.mpr (by omega)), decide_eq_false h]; rfl
theorem wd_lt {d : Kd} {x y : List Int} (hx : Lts d x) (hy : Lts d y) : opCmp .Lt (wd d x) (wd d y) = some (lx x y) := by
  cases d with
  | l => show ordI .Lt _ _ = _; simp only [ordI, ints_map, ordB, lexI_lx]
  | t => show ordI .Lt _ _ = _; simp only [ordI, ints_map, ordB, lexI_lx]
  | s => show some (decide ((stx x).cps.toList < (stx y).cps.toList)) = _; rw [stx_list, stx_list, stx_lx hx hy]
  | b => show some (ordB .Lt (Builtin.Bytes.order (byteArr x).toList (byteArr y).toList)) = _; rw [byt_list, byt_list]; simp only [ordB, byt_lx hx hy]
theorem wd_ge {d : Kd} {x y : List Int} (hx : Lts d x) (hy : Lts d y) : opCmp .GtE (wd d x) (wd d y) = some (!lx x y) := by
  have ne : ∀ o : Ordering, (o != .lt) = !(o == .lt) := fun _ => rfl
  cases d with
  | l => show ordI .GtE _ _ = _; simp only [ordI, ints_map, ordB, ne, lexI_lx]
  | t => show ordI .GtE _ _ = _; simp only [ordI, ints_map, ordB, ne, lexI_lx]
  | s => show some (!decide ((stx x).cps.toList < (stx y).cps.toList)) = _; rw [stx_list, stx_list, stx_lx hx hy]
  | b => show some (ordB .GtE (Builtin.Bytes.order (byteArr x).toList (byteArr y).toList)) = _; rw [byt_list, byt_list]; simp only [ordB, ne, byt_lx hx hy]
/- put together -/
theorem stx_append (a b : List Int) : stx a ++ stx b = stx (a ++ b) := by
  show (⟨(stx a).cps ++ (stx b).cps⟩ : Str) = _
  simp [stx]
theorem byt_append (a b : List Int) : byteArr a ++ byteArr b = byteArr (a ++ b) := by simp [byteArr]
theorem wd_add {d : Kd} (x y : List Int) (h : x.length + y.length ≤ 1000) : opBin .Add (wd d x) (wd d y) = .ok (wd d (x ++ y)) := by
  cases d with
  | l => show (if (x.map AV.int).length + (y.map AV.int).length ≤ 1048576 then Res.ok (.lst (x.map .int ++ y.map .int)) else .stuck) = _; rw [if_pos (by rw [List.length_map, List.length_map]; omega), ← List.map_append]; rfl
  | t => show (if (x.map AV.int).length + (y.map AV.int).length ≤ 1048576 then Res.ok (.tup (x.map .int ++ y.map .int)) else .stuck) = _; rw [if_pos (by rw [List.length_map, List.length_map]; omega), ← List.map_append]; rfl
  | s => show (if (stx x).length + (stx y).length ≤ 1048576 then Res.ok (.str (stx x ++ stx y)) else .stuck) = _; rw [if_pos (by rw [stx_len, stx_len]; omega), stx_append]; rfl
  | b => show (if (byteArr x).size + (byteArr y).size ≤ 1048576 then Res.ok (.bytes (byteArr x ++ byteArr y)) else .stuck) = _; rw [if_pos (by rw [byt_size, byt_size]; omega), byt_append]; rfl
theorem wd_len {d : Kd} (x : List Int) (h : x.length ≤ 1000) : callB .len [wd d x] = .ok (.int (x.length : Nat)) := by
  cases d with
  | l => show Res.ok (.int ((x.map AV.int).length : Nat)) = _; rw [List.length_map]
  | t => show Res.ok (.int ((x.map AV.int).length : Nat)) = _; rw [List.length_map]
  | s => show (if (stx x).length ≤ 1048576 then Res.ok (.int ((stx x).length : Nat)) else .stuck) = _; rw [stx_len, if_pos (by omega)]
  | b => show (if (byteArr x).size ≤ 1048576 then Res.ok (.int ((byteArr x).size : Nat)) else .stuck) = _; rw [byt_size, if_pos (by omega)]
/- parts -/
theorem cutN_upto {n k : Nat} (h : k ≤ n) : cutN n none (some (k : Int)) = some (0, k) := by
  unfold cutN
  simp only [Option.elim]
  rw [if_pos ⟨by omega, by omega⟩]
  simp
theorem cutN_from {n k : Nat} (h : k ≤ n) : cutN n (some (k : Int)) none = some (k, n) := by
  unfold cutN
  simp only [Option.elim]
  rw [if_pos ⟨by omega, by omega⟩]
  simp [h]
theorem cutN_mid {n j k : Nat} (h : j ≤ k) (hk : k ≤ n) : cutN n (some (j : Int)) (some (k : Int)) = some (j, k) := by
  unfold cutN
  simp only [Option.elim]
  rw [if_pos ⟨by omega, by omega⟩, if_pos ⟨by omega, by omega⟩]
  simp [h]
theorem wd_cut {d : Kd} (hd : d ≠ .l) (x : List Int) (h : x.length ≤ 1000) {lo hi : Option Int} {a b : Nat} (hc : cutN x.length lo hi = some (a, b)) : cutV (wd d x) lo hi = .ok (wd d ((x.drop a).take (b - a))) := by
  cases d with
  | l => exact absurd rfl hd
  | t =>
    show (match cutN (x.map AV.int).length lo hi with | some (a, b) => Res.ok (.tup (((x.map AV.int).drop a).take (b - a))) | none => .stuck) = _
    rw [List.length_map, hc]
    simp only [wd, List.map_take, List.map_drop]
  | s =>
    show (if (stx x).length ≤ 1048576 then (match cutN (stx x).length lo hi with | some (a, b) => Res.ok (.str ⟨(((stx x).cps.toList.drop a).take (b - a)).toArray⟩) | none => .stuck) else .stuck) = _
    rw [stx_len, if_pos (by omega), hc]
    simp only [wd, stx_list, stx, List.map_take, List.map_drop]
  | b =>
    show (if (byteArr x).size ≤ 1048576 then (match cutN (byteArr x).size lo hi with | some (a, b) => Res.ok (.bytes (((byteArr x).toList.drop a).take (b - a)).toArray) | none => .stuck) else .stuck) = _
    rw [byt_size, if_pos (by omega), hc]
    simp only [wd, byt_list, byteArr, List.map_take, List.map_drop]
theorem wd_slice {d : Kd} (hd : d ≠ .l) (x : List Int) (a b : AV) {lo hi : Option Int} (ha : asPart a = some lo) (hb : asPart b = some hi) : opSlice (wd d x) a b .none = cutV (wd d x) lo hi := by
  cases d with
  | l => exact absurd rfl hd
  | _ =>
    show (match asPart a, asPart b with | some lo, some hi => cutV _ lo hi | _, _ => Res.stuck) = _
    rw [ha, hb]
theorem pick_mid (xs : List AV) {j k : Nat} (h : j ≤ k) (hk : k ≤ xs.length) : pickL xs (some (j : Int)) (some (k : Int)) none = (xs.drop j).take (k - j) := by
  rw [pickL_plain]
  simp only [Option.elim_some, clip_nat]
  rw [Nat.min_eq_left hk, Nat.min_eq_left (by omega)]
theorem sl_mid (xs : List AV) {j k : Nat} (h : j ≤ k) (hk : k ≤ xs.length) : sliceL xs (.int j) (.int k) .none = .ok (.lst ((xs.drop j).take (k - j))) := by
  show (if (none : Option Int) = some 0 then Res.stuck else .ok (.lst (pickL xs (some (j : Int)) (some (k : Int)) none))) = _
  rw [if_neg (by simp), pick_mid xs h hk]
theorem wd_upto {d : Kd} (x : List Int) {k : Nat} (h : x.length ≤ 1000) (hk : k ≤ x.length) : opSlice (wd d x) .none (.int (k : Int)) .none = .ok (wd d (x.take k)) := by
  by_cases hd : d = .l
  · subst hd
    rw [show wd .l x = .lst (x.map .int) from rfl, os_l, sl_take, ← List.map_take]; rfl
  · rw [wd_slice hd x _ _ rfl rfl, wd_cut hd x h (cutN_upto hk), List.drop_zero, Nat.sub_zero]
theorem wd_mid {d : Kd} (x : List Int) {j k : Nat} (h : x.length ≤ 1000) (hj : j ≤ k) (hk : k ≤ x.length) : opSlice (wd d x) (.int (j : Int)) (.int (k : Int)) .none = .ok (wd d ((x.drop j).take (k - j))) := by
  by_cases hd : d = .l
  · subst hd
    rw [show wd .l x = .lst (x.map .int) from rfl, os_l, sl_mid _ hj (by rw [List.length_map]; exact hk), ← List.map_drop, ← List.map_take]; rfl
  · rw [wd_slice hd x _ _ rfl rfl, wd_cut hd x h (cutN_mid hj hk)]
theorem wd_from {d : Kd} (x : List Int) {k : Nat} (h : x.length ≤ 1000) (hk : k ≤ x.length) : opSlice (wd d x) (.int (k : Int)) .none .none = .ok (wd d (x.drop k)) := by
  by_cases hd : d = .l
  · subst hd
    rw [show wd .l x = .lst (x.map .int) from rfl, os_l, sl_drop, ← List.map_drop]; rfl
  · rw [wd_slice hd x _ _ rfl rfl, wd_cut hd x h (cutN_from hk), List.take_of_length_le (by simp)]
/- equality -/
theorem allZ_refl {f : AV → AV → Option Bool} : ∀ (l : List AV), (∀ x ∈ l, f x x = some true) → allZ f l l = some true
  | [], _ => rfl
  | x :: l, h => by
    simp only [allZ, h x (List.mem_cons_self ..), allZ_refl l fun y hy => h y (List.mem_cons_of_mem _ hy)]; rfl
theorem eqN_ints (n : Nat) (r : List Int) : ∀ x ∈ r.map AV.int, itm (eqN n) x x = some true := by
  intro x hx
  obtain ⟨m, _, rfl⟩ := List.mem_map.mp hx
  show eqN n (.int m) (.int m) = some true
  cases n <;> simp [eqN, eqS, two, AV.int?, AV.lst?, AV.tup?]
theorem eqN_wd (n : Nat) (d : Kd) (w : List Int) : eqN (n + 1) (wd d w) (wd d w) = some true := by
  cases d with
  | l => show eqL (itm (eqN n)) _ _ = _; unfold eqL; rw [if_pos rfl]; exact allZ_refl _ (eqN_ints n w)
  | t => show eqT (itm (eqN n)) _ _ = _; unfold eqT; rw [allZ_refl _ (eqN_ints n w)]; simp
  | s => show some (stx w == stx w) = _; simp
  | b => show some ((byteArr w).toList == (byteArr w).toList) = _; simp
theorem wd_ne (d : Kd) (w : List Int) : opCmp .NotEq (wd d w) (wd d w) = some false := by
  show (eqN 3 (wd d w) (wd d w)).map (!·) = _
  rw [eqN_wd]; rfl
theorem wds_ne (d : Kd) (ws : List (List Int)) : opCmp .NotEq (.lst (ws.map (wd d))) (.lst (ws.map (wd d))) = some false := by
  show (eqL (itm (eqN 2)) (ws.map (wd d)) (ws.map (wd d))).map (!·) = _
  unfold eqL
  rw [if_pos rfl, allZ_refl]
  · rfl
  · intro x hx
    obtain ⟨w, _, rfl⟩ := List.mem_map.mp hx
    have h := eqN_wd 1 d w
    cases d <;> exact h
theorem wd_has (d : Kd) (w : List Int) : callB .hasattr [wd d w, .str (PySem.Str.ofString "__getitem__")] = .ok (.bool true) := by cases d <;> rfl
/- texts from letters -/
theorem empty_cps : (PySem.Str.ofString "").cps = #[] := by decide
noncomputable def sg (n : Int) : Str := ⟨#[(97 + n).toNat]⟩
theorem join_stx (r : List Int) : Txt.join (PySem.Str.ofString "") (r.map sg) = stx r := by
  unfold PySem.Txt.join
  rw [PySem.StrLaws.glued_eq_join]
  have app : ∀ x y : Str, (x ++ y).cps = x.cps ++ y.cps := fun _ _ => rfl
  have : ∀ r : List Int, (PySem.Str.join (PySem.Str.ofString "") (r.map sg)).cps.toList = r.map fun n => (97 + n).toNat := by
    intro r
    induction r with
    | nil => rfl
    | cons x r ih =>
      cases r with
      | nil => simp [PySem.Str.join, sg]
      | cons y r =>
        simp only [List.map_cons] at ih ⊢
        rw [PySem.Str.join, app, app, empty_cps]
        · simp only [Array.toList_append, ih]
          simp [sg]
        · simp
  have h := this r
  unfold stx
  rw [← h]
theorem strs_map {α : Type} (f : α → Str) (l : List α) : strs? (l.map fun x => .str (f x)) = some (l.map f) := by
  induction l with
  | nil => rfl
  | cons a l ih => simp only [List.map_cons, strs?, ih]; rfl
theorem sum_ones : ∀ l : List Int, ((l.map sg).map (·.length)).sum = l.length
  | [] => rfl
  | a :: l => by
    rw [List.map_cons, List.map_cons, List.sum_cons, sum_ones l, List.length_cons]
    have : (sg a).length = 1 := rfl
    omega
theorem join_word (r : List Int) (hl : r.length ≤ 1000) : opMeth .join (.str (PySem.Str.ofString "")) [.lst (r.map fun x => .str (sg x))] = .ok (.str (stx r)) := by
  have h1 : (PySem.Str.ofString "").length ≤ 16 := by decide
  have h2 : ((r.map sg).map (·.length)).sum + (r.map sg).length ≤ 1048576 := by rw [sum_ones, List.length_map]; omega
  rw [show opMeth .join (.str (PySem.Str.ofString "")) [.lst (r.map fun x => .str (sg x))] = m_join (.str (PySem.Str.ofString "")) [.lst (r.map fun x => .str (sg x))] from rfl]
  simp only [m_join, AV.str?, strs_map, h1, h2, if_true, join_stx]
theorem bytes_word (r : List Int) (hd : Lts .b r) (hl : r.length ≤ 1000) : callB .bytes [.lst (r.map .int)] = .ok (.bytes (byteArr r)) := by
  show b_bytes [.lst (r.map .int)] = _
  have hb : r.all inByte = true := by
    simp only [List.all_eq_true, inByte, decide_eq_true_eq]
    exact fun x hx => hd x hx
  have hz : r.length ≤ 1048576 := by omega
  simp only [b_bytes, ints_map, hb, hz, if_true]
end Mine
end
section
open PySem PySem.W PyProof.Rows
namespace Mine
set_option maxRecDepth 100000
set_option linter.unusedSimpArgs false
set_option linter.unusedVariables false
set_option maxHeartbeats 1000000
section
variable {O : OpsF} {ld : Bool} (hO : O = ops ld) {cal : Cal} {σ : Store} {lo n0 : Nat}
theorem w_tb (hO : O = ops ld) (b : Bool) : O.truth (.bool b) = some b := by rw [o_truth hO]; rfl
theorem w_ieq (hO : O = ops ld) (a b : Int) : O.cmp .Eq (.int a) (.int b) = some (a == b) := by rw [o_cmp hO]; rfl
theorem w_mod (hO : O = ops ld) (a b : Int) (h : 0 < b) : O.bin .Mod (.int a) (.int b) = .ok (.int (a % b)) := by
  rw [o_bin hO, ob_ii]
  exact mod_pos a b h
theorem w_iadd (hO : O = ops ld) (a b : Int) : O.bin .Add (.int a) (.int b) = .ok (.int (a + b)) := by rw [o_bin hO]; rfl
theorem w_isub (hO : O = ops ld) (a b : Int) : O.bin .Sub (.int a) (.int b) = .ok (.int (a - b)) := by rw [o_bin hO]; rfl
include hO
theorem concat_run {a b : AV} {d : Kd} {x y : List Int} (ha : deref σ a = wd d x) (hb : deref σ b = wd d y) (h : x.length + y.length ≤ 1000) : fnRes (pxs O cal true ⟨[some (.val a), some (.val b), none], σ, lo, n0⟩ concat_p) = .ok (.av (wd d (x ++ y))) σ := by
  unfold concat_p
  have tb := w_tb hO
  have hh : O.bcall .hasattr [wd d x, .str (PySem.Str.ofString "__getitem__")] = .ok (.bool true) := by rw [o_bcall hO]; exact wd_has d x
  have hadd : O.bin .Add (wd d x) (wd d y) = .ok (wd d (x ++ y)) := by rw [o_bin hO]; exact wd_add x y h
  refine fn_ret (pk_skip (σ := σ) ?_ (pk_ret (v := wd d (x ++ y)) (σ := σ) ?_ ends_ret))
  · simp only [pe_const, pe_name, slotV, pe_glob, pe_bin, pe_not, pe_neg, pe_is, pe_isnot, pe_eq, pe_ne, pe_lt, pe_le, pe_gt, pe_ge, pe_in, pe_notin, pe_bop, pe_ife, pe_list, pe_tup, pe_sub, pe_slice, pe_call, pe_bcall, pe_meth, pe_setd, pe_attr, pes_nil', pes_cons, pr_v, pr_t, bind_ok, bindA_ok, truth_ok, ofB_some, ofRes_ok, ofRes_exc, onL_some, onP_some, plains_nil, plains_cons, pall_and_nil, pall_or_nil, pall_and_cons, pall_or_cons, pbop_one, pbop_and, pbop_or, Option.map_some, List.map_cons, List.map_nil, List.getElem?_cons_zero, List.getElem?_cons_succ, dS_av, dr_none, dr_bool, dr_int, dr_str, dr_type, dr_range, dr_tup, dr_lst, dr_set, List.length_cons, List.length_nil, Bool.not_true, Bool.not_false, Nat.reduceAdd, Nat.reduceLeDiff, if_true, ha, hh, tb]
  · simp only [pe_const, pe_name, slotV, pe_glob, pe_bin, pe_not, pe_neg, pe_is, pe_isnot, pe_eq, pe_ne, pe_lt, pe_le, pe_gt, pe_ge, pe_in, pe_notin, pe_bop, pe_ife, pe_list, pe_tup, pe_sub, pe_slice, pe_call, pe_bcall, pe_meth, pe_setd, pe_attr, pes_nil', pes_cons, pr_v, pr_t, bind_ok, bindA_ok, truth_ok, ofB_some, ofRes_ok, ofRes_exc, onL_some, onP_some, plains_nil, plains_cons, pall_and_nil, pall_or_nil, pall_and_cons, pall_or_cons, pbop_one, pbop_and, pbop_or, Option.map_some, List.map_cons, List.map_nil, List.getElem?_cons_zero, List.getElem?_cons_succ, dS_av, dr_none, dr_bool, dr_int, dr_str, dr_type, dr_range, dr_tup, dr_lst, dr_set, List.length_cons, List.length_nil, Bool.not_true, Bool.not_false, Nat.reduceAdd, Nat.reduceLeDiff, if_true, ha, hb, hadd]
theorem concat_new {d : Kd} {x y : List Int} (h : x.length + y.length ≤ 1000) : ∃ v τ, fnRes (pxs O cal true ⟨[some (.val (wd d x)), some (.val (wd d y)), none], σ, lo, n0⟩ concat2_p) = .ok (.av v) (σ ++ τ) ∧ deref (σ ++ τ) v = wd d (x ++ y) ∧ (d = .l → v = .ptr σ.length) := by
  unfold concat2_p
  have tb := w_tb hO
  have hh : O.bcall .hasattr [wd d x, .str (PySem.Str.ofString "__getitem__")] = .ok (.bool true) := by rw [o_bcall hO]; exact wd_has d x
  have hadd : O.bin .Add (wd d x) (wd d y) = .ok (wd d (x ++ y)) := by rw [o_bin hO]; exact wd_add x y h
  have hc : O.cat = opCat := o_cat hO
  have dx := wd_dr d x σ
  have dy := wd_dr d y σ
  by_cases hd : d = .l
  · subst hd
    refine ⟨.ptr σ.length, [some (.lst ((x ++ y).map .int))], fn_ret (pk_skip (σ := σ) ?_ (pk_ret (v := .ptr σ.length) (σ := σ ++ [some (.lst ((x ++ y).map .int))]) ?_ ends_ret)), ?_, fun _ => rfl⟩
    · simp only [pe_const, pe_name, slotV, pe_glob, pe_bin, pe_not, pe_neg, pe_is, pe_isnot, pe_eq, pe_ne, pe_lt, pe_le, pe_gt, pe_ge, pe_in, pe_notin, pe_bop, pe_ife, pe_list, pe_tup, pe_sub, pe_slice, pe_call, pe_bcall, pe_meth, pe_setd, pe_attr, pes_nil', pes_cons, pr_v, pr_t, bind_ok, bindA_ok, truth_ok, ofB_some, ofRes_ok, ofRes_exc, onL_some, onP_some, plains_nil, plains_cons, pall_and_nil, pall_or_nil, pall_and_cons, pall_or_cons, pbop_one, pbop_and, pbop_or, Option.map_some, List.map_cons, List.map_nil, List.getElem?_cons_zero, List.getElem?_cons_succ, dS_av, dr_none, dr_bool, dr_int, dr_str, dr_type, dr_range, dr_tup, dr_lst, dr_set, List.length_cons, List.length_nil, Bool.not_true, Bool.not_false, Nat.reduceAdd, Nat.reduceLeDiff, if_true, dx, hh, tb]
    · have hcat : opCat (wd .l x) (wd .l y) = some ((x ++ y).map .int) := by
        show (if (x.map AV.int).length + (y.map AV.int).length ≤ 1048576 then some (x.map AV.int ++ y.map AV.int) else none) = _
        rw [if_pos (by rw [List.length_map, List.length_map]; omega), List.map_append]
      rw [pe_cat]
      simp only [pe_const, pe_name, slotV, pe_glob, pe_bin, pe_not, pe_neg, pe_is, pe_isnot, pe_eq, pe_ne, pe_lt, pe_le, pe_gt, pe_ge, pe_in, pe_notin, pe_bop, pe_ife, pe_list, pe_tup, pe_sub, pe_slice, pe_call, pe_bcall, pe_meth, pe_setd, pe_attr, pes_nil', pes_cons, pr_v, pr_t, bind_ok, bindA_ok, truth_ok, ofB_some, ofRes_ok, ofRes_exc, onL_some, onP_some, plains_nil, plains_cons, pall_and_nil, pall_or_nil, pall_and_cons, pall_or_cons, pbop_one, pbop_and, pbop_or, Option.map_some, List.map_cons, List.map_nil, List.getElem?_cons_zero, List.getElem?_cons_succ, dS_av, dr_none, dr_bool, dr_int, dr_str, dr_type, dr_range, dr_tup, dr_lst, dr_set, List.length_cons, List.length_nil, Bool.not_true, Bool.not_false, Nat.reduceAdd, Nat.reduceLeDiff, if_true, dx, dy, hc, hcat, catF]
    · simp [deref, wd]
  · refine ⟨wd d (x ++ y), [], fn_ret (pk_skip (σ := σ) ?_ (pk_ret (v := wd d (x ++ y)) (σ := σ ++ []) ?_ ends_ret)), wd_dr _ _ _, fun h => absurd h hd⟩
    · simp only [pe_const, pe_name, slotV, pe_glob, pe_bin, pe_not, pe_neg, pe_is, pe_isnot, pe_eq, pe_ne, pe_lt, pe_le, pe_gt, pe_ge, pe_in, pe_notin, pe_bop, pe_ife, pe_list, pe_tup, pe_sub, pe_slice, pe_call, pe_bcall, pe_meth, pe_setd, pe_attr, pes_nil', pes_cons, pr_v, pr_t, bind_ok, bindA_ok, truth_ok, ofB_some, ofRes_ok, ofRes_exc, onL_some, onP_some, plains_nil, plains_cons, pall_and_nil, pall_or_nil, pall_and_cons, pall_or_cons, pbop_one, pbop_and, pbop_or, Option.map_some, List.map_cons, List.map_nil, List.getElem?_cons_zero, List.getElem?_cons_succ, dS_av, dr_none, dr_bool, dr_int, dr_str, dr_type, dr_range, dr_tup, dr_lst, dr_set, List.length_cons, List.length_nil, Bool.not_true, Bool.not_false, Nat.reduceAdd, Nat.reduceLeDiff, if_true, dx, hh, tb]
    · have hcat : opCat (wd d x) (wd d y) = none := by cases d <;> first | exact absurd rfl hd | rfl
      rw [pe_cat, List.append_nil]
      simp only [pe_const, pe_name, slotV, pe_glob, pe_bin, pe_not, pe_neg, pe_is, pe_isnot, pe_eq, pe_ne, pe_lt, pe_le, pe_gt, pe_ge, pe_in, pe_notin, pe_bop, pe_ife, pe_list, pe_tup, pe_sub, pe_slice, pe_call, pe_bcall, pe_meth, pe_setd, pe_attr, pes_nil', pes_cons, pr_v, pr_t, bind_ok, bindA_ok, truth_ok, ofB_some, ofRes_ok, ofRes_exc, onL_some, onP_some, plains_nil, plains_cons, pall_and_nil, pall_or_nil, pall_and_cons, pall_or_cons, pbop_one, pbop_and, pbop_or, Option.map_some, List.map_cons, List.map_nil, List.getElem?_cons_zero, List.getElem?_cons_succ, dS_av, dr_none, dr_bool, dr_int, dr_str, dr_type, dr_range, dr_tup, dr_lst, dr_set, List.length_cons, List.length_nil, Bool.not_true, Bool.not_false, Nat.reduceAdd, Nat.reduceLeDiff, if_true, dx, dy, hc, hcat, catF, hadd]
/-- what has no places -/
theorem concat_no {t : AV} {T : String} {nm : Str} (dt : deref σ t = t) (hh : O.bcall .hasattr [t, .str (PySem.Str.ofString "__getitem__")] = .ok (.bool false)) (ht : O.bcall .type [t] = .ok (.type T)) (hn : O.attr .name_ (.type T) = .ok (.str nm)) (hz : nm.length ≤ 1000000) :
    fnRes (pxs O cal true ⟨[some (.val t), some (.val t), none], σ, lo, n0⟩ concat_p) = .exc (.tm (saidC nm)) σ := by
  unfold concat_p
  have tb := w_tb hO
  have hmod : O.bin .Mod (.str (PySem.Str.ofString "'%s' object can't be concatenated")) (.str nm) = .ok (.str (saidC nm)) := by
    rw [o_bin hO]
    show (if PySem.Str.ofString "'%s' object can't be concatenated" = fmtC then (if nm.length ≤ 1000000 then Res.ok (.str (saidC nm)) else .stuck) else .stuck) = _
    rw [show PySem.Str.ofString "'%s' object can't be concatenated" = fmtC from rfl, if_pos rfl, if_pos hz]
  refine fn_ret ?_
  refine pk_if_t (σ := σ) ?_ ?_
  · simp only [pe_const, pe_name, slotV, pe_glob, pe_bin, pe_not, pe_neg, pe_is, pe_isnot, pe_eq, pe_ne, pe_lt, pe_le, pe_gt, pe_ge, pe_in, pe_notin, pe_bop, pe_ife, pe_list, pe_tup, pe_sub, pe_slice, pe_call, pe_bcall, pe_meth, pe_setd, pe_attr, pes_nil', pes_cons, pr_v, pr_t, bind_ok, bindA_ok, truth_ok, ofB_some, ofRes_ok, ofRes_exc, onL_some, onP_some, plains_nil, plains_cons, pall_and_nil, pall_or_nil, pall_and_cons, pall_or_cons, pbop_one, pbop_and, pbop_or, Option.map_some, List.map_cons, List.map_nil, List.getElem?_cons_zero, List.getElem?_cons_succ, dS_av, dr_none, dr_bool, dr_int, dr_str, dr_type, dr_range, dr_tup, dr_lst, dr_set, List.length_cons, List.length_nil, Bool.not_true, Bool.not_false, Nat.reduceAdd, Nat.reduceLeDiff, if_true, dt, hh, tb]
  · refine pk_assign (v := .str (saidC nm)) (σ := σ) ?_ ?_
    · simp only [pe_const, pe_name, slotV, pe_glob, pe_bin, pe_not, pe_neg, pe_is, pe_isnot, pe_eq, pe_ne, pe_lt, pe_le, pe_gt, pe_ge, pe_in, pe_notin, pe_bop, pe_ife, pe_list, pe_tup, pe_sub, pe_slice, pe_call, pe_bcall, pe_meth, pe_setd, pe_attr, pes_nil', pes_cons, pr_v, pr_t, bind_ok, bindA_ok, truth_ok, ofB_some, ofRes_ok, ofRes_exc, onL_some, onP_some, plains_nil, plains_cons, pall_and_nil, pall_or_nil, pall_and_cons, pall_or_cons, pbop_one, pbop_and, pbop_or, Option.map_some, List.map_cons, List.map_nil, List.getElem?_cons_zero, List.getElem?_cons_succ, dS_av, dr_none, dr_bool, dr_int, dr_str, dr_type, dr_range, dr_tup, dr_lst, dr_set, List.length_cons, List.length_nil, Bool.not_true, Bool.not_false, Nat.reduceAdd, Nat.reduceLeDiff, if_true, dt, ht, hn, hmod]
    · dsimp only [Fs.at, Fs.set, List.set_cons_zero, List.set_cons_succ]
      refine pk_cons ?_
      rw [qx_raiseM]
      simp only [pe_const, pe_name, slotV, pe_glob, pe_bin, pe_not, pe_neg, pe_is, pe_isnot, pe_eq, pe_ne, pe_lt, pe_le, pe_gt, pe_ge, pe_in, pe_notin, pe_bop, pe_ife, pe_list, pe_tup, pe_sub, pe_slice, pe_call, pe_bcall, pe_meth, pe_setd, pe_attr, pes_nil', pes_cons, pr_v, pr_t, bind_ok, bindA_ok, truth_ok, ofB_some, ofRes_ok, ofRes_exc, onL_some, onP_some, plains_nil, plains_cons, pall_and_nil, pall_or_nil, pall_and_cons, pall_or_cons, pbop_one, pbop_and, pbop_or, Option.map_some, List.map_cons, List.map_nil, List.getElem?_cons_zero, List.getElem?_cons_succ, dS_av, dr_none, dr_bool, dr_int, dr_str, dr_type, dr_range, dr_tup, dr_lst, dr_set, List.length_cons, List.length_nil, Bool.not_true, Bool.not_false, Nat.reduceAdd, Nat.reduceLeDiff, if_true, resS]
      exact rfl
theorem refused_run {t : AV} {nm : Str} (hc : cal σ lo 0 [t, t] = .exc (.tm (saidC nm)) σ) (hz : nm.length ≤ 1000) : fnRes (pxs O cal true ⟨[some (.val t), some (.val (.str nm)), none], σ, lo, n0⟩ law_refused_p) = .ok (.av (.bool true)) σ := by
  unfold law_refused_p
  have a1 : O.bin .Add (.str (PySem.Str.ofString "'")) (.str nm) = .ok (.str (PySem.Str.ofString "'" ++ nm)) := by
    rw [o_bin hO]
    show (if (PySem.Str.ofString "'").length + nm.length ≤ 1048576 then Res.ok (.str (PySem.Str.ofString "'" ++ nm)) else .stuck) = _
    rw [if_pos (by have : (PySem.Str.ofString "'").length = 1 := by decide
                   omega)]
  have a2 : O.bin .Add (.str (PySem.Str.ofString "'" ++ nm)) (.str (PySem.Str.ofString "' object can't be concatenated")) = .ok (.str (saidC nm)) := by
    rw [o_bin hO]
    show (if (PySem.Str.ofString "'" ++ nm).length + (PySem.Str.ofString "' object can't be concatenated").length ≤ 1048576 then Res.ok (.str (PySem.Str.ofString "'" ++ nm ++ PySem.Str.ofString "' object can't be concatenated")) else .stuck) = _
    rw [if_pos]
    · rfl
    · rw [strLen_append]
      have e1 : (PySem.Str.ofString "'").length = 1 := by decide
      have e2 : (PySem.Str.ofString "' object can't be concatenated").length = 30 := by decide
      omega
  have ce : O.cmp .Eq (.str (saidC nm)) (.str (saidC nm)) = some true := by
    rw [o_cmp hO]
    show some (saidC nm == saidC nm) = _
    rw [beq_self_eq_true]
  refine fn_ret (pk_try ?_)
  have e1 : pxs O cal true ⟨[some (.val t), some (.val (.str nm)), none], σ, lo, n0⟩ (.cons (.expr (.call 0 (.cons (.name 0) (.cons (.name 0) .nil)))) .nil) = .exc (.tm (saidC nm)) ⟨[some (.val t), some (.val (.str nm)), none], σ, lo, n0⟩ := by
    rw [qxs_cons, qx_expr]
    simp only [pe_const, pe_name, slotV, pe_glob, pe_bin, pe_not, pe_neg, pe_is, pe_isnot, pe_eq, pe_ne, pe_lt, pe_le, pe_gt, pe_ge, pe_in, pe_notin, pe_bop, pe_ife, pe_list, pe_tup, pe_sub, pe_slice, pe_call, pe_bcall, pe_meth, pe_setd, pe_attr, pes_nil', pes_cons, pr_v, pr_t, bind_ok, bindA_ok, truth_ok, ofB_some, ofRes_ok, ofRes_exc, onL_some, onP_some, plains_nil, plains_cons, pall_and_nil, pall_or_nil, pall_and_cons, pall_or_cons, pbop_one, pbop_and, pbop_or, Option.map_some, List.map_cons, List.map_nil, List.getElem?_cons_zero, List.getElem?_cons_succ, dS_av, dr_none, dr_bool, dr_int, dr_str, dr_type, dr_range, dr_tup, dr_lst, dr_set, List.length_cons, List.length_nil, Bool.not_true, Bool.not_false, Nat.reduceAdd, Nat.reduceLeDiff, if_true, hc, resS]
  rw [e1]
  dsimp only
  rw [qh_asEq]
  simp only [pe_const, pe_name, slotV, pe_glob, pe_bin, pe_not, pe_neg, pe_is, pe_isnot, pe_eq, pe_ne, pe_lt, pe_le, pe_gt, pe_ge, pe_in, pe_notin, pe_bop, pe_ife, pe_list, pe_tup, pe_sub, pe_slice, pe_call, pe_bcall, pe_meth, pe_setd, pe_attr, pes_nil', pes_cons, pr_v, pr_t, bind_ok, bindA_ok, truth_ok, ofB_some, ofRes_ok, ofRes_exc, onL_some, onP_some, plains_nil, plains_cons, pall_and_nil, pall_or_nil, pall_and_cons, pall_or_cons, pbop_one, pbop_and, pbop_or, Option.map_some, List.map_cons, List.map_nil, List.getElem?_cons_zero, List.getElem?_cons_succ, dS_av, dr_none, dr_bool, dr_int, dr_str, dr_type, dr_range, dr_tup, dr_lst, dr_set, List.length_cons, List.length_nil, Bool.not_true, Bool.not_false, Nat.reduceAdd, Nat.reduceLeDiff, if_true, a1, a2, ce, Fs.set, List.set_cons_zero, List.set_cons_succ]
  exact rfl
/-- a row of a kind -/
theorem row_run {d : Kd} {xs : List Int} (hl : xs.length ≤ 1000) : fnRes (pxs O cal true ⟨[some (.val (.lst (xs.map .int))), some (.val (.int d.n))], σ, lo, n0⟩ law_row_p) = .ok (.av (wd d (xs.map d.key))) σ := by
  unfold law_row_p
  have tb := w_tb hO
  have ieq := w_ieq hO
  cases d with
  | l =>
    have e1 : ((Kd.l.n == 1) = false) := rfl
    have e2 : ((Kd.l.n == 2) = false) := rfl
    have e3 : ((Kd.l.n == 3) = false) := rfl
    have ex : xs.map (Kd.l.key) = xs := List.map_id' xs
    rw [ex]
    refine fn_ret (pk_skip (σ := σ) ?_ (pk_skip (σ := σ) ?_ (pk_skip (σ := σ) ?_ (pk_ret (v := .lst (xs.map .int)) (σ := σ) ?_ ends_ret))))
    · simp only [pe_const, pe_name, slotV, pe_glob, pe_bin, pe_not, pe_neg, pe_is, pe_isnot, pe_eq, pe_ne, pe_lt, pe_le, pe_gt, pe_ge, pe_in, pe_notin, pe_bop, pe_ife, pe_list, pe_tup, pe_sub, pe_slice, pe_call, pe_bcall, pe_meth, pe_setd, pe_attr, pes_nil', pes_cons, pr_v, pr_t, bind_ok, bindA_ok, truth_ok, ofB_some, ofRes_ok, ofRes_exc, onL_some, onP_some, plains_nil, plains_cons, pall_and_nil, pall_or_nil, pall_and_cons, pall_or_cons, pbop_one, pbop_and, pbop_or, Option.map_some, List.map_cons, List.map_nil, List.getElem?_cons_zero, List.getElem?_cons_succ, dS_av, dr_none, dr_bool, dr_int, dr_str, dr_type, dr_range, dr_tup, dr_lst, dr_set, List.length_cons, List.length_nil, Bool.not_true, Bool.not_false, Nat.reduceAdd, Nat.reduceLeDiff, if_true, ieq, e1, tb]
    · simp only [pe_const, pe_name, slotV, pe_glob, pe_bin, pe_not, pe_neg, pe_is, pe_isnot, pe_eq, pe_ne, pe_lt, pe_le, pe_gt, pe_ge, pe_in, pe_notin, pe_bop, pe_ife, pe_list, pe_tup, pe_sub, pe_slice, pe_call, pe_bcall, pe_meth, pe_setd, pe_attr, pes_nil', pes_cons, pr_v, pr_t, bind_ok, bindA_ok, truth_ok, ofB_some, ofRes_ok, ofRes_exc, onL_some, onP_some, plains_nil, plains_cons, pall_and_nil, pall_or_nil, pall_and_cons, pall_or_cons, pbop_one, pbop_and, pbop_or, Option.map_some, List.map_cons, List.map_nil, List.getElem?_cons_zero, List.getElem?_cons_succ, dS_av, dr_none, dr_bool, dr_int, dr_str, dr_type, dr_range, dr_tup, dr_lst, dr_set, List.length_cons, List.length_nil, Bool.not_true, Bool.not_false, Nat.reduceAdd, Nat.reduceLeDiff, if_true, ieq, e2, tb]
    · simp only [pe_const, pe_name, slotV, pe_glob, pe_bin, pe_not, pe_neg, pe_is, pe_isnot, pe_eq, pe_ne, pe_lt, pe_le, pe_gt, pe_ge, pe_in, pe_notin, pe_bop, pe_ife, pe_list, pe_tup, pe_sub, pe_slice, pe_call, pe_bcall, pe_meth, pe_setd, pe_attr, pes_nil', pes_cons, pr_v, pr_t, bind_ok, bindA_ok, truth_ok, ofB_some, ofRes_ok, ofRes_exc, onL_some, onP_some, plains_nil, plains_cons, pall_and_nil, pall_or_nil, pall_and_cons, pall_or_cons, pbop_one, pbop_and, pbop_or, Option.map_some, List.map_cons, List.map_nil, List.getElem?_cons_zero, List.getElem?_cons_succ, dS_av, dr_none, dr_bool, dr_int, dr_str, dr_type, dr_range, dr_tup, dr_lst, dr_set, List.length_cons, List.length_nil, Bool.not_true, Bool.not_false, Nat.reduceAdd, Nat.reduceLeDiff, if_true, ieq, e3, tb]
    · simp only [pe_const, pe_name, slotV, pe_glob, pe_bin, pe_not, pe_neg, pe_is, pe_isnot, pe_eq, pe_ne, pe_lt, pe_le, pe_gt, pe_ge, pe_in, pe_notin, pe_bop, pe_ife, pe_list, pe_tup, pe_sub, pe_slice, pe_call, pe_bcall, pe_meth, pe_setd, pe_attr, pes_nil', pes_cons, pr_v, pr_t, bind_ok, bindA_ok, truth_ok, ofB_some, ofRes_ok, ofRes_exc, onL_some, onP_some, plains_nil, plains_cons, pall_and_nil, pall_or_nil, pall_and_cons, pall_or_cons, pbop_one, pbop_and, pbop_or, Option.map_some, List.map_cons, List.map_nil, List.getElem?_cons_zero, List.getElem?_cons_succ, dS_av, dr_none, dr_bool, dr_int, dr_str, dr_type, dr_range, dr_tup, dr_lst, dr_set, List.length_cons, List.length_nil, Bool.not_true, Bool.not_false, Nat.reduceAdd, Nat.reduceLeDiff, if_true]
  | t =>
    have e1 : ((Kd.t.n == 1) = true) := rfl
    have ex : xs.map (Kd.t.key) = xs := List.map_id' xs
    rw [ex]
    have ht : O.bcall .tuple [.lst (xs.map .int)] = .ok (.tup (xs.map .int)) := by rw [o_bcall hO]; rfl
    refine fn_ret (pk_if_t (σ := σ) ?_ (pk_ret (v := .tup (xs.map .int)) (σ := σ) ?_ ends_ret))
    · simp only [pe_const, pe_name, slotV, pe_glob, pe_bin, pe_not, pe_neg, pe_is, pe_isnot, pe_eq, pe_ne, pe_lt, pe_le, pe_gt, pe_ge, pe_in, pe_notin, pe_bop, pe_ife, pe_list, pe_tup, pe_sub, pe_slice, pe_call, pe_bcall, pe_meth, pe_setd, pe_attr, pes_nil', pes_cons, pr_v, pr_t, bind_ok, bindA_ok, truth_ok, ofB_some, ofRes_ok, ofRes_exc, onL_some, onP_some, plains_nil, plains_cons, pall_and_nil, pall_or_nil, pall_and_cons, pall_or_cons, pbop_one, pbop_and, pbop_or, Option.map_some, List.map_cons, List.map_nil, List.getElem?_cons_zero, List.getElem?_cons_succ, dS_av, dr_none, dr_bool, dr_int, dr_str, dr_type, dr_range, dr_tup, dr_lst, dr_set, List.length_cons, List.length_nil, Bool.not_true, Bool.not_false, Nat.reduceAdd, Nat.reduceLeDiff, if_true, ieq, e1, tb]
    · simp only [pe_const, pe_name, slotV, pe_glob, pe_bin, pe_not, pe_neg, pe_is, pe_isnot, pe_eq, pe_ne, pe_lt, pe_le, pe_gt, pe_ge, pe_in, pe_notin, pe_bop, pe_ife, pe_list, pe_tup, pe_sub, pe_slice, pe_call, pe_bcall, pe_meth, pe_setd, pe_attr, pes_nil', pes_cons, pr_v, pr_t, bind_ok, bindA_ok, truth_ok, ofB_some, ofRes_ok, ofRes_exc, onL_some, onP_some, plains_nil, plains_cons, pall_and_nil, pall_or_nil, pall_and_cons, pall_or_cons, pbop_one, pbop_and, pbop_or, Option.map_some, List.map_cons, List.map_nil, List.getElem?_cons_zero, List.getElem?_cons_succ, dS_av, dr_none, dr_bool, dr_int, dr_str, dr_type, dr_range, dr_tup, dr_lst, dr_set, List.length_cons, List.length_nil, Bool.not_true, Bool.not_false, Nat.reduceAdd, Nat.reduceLeDiff, if_true, ht]
  | s =>
    have e1 : ((Kd.s.n == 1) = false) := rfl
    have e2 : ((Kd.s.n == 2) = true) := rfl
    have hchr : ∀ x : Int, O.bcall .chr [.int (97 + x % 26)] = .ok (.str (sg (x % 26))) := fun x => by
      rw [o_bcall hO]
      show (if 0 ≤ 97 + x % 26 ∧ 97 + x % 26 ≤ 1114111 then Res.ok (.str ⟨#[(97 + x % 26).toNat]⟩) else .stuck) = _
      rw [if_pos (by omega)]; rfl
    have hm := w_mod hO
    have ha := w_iadd hO
    have hcomp : (pe O cal true ⟨[some (.val (.lst (xs.map .int))), some (.val (.int Kd.s.n))], σ, lo, n0⟩ (.comp [] (.bcall .chr (.cons (.bin .Add (.const (.int 97)) (.bin .Mod (.name 2) (.const (.int 26)))) .nil)) (.name 0) .nil)).v = .ok (.av (.lst ((xs.map Kd.s.key).map fun x => .str (sg x)))) σ := by
      rw [pe_comp (a := .av (.lst (xs.map .int))) (σ₁ := σ) (l := xs.map .int) (ys := xs.map fun x => .str (sg (Kd.s.key x)))]
      · rw [List.map_map]; rfl
      · simp only [pe_const, pe_name, slotV, pe_glob, pe_bin, pe_not, pe_neg, pe_is, pe_isnot, pe_eq, pe_ne, pe_lt, pe_le, pe_gt, pe_ge, pe_in, pe_notin, pe_bop, pe_ife, pe_list, pe_tup, pe_sub, pe_slice, pe_call, pe_bcall, pe_meth, pe_setd, pe_attr, pes_nil', pes_cons, pr_v, pr_t, bind_ok, bindA_ok, truth_ok, ofB_some, ofRes_ok, ofRes_exc, onL_some, onP_some, plains_nil, plains_cons, pall_and_nil, pall_or_nil, pall_and_cons, pall_or_cons, pbop_one, pbop_and, pbop_or, Option.map_some, List.map_cons, List.map_nil, List.getElem?_cons_zero, List.getElem?_cons_succ, dS_av, dr_none, dr_bool, dr_int, dr_str, dr_type, dr_range, dr_tup, dr_lst, dr_set, List.length_cons, List.length_nil, Bool.not_true, Bool.not_false, Nat.reduceAdd, Nat.reduceLeDiff, if_true]
      · rw [o_items hO]; rfl
      · refine mapF_map fun x _ => ?_
        rw [pall_and_nil]
        refine compF_t (σ' := σ) ?_ rfl
        have hi : Fs.inner (Fs.at ⟨[some (.val (.lst (xs.map .int))), some (.val (.int Kd.s.n))], σ, lo, n0⟩ σ) [] (.int x) = ⟨[none, none, some (.val (.int x))], σ, σ.length, n0⟩ := by simp [Fs.inner, mask]
        rw [hi]
        simp only [pe_const, pe_name, slotV, pe_glob, pe_bin, pe_not, pe_neg, pe_is, pe_isnot, pe_eq, pe_ne, pe_lt, pe_le, pe_gt, pe_ge, pe_in, pe_notin, pe_bop, pe_ife, pe_list, pe_tup, pe_sub, pe_slice, pe_call, pe_bcall, pe_meth, pe_setd, pe_attr, pes_nil', pes_cons, pr_v, pr_t, bind_ok, bindA_ok, truth_ok, ofB_some, ofRes_ok, ofRes_exc, onL_some, onP_some, plains_nil, plains_cons, pall_and_nil, pall_or_nil, pall_and_cons, pall_or_cons, pbop_one, pbop_and, pbop_or, Option.map_some, List.map_cons, List.map_nil, List.getElem?_cons_zero, List.getElem?_cons_succ, dS_av, dr_none, dr_bool, dr_int, dr_str, dr_type, dr_range, dr_tup, dr_lst, dr_set, List.length_cons, List.length_nil, Bool.not_true, Bool.not_false, Nat.reduceAdd, Nat.reduceLeDiff, if_true, hm x 26 (by omega), ha, hchr]
        rfl
    have hj : O.meth .join (.str (PySem.Str.ofString "")) [.lst ((xs.map Kd.s.key).map fun x => .str (sg x))] = .ok (.str (stx (xs.map Kd.s.key))) := by
      rw [o_meth hO]
      exact join_word _ (by rw [List.length_map]; exact hl)
    have hty : O.mty .join (.str (PySem.Str.ofString "")) = some "str" := by rw [o_mty hO]; rfl
    refine fn_ret (pk_skip (σ := σ) ?_ (pk_if_t (σ := σ) ?_ (pk_ret (v := .str (stx (xs.map Kd.s.key))) (σ := σ) ?_ ends_ret)))
    · simp only [pe_const, pe_name, slotV, pe_glob, pe_bin, pe_not, pe_neg, pe_is, pe_isnot, pe_eq, pe_ne, pe_lt, pe_le, pe_gt, pe_ge, pe_in, pe_notin, pe_bop, pe_ife, pe_list, pe_tup, pe_sub, pe_slice, pe_call, pe_bcall, pe_meth, pe_setd, pe_attr, pes_nil', pes_cons, pr_v, pr_t, bind_ok, bindA_ok, truth_ok, ofB_some, ofRes_ok, ofRes_exc, onL_some, onP_some, plains_nil, plains_cons, pall_and_nil, pall_or_nil, pall_and_cons, pall_or_cons, pbop_one, pbop_and, pbop_or, Option.map_some, List.map_cons, List.map_nil, List.getElem?_cons_zero, List.getElem?_cons_succ, dS_av, dr_none, dr_bool, dr_int, dr_str, dr_type, dr_range, dr_tup, dr_lst, dr_set, List.length_cons, List.length_nil, Bool.not_true, Bool.not_false, Nat.reduceAdd, Nat.reduceLeDiff, if_true, ieq, e1, tb]
    · simp only [pe_const, pe_name, slotV, pe_glob, pe_bin, pe_not, pe_neg, pe_is, pe_isnot, pe_eq, pe_ne, pe_lt, pe_le, pe_gt, pe_ge, pe_in, pe_notin, pe_bop, pe_ife, pe_list, pe_tup, pe_sub, pe_slice, pe_call, pe_bcall, pe_meth, pe_setd, pe_attr, pes_nil', pes_cons, pr_v, pr_t, bind_ok, bindA_ok, truth_ok, ofB_some, ofRes_ok, ofRes_exc, onL_some, onP_some, plains_nil, plains_cons, pall_and_nil, pall_or_nil, pall_and_cons, pall_or_cons, pbop_one, pbop_and, pbop_or, Option.map_some, List.map_cons, List.map_nil, List.getElem?_cons_zero, List.getElem?_cons_succ, dS_av, dr_none, dr_bool, dr_int, dr_str, dr_type, dr_range, dr_tup, dr_lst, dr_set, List.length_cons, List.length_nil, Bool.not_true, Bool.not_false, Nat.reduceAdd, Nat.reduceLeDiff, if_true, ieq, e2, tb]
    · rw [pe_meth, pr_v, pe_const, pr_v, bind_ok, pes_cons]
      simp only [Fs.at]
      rw [hcomp]
      simp only [pes_nil', onL_some, dS_av, dr_str, hty, if_true, List.map_cons, List.map_nil, dr_lst, hj, ofRes_ok]
  | b =>
    have e1 : ((Kd.b.n == 1) = false) := rfl
    have e2 : ((Kd.b.n == 2) = false) := rfl
    have e3 : ((Kd.b.n == 3) = true) := rfl
    have hm := w_mod hO
    have hcomp : (pe O cal true ⟨[some (.val (.lst (xs.map .int))), some (.val (.int Kd.b.n))], σ, lo, n0⟩ (.comp [] (.bin .Mod (.name 2) (.const (.int 256))) (.name 0) .nil)).v = .ok (.av (.lst ((xs.map Kd.b.key).map .int))) σ := by
      rw [pe_comp (a := .av (.lst (xs.map .int))) (σ₁ := σ) (l := xs.map .int) (ys := xs.map fun x => .int (Kd.b.key x))]
      · rw [List.map_map]; rfl
      · simp only [pe_const, pe_name, slotV, pe_glob, pe_bin, pe_not, pe_neg, pe_is, pe_isnot, pe_eq, pe_ne, pe_lt, pe_le, pe_gt, pe_ge, pe_in, pe_notin, pe_bop, pe_ife, pe_list, pe_tup, pe_sub, pe_slice, pe_call, pe_bcall, pe_meth, pe_setd, pe_attr, pes_nil', pes_cons, pr_v, pr_t, bind_ok, bindA_ok, truth_ok, ofB_some, ofRes_ok, ofRes_exc, onL_some, onP_some, plains_nil, plains_cons, pall_and_nil, pall_or_nil, pall_and_cons, pall_or_cons, pbop_one, pbop_and, pbop_or, Option.map_some, List.map_cons, List.map_nil, List.getElem?_cons_zero, List.getElem?_cons_succ, dS_av, dr_none, dr_bool, dr_int, dr_str, dr_type, dr_range, dr_tup, dr_lst, dr_set, List.length_cons, List.length_nil, Bool.not_true, Bool.not_false, Nat.reduceAdd, Nat.reduceLeDiff, if_true]
      · rw [o_items hO]; rfl
      · refine mapF_map fun x _ => ?_
        rw [pall_and_nil]
        refine compF_t (σ' := σ) ?_ rfl
        have hi : Fs.inner (Fs.at ⟨[some (.val (.lst (xs.map .int))), some (.val (.int Kd.b.n))], σ, lo, n0⟩ σ) [] (.int x) = ⟨[none, none, some (.val (.int x))], σ, σ.length, n0⟩ := by simp [Fs.inner, mask]
        rw [hi]
        simp only [pe_const, pe_name, slotV, pe_glob, pe_bin, pe_not, pe_neg, pe_is, pe_isnot, pe_eq, pe_ne, pe_lt, pe_le, pe_gt, pe_ge, pe_in, pe_notin, pe_bop, pe_ife, pe_list, pe_tup, pe_sub, pe_slice, pe_call, pe_bcall, pe_meth, pe_setd, pe_attr, pes_nil', pes_cons, pr_v, pr_t, bind_ok, bindA_ok, truth_ok, ofB_some, ofRes_ok, ofRes_exc, onL_some, onP_some, plains_nil, plains_cons, pall_and_nil, pall_or_nil, pall_and_cons, pall_or_cons, pbop_one, pbop_and, pbop_or, Option.map_some, List.map_cons, List.map_nil, List.getElem?_cons_zero, List.getElem?_cons_succ, dS_av, dr_none, dr_bool, dr_int, dr_str, dr_type, dr_range, dr_tup, dr_lst, dr_set, List.length_cons, List.length_nil, Bool.not_true, Bool.not_false, Nat.reduceAdd, Nat.reduceLeDiff, if_true, hm x 256 (by omega)]
        rfl
    have hb : O.bcall .bytes [.lst ((xs.map Kd.b.key).map .int)] = .ok (.bytes (byteArr (xs.map Kd.b.key))) := by
      rw [o_bcall hO]
      refine bytes_word _ (fun x hx => ?_) (by rw [List.length_map]; exact hl)
      obtain ⟨y, _, rfl⟩ := List.mem_map.mp hx
      exact Kd.key_ok .b y
    refine fn_ret (pk_skip (σ := σ) ?_ (pk_skip (σ := σ) ?_ (pk_if_t (σ := σ) ?_ (pk_ret (v := .bytes (byteArr (xs.map Kd.b.key))) (σ := σ) ?_ ends_ret))))
    · simp only [pe_const, pe_name, slotV, pe_glob, pe_bin, pe_not, pe_neg, pe_is, pe_isnot, pe_eq, pe_ne, pe_lt, pe_le, pe_gt, pe_ge, pe_in, pe_notin, pe_bop, pe_ife, pe_list, pe_tup, pe_sub, pe_slice, pe_call, pe_bcall, pe_meth, pe_setd, pe_attr, pes_nil', pes_cons, pr_v, pr_t, bind_ok, bindA_ok, truth_ok, ofB_some, ofRes_ok, ofRes_exc, onL_some, onP_some, plains_nil, plains_cons, pall_and_nil, pall_or_nil, pall_and_cons, pall_or_cons, pbop_one, pbop_and, pbop_or, Option.map_some, List.map_cons, List.map_nil, List.getElem?_cons_zero, List.getElem?_cons_succ, dS_av, dr_none, dr_bool, dr_int, dr_str, dr_type, dr_range, dr_tup, dr_lst, dr_set, List.length_cons, List.length_nil, Bool.not_true, Bool.not_false, Nat.reduceAdd, Nat.reduceLeDiff, if_true, ieq, e1, tb]
    · simp only [pe_const, pe_name, slotV, pe_glob, pe_bin, pe_not, pe_neg, pe_is, pe_isnot, pe_eq, pe_ne, pe_lt, pe_le, pe_gt, pe_ge, pe_in, pe_notin, pe_bop, pe_ife, pe_list, pe_tup, pe_sub, pe_slice, pe_call, pe_bcall, pe_meth, pe_setd, pe_attr, pes_nil', pes_cons, pr_v, pr_t, bind_ok, bindA_ok, truth_ok, ofB_some, ofRes_ok, ofRes_exc, onL_some, onP_some, plains_nil, plains_cons, pall_and_nil, pall_or_nil, pall_and_cons, pall_or_cons, pbop_one, pbop_and, pbop_or, Option.map_some, List.map_cons, List.map_nil, List.getElem?_cons_zero, List.getElem?_cons_succ, dS_av, dr_none, dr_bool, dr_int, dr_str, dr_type, dr_range, dr_tup, dr_lst, dr_set, List.length_cons, List.length_nil, Bool.not_true, Bool.not_false, Nat.reduceAdd, Nat.reduceLeDiff, if_true, ieq, e2, tb]
    · simp only [pe_const, pe_name, slotV, pe_glob, pe_bin, pe_not, pe_neg, pe_is, pe_isnot, pe_eq, pe_ne, pe_lt, pe_le, pe_gt, pe_ge, pe_in, pe_notin, pe_bop, pe_ife, pe_list, pe_tup, pe_sub, pe_slice, pe_call, pe_bcall, pe_meth, pe_setd, pe_attr, pes_nil', pes_cons, pr_v, pr_t, bind_ok, bindA_ok, truth_ok, ofB_some, ofRes_ok, ofRes_exc, onL_some, onP_some, plains_nil, plains_cons, pall_and_nil, pall_or_nil, pall_and_cons, pall_or_cons, pbop_one, pbop_and, pbop_or, Option.map_some, List.map_cons, List.map_nil, List.getElem?_cons_zero, List.getElem?_cons_succ, dS_av, dr_none, dr_bool, dr_int, dr_str, dr_type, dr_range, dr_tup, dr_lst, dr_set, List.length_cons, List.length_nil, Bool.not_true, Bool.not_false, Nat.reduceAdd, Nat.reduceLeDiff, if_true, ieq, e3, tb]
    · rw [pe_bcall, pr_v, pes_cons, hcomp]
      simp only [pes_nil', onL_some, dS_av, List.map_cons, List.map_nil, dr_lst, hb, ofRes_ok]
end
end Mine
end
section
open PySem PySem.W PyProof.Rows
namespace Mine
set_option maxRecDepth 100000
set_option linter.unusedSimpArgs false
set_option linter.unusedVariables false
set_option maxHeartbeats 1000000
noncomputable def ai (r : List Nat) : List AV := r.map fun (i : Nat) => AV.int (i : Int)
theorem emp_eq (l : List AV) : opCmp .Eq (.lst l) (.lst []) = some l.isEmpty := by
  cases l <;> rfl
theorem emp_ne (l : List AV) : opCmp .NotEq (.lst l) (.lst []) = some (!l.isEmpty) := by
  cases l <;> rfl
theorem range_less (n : Nat) (h : n ≤ 1000) : itemsV (.range 0 ((n : Int) - 1) 1) = some (ai (List.range (n - 1))) := by
  cases n with
  | zero => rfl
  | succ n =>
    rw [show ((n + 1 : Nat) : Int) - 1 = (n : Int) from by omega]
    exact range_items n (by omega)
theorem range_one (n : Nat) (h : n ≤ 1000) {b : Int} (hb : b = n + 1) : itemsV (.range 1 b 1) = some ((List.range n).map fun (i : Nat) => .int (1 + i)) := by
  subst hb
  rw [show (n : Int) + 1 = 1 + n from by omega]
  exact range2_items 1 n h (by omega) (by omega)
theorem l_add (a b : List AV) (h : a.length + b.length ≤ 1000) : opBin .Add (.lst a) (.lst b) = .ok (.lst (a ++ b)) := by
  show (if a.length + b.length ≤ 1048576 then Res.ok (.lst (a ++ b)) else .stuck) = _
  rw [if_pos (by omega)]
/-- where a word is less than the next -/
noncomputable def risB (ws : List (List Int)) (j : Nat) : Bool := lx (ws.getD j []) (ws.getD (j + 1) [])
noncomputable def ris (ws : List (List Int)) : List Nat := (List.range (ws.length - 1)).filter (risB ws)
theorem ris_mem {ws : List (List Int)} {k : Nat} (h : k ∈ ris ws) : ∃ a b, ws[k]? = some a ∧ ws[k + 1]? = some b ∧ lx a b = true := by
  obtain ⟨h1, h2⟩ := List.mem_filter.mp h
  rw [List.mem_range] at h1
  have l1 : k < ws.length := by omega
  have l2 : k + 1 < ws.length := by omega
  refine ⟨ws[k], ws[k + 1], List.getElem?_eq_getElem l1, List.getElem?_eq_getElem l2, ?_⟩
  unfold risB at h2
  rw [List.getD_eq_getElem?_getD, List.getD_eq_getElem?_getD, List.getElem?_eq_getElem l1, List.getElem?_eq_getElem l2] at h2
  exact h2
theorem ris_none {ws : List (List Int)} (h : ris ws = []) : ws.Pairwise fun a b => lx a b = false := by
  refine pw_of_adj fun k a b h1 h2 => ?_
  have l2 : k + 1 < ws.length := (List.getElem?_eq_some_iff.mp h2).1
  have hn : ¬ k ∈ ris ws := by rw [h]; simp
  cases hl : lx a b with
  | false => rfl
  | true =>
    refine absurd (List.mem_filter.mpr ⟨List.mem_range.mpr (by omega), ?_⟩) hn
    unfold risB
    rw [List.getD_eq_getElem?_getD, List.getD_eq_getElem?_getD, h1, h2]
    exact hl
theorem flat_mem {ws : List (List Int)} {w : List Int} (h : w ∈ ws) : w.length ≤ ws.flatten.length ∧ ∀ {P : Int → Prop}, (∀ x ∈ ws.flatten, P x) → ∀ x ∈ w, P x := by
  refine ⟨?_, fun hp x hx => hp x (List.mem_flatten.mpr ⟨w, h, hx⟩)⟩
  induction ws with
  | nil => simp at h
  | cons a ws ih =>
    rw [List.flatten_cons, List.length_append]
    rcases List.mem_cons.mp h with rfl | h
    · omega
    · have := ih h; omega
theorem idx_wd {d : Kd} {ws : List (List Int)} {k : Nat} {a : List Int} (h : ws[k]? = some a) : opIdx (.lst (ws.map (wd d))) (.int (k : Int)) = .ok (wd d a) := by
  rw [oi_l]
  exact idxL_get (by rw [List.getElem?_map, h]; rfl)
theorem idx_ends {r : List Nat} (hr : r ≠ []) {which : Int} (hw : which = 0 ∨ which = -1) : ∃ k ∈ r, opIdx (.lst (ai r)) (.int which) = .ok (.int (k : Int)) := by
  have hp : 0 < r.length := List.length_pos_iff.mpr hr
  rw [oi_l]
  rcases hw with rfl | rfl
  · refine ⟨r[0], List.getElem_mem _, ?_⟩
    unfold idxL
    rw [if_pos (by omega)]
    have : (ai r)[(0 : Int).toNat]? = some (.int (r[0] : Int)) := by
      show (ai r)[0]? = _
      unfold ai
      rw [List.getElem?_map, List.getElem?_eq_getElem hp]; rfl
    rw [this]
  · refine ⟨r[r.length - 1], List.getElem_mem _, ?_⟩
    have hl : (ai r).length = r.length := by simp [ai]
    unfold idxL
    rw [if_neg (by omega), if_pos (by rw [hl]; omega)]
    have e : (-1 + ((ai r).length : Int)).toNat = r.length - 1 := by rw [hl]; omega
    have : (ai r)[r.length - 1]? = some (.int (r[r.length - 1] : Int)) := by
      unfold ai
      rw [List.getElem?_map, List.getElem?_eq_getElem (by omega)]; rfl
    rw [e, this]
section
variable {O : OpsF} {ld : Bool} (hO : O = ops ld) {cal : Cal} {σ : Store} {lo n0 : Nat} {d : Kd}
/-- concat of two words -/
noncomputable def CatC (cal : Cal) (σ : Store) (lo : Nat) (d : Kd) : Prop := ∀ x y, x.length + y.length ≤ 1000 → cal σ lo 0 [wd d x, wd d y] = .ok (.av (wd d (x ++ y))) σ
noncomputable abbrev jS (d : Kd) (ws : List (List Int)) (which : Int) (e2 e3 : Option Ent) (σ : Store) (lo n0 : Nat) : Fs := ⟨[some (.val (.lst (ws.map (wd d)))), some (.val (.int which)), e2, e3], σ, lo, n0⟩
noncomputable def jI (d : Kd) (which : Int) (row : List Int) (σ : Store) (lo n0 : Nat) (m : Nat) (st : Fs) : Prop := ∃ (ws : List (List Int)) (r : List Nat) (e3 : Option Ent), st = jS d ws which (some (.val (.lst (ai r)))) e3 σ lo n0 ∧ (∀ w ∈ ws, Ly w) ∧ ws.flatten = row ∧ ws.length ≤ 64 ∧ (r ≠ [] ∧ m = ws.length + 1 ∨ r = [] ∧ m = 0 ∧ Cfl ws)
noncomputable def jK (d : Kd) (row : List Int) (σ : Store) (fr : FR) : Prop := ∃ vs, Cfl vs ∧ vs.flatten = row ∧ fnRes fr = .ok (.av (.lst (vs.map (wd d)))) σ
include hO
theorem w_ris {ws : List (List Int)} {which : Int} {e2 e3 : Option Ent} (hl : ws.length ≤ 64) (hd : Lts d ws.flatten) :
    (pe O cal true (jS d ws which e2 e3 σ lo n0) (.comp [0] (.name 4) (.bcall .range (.cons (.bin .Sub (.bcall .len (.cons (.name 0) .nil)) (.const (.int 1))) .nil)) (.cons (.cmp .Lt (.sub (.name 0) (.name 4)) (.sub (.name 0) (.bin .Add (.name 4) (.const (.int 1))))) .nil))).v = .ok (.av (.lst (ai (ris ws)))) σ := by
  have tb := w_tb hO
  have isub := w_isub hO
  have iadd := w_iadd hO
  have bl : O.bcall .len [.lst (ws.map (wd d))] = .ok (.int (ws.length : Nat)) := by
    rw [o_bcall hO, cb_len, List.length_map]
  have br : ∀ n : Int, O.bcall .range [.int n] = .ok (.range 0 n 1) := fun _ => by rw [o_bcall hO]; rfl
  rw [pe_comp (a := .av (.range 0 ((ws.length : Int) - 1) 1)) (σ₁ := σ) (l := ai (List.range (ws.length - 1))) (ys := ai (ris ws))]
  · rfl
  · simp only [pe_const, pe_name, slotV, pe_glob, pe_bin, pe_not, pe_neg, pe_is, pe_isnot, pe_eq, pe_ne, pe_lt, pe_le, pe_gt, pe_ge, pe_in, pe_notin, pe_bop, pe_ife, pe_list, pe_tup, pe_sub, pe_slice, pe_call, pe_bcall, pe_meth, pe_setd, pe_attr, pes_nil', pes_cons, pr_v, pr_t, bind_ok, bindA_ok, truth_ok, ofB_some, ofRes_ok, ofRes_exc, onL_some, onP_some, plains_nil, plains_cons, pall_and_nil, pall_or_nil, pall_and_cons, pall_or_cons, pbop_one, pbop_and, pbop_or, Option.map_some, List.map_cons, List.map_nil, List.getElem?_cons_zero, List.getElem?_cons_succ, dS_av, dr_none, dr_bool, dr_int, dr_str, dr_type, dr_range, dr_tup, dr_lst, dr_set, List.length_cons, List.length_nil, Bool.not_true, Bool.not_false, Nat.reduceAdd, Nat.reduceLeDiff, if_true, bl, isub, br]
  · rw [o_items hO]; exact range_less _ (by omega)
  · unfold ris ai
    refine mapF_filter fun j hj => ?_
    rw [List.mem_range] at hj
    have l1 : j < ws.length := by omega
    have l2 : j + 1 < ws.length := by omega
    have g1 := List.getElem?_eq_getElem l1
    have g2 := List.getElem?_eq_getElem l2
    have hi : Fs.inner (Fs.at (jS d ws which e2 e3 σ lo n0) σ) [0] (.int (j : Int)) = ⟨[some (.val (.lst (ws.map (wd d)))), none, none, none, some (.val (.int (j : Int)))], σ, σ.length, n0⟩ := by simp [Fs.inner, mask]
    rw [hi]
    have x1 : O.idx (.lst (ws.map (wd d))) (.int (j : Int)) = .ok (wd d ws[j]) := by rw [o_idx hO]; exact idx_wd g1
    have x2 : O.idx (.lst (ws.map (wd d))) (.int ((j : Int) + 1)) = .ok (wd d ws[j + 1]) := by rw [o_idx hO]; exact idx_wd (k := j + 1) g2
    have d1 := wd_dr d ws[j] σ
    have d2 := wd_dr d ws[j + 1] σ
    have hlt : O.cmp .Lt (wd d ws[j]) (wd d ws[j + 1]) = some (risB ws j) := by
      rw [o_cmp hO]
      refine (wd_lt ((flat_mem (List.getElem_mem l1)).2 hd) ((flat_mem (List.getElem_mem l2)).2 hd)).trans ?_
      unfold risB
      rw [List.getD_eq_getElem?_getD, List.getD_eq_getElem?_getD, g1, g2]; rfl
    cases hb : risB ws j with
    | true =>
      rw [hb] at hlt
      have e : pall O cal true ⟨[some (.val (.lst (ws.map (wd d)))), none, none, none, some (.val (.int (j : Int)))], σ, σ.length, n0⟩ .And (.cons (.cmp .Lt (.sub (.name 0) (.name 4)) (.sub (.name 0) (.bin .Add (.name 4) (.const (.int 1))))) .nil) = some (true, σ) := by
        simp only [pe_const, pe_name, slotV, pe_glob, pe_bin, pe_not, pe_neg, pe_is, pe_isnot, pe_eq, pe_ne, pe_lt, pe_le, pe_gt, pe_ge, pe_in, pe_notin, pe_bop, pe_ife, pe_list, pe_tup, pe_sub, pe_slice, pe_call, pe_bcall, pe_meth, pe_setd, pe_attr, pes_nil', pes_cons, pr_v, pr_t, bind_ok, bindA_ok, truth_ok, ofB_some, ofRes_ok, ofRes_exc, onL_some, onP_some, plains_nil, plains_cons, pall_and_nil, pall_or_nil, pall_and_cons, pall_or_cons, pbop_one, pbop_and, pbop_or, Option.map_some, List.map_cons, List.map_nil, List.getElem?_cons_zero, List.getElem?_cons_succ, dS_av, dr_none, dr_bool, dr_int, dr_str, dr_type, dr_range, dr_tup, dr_lst, dr_set, List.length_cons, List.length_nil, Bool.not_true, Bool.not_false, Nat.reduceAdd, Nat.reduceLeDiff, if_true, x1, x2, d1, d2, iadd, hlt, tb]
      rw [e]
      simp only [if_true]
      refine compF_t (σ' := σ) ?_ rfl
      simp only [pe_const, pe_name, slotV, pe_glob, pe_bin, pe_not, pe_neg, pe_is, pe_isnot, pe_eq, pe_ne, pe_lt, pe_le, pe_gt, pe_ge, pe_in, pe_notin, pe_bop, pe_ife, pe_list, pe_tup, pe_sub, pe_slice, pe_call, pe_bcall, pe_meth, pe_setd, pe_attr, pes_nil', pes_cons, pr_v, pr_t, bind_ok, bindA_ok, truth_ok, ofB_some, ofRes_ok, ofRes_exc, onL_some, onP_some, plains_nil, plains_cons, pall_and_nil, pall_or_nil, pall_and_cons, pall_or_cons, pbop_one, pbop_and, pbop_or, Option.map_some, List.map_cons, List.map_nil, List.getElem?_cons_zero, List.getElem?_cons_succ, dS_av, dr_none, dr_bool, dr_int, dr_str, dr_type, dr_range, dr_tup, dr_lst, dr_set, List.length_cons, List.length_nil, Bool.not_true, Bool.not_false, Nat.reduceAdd, Nat.reduceLeDiff, if_true]
    | false =>
      rw [hb] at hlt
      have e : pall O cal true ⟨[some (.val (.lst (ws.map (wd d)))), none, none, none, some (.val (.int (j : Int)))], σ, σ.length, n0⟩ .And (.cons (.cmp .Lt (.sub (.name 0) (.name 4)) (.sub (.name 0) (.bin .Add (.name 4) (.const (.int 1))))) .nil) = some (false, σ) := by
        simp only [pe_const, pe_name, slotV, pe_glob, pe_bin, pe_not, pe_neg, pe_is, pe_isnot, pe_eq, pe_ne, pe_lt, pe_le, pe_gt, pe_ge, pe_in, pe_notin, pe_bop, pe_ife, pe_list, pe_tup, pe_sub, pe_slice, pe_call, pe_bcall, pe_meth, pe_setd, pe_attr, pes_nil', pes_cons, pr_v, pr_t, bind_ok, bindA_ok, truth_ok, ofB_some, ofRes_ok, ofRes_exc, onL_some, onP_some, plains_nil, plains_cons, pall_and_nil, pall_or_nil, pall_and_cons, pall_or_cons, pbop_one, pbop_and, pbop_or, Option.map_some, List.map_cons, List.map_nil, List.getElem?_cons_zero, List.getElem?_cons_succ, dS_av, dr_none, dr_bool, dr_int, dr_str, dr_type, dr_range, dr_tup, dr_lst, dr_set, List.length_cons, List.length_nil, Bool.not_true, Bool.not_false, Nat.reduceAdd, Nat.reduceLeDiff, if_true, x1, x2, d1, d2, iadd, hlt, tb]
      rw [e]
      rfl
theorem joined_run (hc : CatC cal σ lo d) {ws : List (List Int)} (hl : ws.length ≤ 64) (hf : ws.flatten.length ≤ 64) (hly : ∀ w ∈ ws, Ly w) (hd : Lts d ws.flatten) {which : Int} (hw : which = 0 ∨ which = -1) :
    ∃ vs, Cfl vs ∧ vs.flatten = ws.flatten ∧ fnRes (pxs O cal true (jS d ws which none none σ lo n0) law_joined_p) = .ok (.av (.lst (vs.map (wd d)))) σ := by
  generalize hrow : ws.flatten = row at hf hd
  have go : jK d row σ (pxs O cal true (jS d ws which none none σ lo n0) law_joined_p) := by
    unfold law_joined_p
    have tb := w_tb hO
    have iadd := w_iadd hO
    refine pk_assign (v := .lst (ai [0])) (σ := σ) ?_ ?_
    · simp only [pe_const, pe_name, slotV, pe_glob, pe_bin, pe_not, pe_neg, pe_is, pe_isnot, pe_eq, pe_ne, pe_lt, pe_le, pe_gt, pe_ge, pe_in, pe_notin, pe_bop, pe_ife, pe_list, pe_tup, pe_sub, pe_slice, pe_call, pe_bcall, pe_meth, pe_setd, pe_attr, pes_nil', pes_cons, pr_v, pr_t, bind_ok, bindA_ok, truth_ok, ofB_some, ofRes_ok, ofRes_exc, onL_some, onP_some, plains_nil, plains_cons, pall_and_nil, pall_or_nil, pall_and_cons, pall_or_cons, pbop_one, pbop_and, pbop_or, Option.map_some, List.map_cons, List.map_nil, List.getElem?_cons_zero, List.getElem?_cons_succ, dS_av, dr_none, dr_bool, dr_int, dr_str, dr_type, dr_range, dr_tup, dr_lst, dr_set, List.length_cons, List.length_nil, Bool.not_true, Bool.not_false, Nat.reduceAdd, Nat.reduceLeDiff, if_true]
      rfl
    dsimp only [Fs.at, Fs.set, List.set_cons_zero, List.set_cons_succ]
    have hne : ∀ l : List AV, O.cmp .NotEq (.lst l) (.lst []) = some (!l.isEmpty) := fun l => by rw [o_cmp hO]; exact emp_ne l
    refine pk_while (n := 100) (m := ws.length + 1) (jI d which row σ lo n0) (by omega) ⟨ws, [0], none, rfl, hly, hrow, hl, .inl ⟨by simp, rfl⟩⟩ ?_
    rintro m st ⟨us, r, e3, rfl, hly, hrow, hl, hr⟩
    rcases hr with ⟨hr, rfl⟩ | ⟨rfl, rfl, hcf⟩
    · refine .inr ⟨σ, ?_, ?_⟩
      · have he : (ai r).isEmpty = false := by cases r with | nil => exact absurd rfl hr | cons _ _ => rfl
        have h1 := hne (ai r)
        rw [he] at h1
        simp only [pe_const, pe_name, slotV, pe_glob, pe_bin, pe_not, pe_neg, pe_is, pe_isnot, pe_eq, pe_ne, pe_lt, pe_le, pe_gt, pe_ge, pe_in, pe_notin, pe_bop, pe_ife, pe_list, pe_tup, pe_sub, pe_slice, pe_call, pe_bcall, pe_meth, pe_setd, pe_attr, pes_nil', pes_cons, pr_v, pr_t, bind_ok, bindA_ok, truth_ok, ofB_some, ofRes_ok, ofRes_exc, onL_some, onP_some, plains_nil, plains_cons, pall_and_nil, pall_or_nil, pall_and_cons, pall_or_cons, pbop_one, pbop_and, pbop_or, Option.map_some, List.map_cons, List.map_nil, List.getElem?_cons_zero, List.getElem?_cons_succ, dS_av, dr_none, dr_bool, dr_int, dr_str, dr_type, dr_range, dr_tup, dr_lst, dr_set, List.length_cons, List.length_nil, Bool.not_true, Bool.not_false, Nat.reduceAdd, Nat.reduceLeDiff, if_true, h1, tb]
      · dsimp only [Fs.at, Fs.set, List.set_cons_zero, List.set_cons_succ]
        unfold law_joined_b1
        have hris := w_ris (O := O) hO (cal := cal) (σ := σ) (lo := lo) (n0 := n0) (d := d) (ws := us) (which := which) (e2 := some (.val (.lst (ai r)))) (e3 := e3) hl (by rw [hrow]; exact hd)
        refine pk_assign (v := .lst (ai (ris us))) (σ := σ) hris ?_
        dsimp only [Fs.at, Fs.set, List.set_cons_zero, List.set_cons_succ]
        clear hris
        by_cases hz : ris us = []
        · have h1 := hne (ai (ris us))
          rw [hz] at h1
          rw [hz]
          refine pk_skip (σ := σ) ?_ (pk_nil ?_)
          · have h1 : O.cmp .NotEq (.lst (ai [])) (.lst []) = some false := h1
            simp only [pe_const, pe_name, slotV, pe_glob, pe_bin, pe_not, pe_neg, pe_is, pe_isnot, pe_eq, pe_ne, pe_lt, pe_le, pe_gt, pe_ge, pe_in, pe_notin, pe_bop, pe_ife, pe_list, pe_tup, pe_sub, pe_slice, pe_call, pe_bcall, pe_meth, pe_setd, pe_attr, pes_nil', pes_cons, pr_v, pr_t, bind_ok, bindA_ok, truth_ok, ofB_some, ofRes_ok, ofRes_exc, onL_some, onP_some, plains_nil, plains_cons, pall_and_nil, pall_or_nil, pall_and_cons, pall_or_cons, pbop_one, pbop_and, pbop_or, Option.map_some, List.map_cons, List.map_nil, List.getElem?_cons_zero, List.getElem?_cons_succ, dS_av, dr_none, dr_bool, dr_int, dr_str, dr_type, dr_range, dr_tup, dr_lst, dr_set, List.length_cons, List.length_nil, Bool.not_true, Bool.not_false, Nat.reduceAdd, Nat.reduceLeDiff, if_true, h1, tb]
          · exact ⟨0, by omega, us, [], e3, rfl, hly, hrow, hl, .inr ⟨rfl, rfl, hly, ris_none hz⟩⟩
        · have he : (ai (ris us)).isEmpty = false := by cases hq : ris us with | nil => exact absurd hq hz | cons _ _ => rfl
          have h1 := hne (ai (ris us))
          rw [he] at h1
          obtain ⟨k, hk, hx⟩ := idx_ends hz hw
          have hx : O.idx (.lst (ai (ris us))) (.int which) = .ok (.int (k : Int)) := by rw [o_idx hO]; exact hx
          obtain ⟨a, b, ga, gb, hab⟩ := ris_mem hk
          have la := (flat_mem (List.mem_of_getElem? ga)).1
          have lb := (flat_mem (List.mem_of_getElem? gb)).1
          rw [hrow] at la lb
          have x1 : O.idx (.lst (us.map (wd d))) (.int (k : Int)) = .ok (wd d a) := by rw [o_idx hO]; exact idx_wd ga
          have x2 : O.idx (.lst (us.map (wd d))) (.int ((k : Int) + 1)) = .ok (wd d b) := by rw [o_idx hO]; exact idx_wd (k := k + 1) gb
          have c1 := hc a b (by omega)
          have s1 : O.slice (.lst (us.map (wd d))) .none (.int (k : Int)) .none = .ok (.lst ((us.take k).map (wd d))) := by rw [o_slice hO, os_l, sl_take, List.map_take]
          have s2 : O.slice (.lst (us.map (wd d))) (.int ((k : Int) + 2)) .none .none = .ok (.lst ((us.drop (k + 2)).map (wd d))) := by
            rw [o_slice hO, os_l, List.map_drop]
            exact sl_drop _ (k + 2)
          have gl := glue_len ga gb
          have a1 : O.bin .Add (.lst ((us.take k).map (wd d))) (.lst [wd d (a ++ b)]) = .ok (.lst ((us.take k).map (wd d) ++ [wd d (a ++ b)])) := by
            rw [o_bin hO]
            refine l_add _ _ ?_
            rw [List.length_map, List.length_take, List.length_singleton]; omega
          have a2 : O.bin .Add (.lst ((us.take k).map (wd d) ++ [wd d (a ++ b)])) (.lst ((us.drop (k + 2)).map (wd d))) = .ok (.lst ((glue us k a b).map (wd d))) := by
            rw [o_bin hO]
            refine (l_add _ _ ?_).trans ?_
            · rw [List.length_append, List.length_map, List.length_map, List.length_take, List.length_drop, List.length_singleton]; omega
            · unfold glue
              rw [List.map_append, List.map_append]; rfl
          refine pk_if_t (σ := σ) ?_ ?_
          · simp only [pe_const, pe_name, slotV, pe_glob, pe_bin, pe_not, pe_neg, pe_is, pe_isnot, pe_eq, pe_ne, pe_lt, pe_le, pe_gt, pe_ge, pe_in, pe_notin, pe_bop, pe_ife, pe_list, pe_tup, pe_sub, pe_slice, pe_call, pe_bcall, pe_meth, pe_setd, pe_attr, pes_nil', pes_cons, pr_v, pr_t, bind_ok, bindA_ok, truth_ok, ofB_some, ofRes_ok, ofRes_exc, onL_some, onP_some, plains_nil, plains_cons, pall_and_nil, pall_or_nil, pall_and_cons, pall_or_cons, pbop_one, pbop_and, pbop_or, Option.map_some, List.map_cons, List.map_nil, List.getElem?_cons_zero, List.getElem?_cons_succ, dS_av, dr_none, dr_bool, dr_int, dr_str, dr_type, dr_range, dr_tup, dr_lst, dr_set, List.length_cons, List.length_nil, Bool.not_true, Bool.not_false, Nat.reduceAdd, Nat.reduceLeDiff, if_true, h1, tb]
          · dsimp only [Fs.at, Fs.set, List.set_cons_zero, List.set_cons_succ]
            refine pk_assign (v := .int (k : Int)) (σ := σ) ?_ ?_
            · simp only [pe_const, pe_name, slotV, pe_glob, pe_bin, pe_not, pe_neg, pe_is, pe_isnot, pe_eq, pe_ne, pe_lt, pe_le, pe_gt, pe_ge, pe_in, pe_notin, pe_bop, pe_ife, pe_list, pe_tup, pe_sub, pe_slice, pe_call, pe_bcall, pe_meth, pe_setd, pe_attr, pes_nil', pes_cons, pr_v, pr_t, bind_ok, bindA_ok, truth_ok, ofB_some, ofRes_ok, ofRes_exc, onL_some, onP_some, plains_nil, plains_cons, pall_and_nil, pall_or_nil, pall_and_cons, pall_or_cons, pbop_one, pbop_and, pbop_or, Option.map_some, List.map_cons, List.map_nil, List.getElem?_cons_zero, List.getElem?_cons_succ, dS_av, dr_none, dr_bool, dr_int, dr_str, dr_type, dr_range, dr_tup, dr_lst, dr_set, List.length_cons, List.length_nil, Bool.not_true, Bool.not_false, Nat.reduceAdd, Nat.reduceLeDiff, if_true, hx]
            dsimp only [Fs.at, Fs.set, List.set_cons_zero, List.set_cons_succ]
            refine pk_assign (v := .lst ((glue us k a b).map (wd d))) (σ := σ) ?_ (tk_nil (pk_nil ?_))
            · simp only [pe_const, pe_name, slotV, pe_glob, pe_bin, pe_not, pe_neg, pe_is, pe_isnot, pe_eq, pe_ne, pe_lt, pe_le, pe_gt, pe_ge, pe_in, pe_notin, pe_bop, pe_ife, pe_list, pe_tup, pe_sub, pe_slice, pe_call, pe_bcall, pe_meth, pe_setd, pe_attr, pes_nil', pes_cons, pr_v, pr_t, bind_ok, bindA_ok, truth_ok, ofB_some, ofRes_ok, ofRes_exc, onL_some, onP_some, plains_nil, plains_cons, pall_and_nil, pall_or_nil, pall_and_cons, pall_or_cons, pbop_one, pbop_and, pbop_or, Option.map_some, List.map_cons, List.map_nil, List.getElem?_cons_zero, List.getElem?_cons_succ, dS_av, dr_none, dr_bool, dr_int, dr_str, dr_type, dr_range, dr_tup, dr_lst, dr_set, List.length_cons, List.length_nil, Bool.not_true, Bool.not_false, Nat.reduceAdd, Nat.reduceLeDiff, if_true, x1, x2, iadd, c1, s1, s2, a1, a2]
            dsimp only [Fs.at, Fs.set, List.set_cons_zero, List.set_cons_succ]
            exact ⟨us.length, by omega, glue us k a b, ris us, _, rfl, glue_ly ga gb hab hly, (glue_flat ga gb).trans hrow, by omega, .inl ⟨hz, by omega⟩⟩
    · refine .inl ⟨σ, ?_, ?_⟩
      · have h1 : O.cmp .NotEq (.lst (ai [])) (.lst []) = some false := hne (ai [])
        simp only [pe_const, pe_name, slotV, pe_glob, pe_bin, pe_not, pe_neg, pe_is, pe_isnot, pe_eq, pe_ne, pe_lt, pe_le, pe_gt, pe_ge, pe_in, pe_notin, pe_bop, pe_ife, pe_list, pe_tup, pe_sub, pe_slice, pe_call, pe_bcall, pe_meth, pe_setd, pe_attr, pes_nil', pes_cons, pr_v, pr_t, bind_ok, bindA_ok, truth_ok, ofB_some, ofRes_ok, ofRes_exc, onL_some, onP_some, plains_nil, plains_cons, pall_and_nil, pall_or_nil, pall_and_cons, pall_or_cons, pbop_one, pbop_and, pbop_or, Option.map_some, List.map_cons, List.map_nil, List.getElem?_cons_zero, List.getElem?_cons_succ, dS_av, dr_none, dr_bool, dr_int, dr_str, dr_type, dr_range, dr_tup, dr_lst, dr_set, List.length_cons, List.length_nil, Bool.not_true, Bool.not_false, Nat.reduceAdd, Nat.reduceLeDiff, if_true, h1, tb]
      · dsimp only [Fs.at, Fs.set, List.set_cons_zero, List.set_cons_succ]
        refine pk_ret (v := .lst (us.map (wd d))) (σ := σ) ?_ ⟨us, hcf, hrow, rfl⟩
        simp only [pe_const, pe_name, slotV, pe_glob, pe_bin, pe_not, pe_neg, pe_is, pe_isnot, pe_eq, pe_ne, pe_lt, pe_le, pe_gt, pe_ge, pe_in, pe_notin, pe_bop, pe_ife, pe_list, pe_tup, pe_sub, pe_slice, pe_call, pe_bcall, pe_meth, pe_setd, pe_attr, pes_nil', pes_cons, pr_v, pr_t, bind_ok, bindA_ok, truth_ok, ofB_some, ofRes_ok, ofRes_exc, onL_some, onP_some, plains_nil, plains_cons, pall_and_nil, pall_or_nil, pall_and_cons, pall_or_cons, pbop_one, pbop_and, pbop_or, Option.map_some, List.map_cons, List.map_nil, List.getElem?_cons_zero, List.getElem?_cons_succ, dS_av, dr_none, dr_bool, dr_int, dr_str, dr_type, dr_range, dr_tup, dr_lst, dr_set, List.length_cons, List.length_nil, Bool.not_true, Bool.not_false, Nat.reduceAdd, Nat.reduceLeDiff, if_true]
  exact go
end
end Mine
end
section
open PySem PySem.W PyProof.Rows
namespace Mine
set_option maxRecDepth 100000
set_option linter.unusedSimpArgs false
set_option linter.unusedVariables false
set_option maxHeartbeats 1000000
theorem lts_take {d : Kd} {w : List Int} (h : Lts d w) (n : Nat) : Lts d (w.take n) := fun x hx => h x (List.mem_of_mem_take hx)
theorem lts_drop {d : Kd} {w : List Int} (h : Lts d w) (n : Nat) : Lts d (w.drop n) := fun x hx => h x (List.mem_of_mem_drop hx)
noncomputable def one (r : List Nat) : List AV := r.map fun (i : Nat) => AV.int (1 + (i : Int))
section
variable {O : OpsF} {ld : Bool} (hO : O = ops ld) {cal : Cal} {σ : Store} {lo n0 : Nat} {d : Kd}
include hO
theorem w_ge {row : List Int} (hl : row.length ≤ 64) (hd : Lts d row) {n k : Nat} (hk : k ≤ n) (hn : n ≤ row.length) :
    O.slice (wd d row) .none (.int (n : Int)) .none = .ok (wd d (row.take n)) ∧ O.slice (wd d row) (.int (k : Int)) (.int (n : Int)) .none = .ok (wd d ((row.drop k).take (n - k))) ∧
      O.cmp .GtE (wd d (row.take n)) (wd d ((row.drop k).take (n - k))) = some (!lx (row.take n) ((row.drop k).take (n - k))) := by
  refine ⟨?_, ?_, ?_⟩
  · rw [o_slice hO]; exact wd_upto row (by omega) hn
  · rw [o_slice hO]; exact wd_mid row (by omega) hk hn
  · rw [o_cmp hO]; exact wd_ge (lts_take hd n) (lts_take (lts_drop hd k) _)
/-- the ends that are no greater -/
noncomputable def badB (row : List Int) (n : Nat) (j : Nat) : Bool := !lx (row.take n) ((row.drop (j + 1)).take (n - (j + 1)))
omit hO in
theorem bad_ly (row : List Int) (n : Nat) : ((List.range (n - 1)).filter (badB row n)).isEmpty = lyB row n := by
  unfold lyB
  generalize List.range (n - 1) = r
  induction r with
  | nil => rfl
  | cons a r ih =>
    rw [List.filter_cons, List.all_cons, ← ih]
    unfold badB
    cases lx (row.take n) ((row.drop (a + 1)).take (n - (a + 1))) <;> simp
theorem w_inner {row : List Int} (hl : row.length ≤ 64) (hd : Lts d row) {i : Nat} (hi : i < row.length) {σ' : Store} {m0 m1 : Nat} :
    (pe O cal true ⟨[some (.val (wd d row)), none, none, some (.val (.int (1 + (i : Int))))], σ, m0, m1⟩ (.comp [0, 3] (.name 4) (.bcall .range (.cons (.const (.int 1)) (.cons (.name 3) .nil))) (.cons (.cmp .GtE (.slice (.name 0) (.const .none) (.name 3) (.const .none)) (.slice (.name 0) (.name 4) (.name 3) (.const .none))) .nil))).v
      = .ok (.av (.lst (one ((List.range i).filter (badB row (i + 1)))))) σ := by
  have tb := w_tb hO
  have br : ∀ a b : Int, O.bcall .range [.int a, .int b] = .ok (.range a b 1) := fun _ _ => by rw [o_bcall hO]; rfl
  rw [pe_comp (a := .av (.range 1 (1 + (i : Int)) 1)) (σ₁ := σ) (l := one (List.range i)) (ys := one ((List.range i).filter (badB row (i + 1))))]
  · rfl
  · simp only [pe_const, pe_name, slotV, pe_glob, pe_bin, pe_not, pe_neg, pe_is, pe_isnot, pe_eq, pe_ne, pe_lt, pe_le, pe_gt, pe_ge, pe_in, pe_notin, pe_bop, pe_ife, pe_list, pe_tup, pe_sub, pe_slice, pe_call, pe_bcall, pe_meth, pe_setd, pe_attr, pes_nil', pes_cons, pr_v, pr_t, bind_ok, bindA_ok, truth_ok, ofB_some, ofRes_ok, ofRes_exc, onL_some, onP_some, plains_nil, plains_cons, pall_and_nil, pall_or_nil, pall_and_cons, pall_or_cons, pbop_one, pbop_and, pbop_or, Option.map_some, List.map_cons, List.map_nil, List.getElem?_cons_zero, List.getElem?_cons_succ, dS_av, dr_none, dr_bool, dr_int, dr_str, dr_type, dr_range, dr_tup, dr_lst, dr_set, List.length_cons, List.length_nil, Bool.not_true, Bool.not_false, Nat.reduceAdd, Nat.reduceLeDiff, if_true, br]
  · rw [o_items hO]; exact range_one i (by omega) (by omega)
  · unfold one
    refine mapF_filter fun j hj => ?_
    rw [List.mem_range] at hj
    have hin : Fs.inner (Fs.at ⟨[some (.val (wd d row)), none, none, some (.val (.int (1 + (i : Int))))], σ, m0, m1⟩ σ) [0, 3] (.int (1 + (j : Int))) = ⟨[some (.val (wd d row)), none, none, some (.val (.int (1 + (i : Int)))), some (.val (.int (1 + (j : Int))))], σ, σ.length, m1⟩ := by simp [Fs.inner, mask]
    rw [hin]
    obtain ⟨s1, s2, c1⟩ := w_ge hO hl hd (n := i + 1) (k := j + 1) (by omega) (by omega)
    rw [show ((i + 1 : Nat) : Int) = 1 + (i : Int) from by omega] at s1 s2
    rw [show ((j + 1 : Nat) : Int) = 1 + (j : Int) from by omega] at s2
    have d0 := wd_dr d row σ
    have d1 := wd_dr d (row.take (i + 1)) σ
    have d2 := wd_dr d ((row.drop (j + 1)).take (i + 1 - (j + 1))) σ
    have hb : O.cmp .GtE (wd d (row.take (i + 1))) (wd d ((row.drop (j + 1)).take (i + 1 - (j + 1)))) = some (badB row (i + 1) j) := c1
    clear c1
    generalize hw1 : wd d (row.take (i + 1)) = w1 at *
    generalize hw2 : wd d ((row.drop (j + 1)).take (i + 1 - (j + 1))) = w2 at *
    have e : pall O cal true ⟨[some (.val (wd d row)), none, none, some (.val (.int (1 + (i : Int)))), some (.val (.int (1 + (j : Int))))], σ, σ.length, m1⟩ .And (.cons (.cmp .GtE (.slice (.name 0) (.const .none) (.name 3) (.const .none)) (.slice (.name 0) (.name 4) (.name 3) (.const .none))) .nil) = some (badB row (i + 1) j, σ) := by
      cases hbb : badB row (i + 1) j with
      | true =>
        rw [hbb] at hb
        simp only [pe_const, pe_name, slotV, pe_glob, pe_bin, pe_not, pe_neg, pe_is, pe_isnot, pe_eq, pe_ne, pe_lt, pe_le, pe_gt, pe_ge, pe_in, pe_notin, pe_bop, pe_ife, pe_list, pe_tup, pe_sub, pe_slice, pe_call, pe_bcall, pe_meth, pe_setd, pe_attr, pes_nil', pes_cons, pr_v, pr_t, bind_ok, bindA_ok, truth_ok, ofB_some, ofRes_ok, ofRes_exc, onL_some, onP_some, plains_nil, plains_cons, pall_and_nil, pall_or_nil, pall_and_cons, pall_or_cons, pbop_one, pbop_and, pbop_or, Option.map_some, List.map_cons, List.map_nil, List.getElem?_cons_zero, List.getElem?_cons_succ, dS_av, dr_none, dr_bool, dr_int, dr_str, dr_type, dr_range, dr_tup, dr_lst, dr_set, List.length_cons, List.length_nil, Bool.not_true, Bool.not_false, Nat.reduceAdd, Nat.reduceLeDiff, if_true, d0, s1, s2, d1, d2, hb, tb]
      | false =>
        rw [hbb] at hb
        simp only [pe_const, pe_name, slotV, pe_glob, pe_bin, pe_not, pe_neg, pe_is, pe_isnot, pe_eq, pe_ne, pe_lt, pe_le, pe_gt, pe_ge, pe_in, pe_notin, pe_bop, pe_ife, pe_list, pe_tup, pe_sub, pe_slice, pe_call, pe_bcall, pe_meth, pe_setd, pe_attr, pes_nil', pes_cons, pr_v, pr_t, bind_ok, bindA_ok, truth_ok, ofB_some, ofRes_ok, ofRes_exc, onL_some, onP_some, plains_nil, plains_cons, pall_and_nil, pall_or_nil, pall_and_cons, pall_or_cons, pbop_one, pbop_and, pbop_or, Option.map_some, List.map_cons, List.map_nil, List.getElem?_cons_zero, List.getElem?_cons_succ, dS_av, dr_none, dr_bool, dr_int, dr_str, dr_type, dr_range, dr_tup, dr_lst, dr_set, List.length_cons, List.length_nil, Bool.not_true, Bool.not_false, Nat.reduceAdd, Nat.reduceLeDiff, if_true, d0, s1, s2, d1, d2, hb, tb]
    rw [e]
    cases badB row (i + 1) j with
    | true =>
      simp only [if_true]
      refine compF_t (σ' := σ) ?_ rfl
      simp only [pe_const, pe_name, slotV, pe_glob, pe_bin, pe_not, pe_neg, pe_is, pe_isnot, pe_eq, pe_ne, pe_lt, pe_le, pe_gt, pe_ge, pe_in, pe_notin, pe_bop, pe_ife, pe_list, pe_tup, pe_sub, pe_slice, pe_call, pe_bcall, pe_meth, pe_setd, pe_attr, pes_nil', pes_cons, pr_v, pr_t, bind_ok, bindA_ok, truth_ok, ofB_some, ofRes_ok, ofRes_exc, onL_some, onP_some, plains_nil, plains_cons, pall_and_nil, pall_or_nil, pall_and_cons, pall_or_cons, pbop_one, pbop_and, pbop_or, Option.map_some, List.map_cons, List.map_nil, List.getElem?_cons_zero, List.getElem?_cons_succ, dS_av, dr_none, dr_bool, dr_int, dr_str, dr_type, dr_range, dr_tup, dr_lst, dr_set, List.length_cons, List.length_nil, Bool.not_true, Bool.not_false, Nat.reduceAdd, Nat.reduceLeDiff, if_true]
    | false => rfl
theorem w_sizes {row : List Int} (hl : row.length ≤ 64) (hd : Lts d row) {e1 e2 : Option Ent} :
    (pe O cal true ⟨[some (.val (wd d row)), e1, e2], σ, lo, n0⟩ (.compc [0] (.name 3) (.bcall .range (.cons (.const (.int 1)) (.cons (.bin .Add (.bcall .len (.cons (.name 0) .nil)) (.const (.int 1))) .nil)))
      (.cons (.cmp .Eq (.comp [0, 3] (.name 4) (.bcall .range (.cons (.const (.int 1)) (.cons (.name 3) .nil))) (.cons (.cmp .GtE (.slice (.name 0) (.const .none) (.name 3) (.const .none)) (.slice (.name 0) (.name 4) (.name 3) (.const .none))) .nil)) (.list .nil)) .nil))).v
      = .ok (.av (.lst (one ((List.range row.length).filter fun i => lyB row (i + 1))))) σ := by
  have tb := w_tb hO
  have iadd := w_iadd hO
  have bl : O.bcall .len [wd d row] = .ok (.int (row.length : Nat)) := by rw [o_bcall hO]; exact wd_len row (by omega)
  have br : ∀ a b : Int, O.bcall .range [.int a, .int b] = .ok (.range a b 1) := fun _ _ => by rw [o_bcall hO]; rfl
  have d0 := wd_dr d row σ
  rw [pe_compc (a := .av (.range 1 ((row.length : Int) + 1) 1)) (σ₁ := σ) (l := one (List.range row.length)) (ys := one ((List.range row.length).filter fun i => lyB row (i + 1)))]
  · rfl
  · simp only [pe_const, pe_name, slotV, pe_glob, pe_bin, pe_not, pe_neg, pe_is, pe_isnot, pe_eq, pe_ne, pe_lt, pe_le, pe_gt, pe_ge, pe_in, pe_notin, pe_bop, pe_ife, pe_list, pe_tup, pe_sub, pe_slice, pe_call, pe_bcall, pe_meth, pe_setd, pe_attr, pes_nil', pes_cons, pr_v, pr_t, bind_ok, bindA_ok, truth_ok, ofB_some, ofRes_ok, ofRes_exc, onL_some, onP_some, plains_nil, plains_cons, pall_and_nil, pall_or_nil, pall_and_cons, pall_or_cons, pbop_one, pbop_and, pbop_or, Option.map_some, List.map_cons, List.map_nil, List.getElem?_cons_zero, List.getElem?_cons_succ, dS_av, dr_none, dr_bool, dr_int, dr_str, dr_type, dr_range, dr_tup, dr_lst, dr_set, List.length_cons, List.length_nil, Bool.not_true, Bool.not_false, Nat.reduceAdd, Nat.reduceLeDiff, if_true, d0, bl, iadd, br]
  · rw [o_items hO]; exact range_one _ (by omega) rfl
  · unfold one
    refine mapF_filter fun i hi => ?_
    rw [List.mem_range] at hi
    have hin : Fs.inner (Fs.at ⟨[some (.val (wd d row)), e1, e2], σ, lo, n0⟩ σ) [0] (.int (1 + (i : Int))) = ⟨[some (.val (wd d row)), none, none, some (.val (.int (1 + (i : Int))))], σ, σ.length, n0⟩ := by simp [Fs.inner, mask]
    rw [hin]
    have hin2 := w_inner (O := O) hO (cal := cal) (σ := σ) hl hd hi (σ' := σ) (m0 := σ.length) (m1 := n0)
    have heq : O.cmp .Eq (.lst (one ((List.range i).filter (badB row (i + 1))))) (.lst []) = some (lyB row (i + 1)) := by
      rw [o_cmp hO, emp_eq, ← bad_ly, show i + 1 - 1 = i from rfl]
      unfold one
      cases (List.range i).filter (badB row (i + 1)) with
      | nil => rfl
      | cons _ _ => rfl
    generalize PE.comp [0, 3] (.name 4) (.bcall .range (.cons (.const (.int 1)) (.cons (.name 3) .nil))) (.cons (.cmp .GtE (.slice (.name 0) (.const .none) (.name 3) (.const .none)) (.slice (.name 0) (.name 4) (.name 3) (.const .none))) .nil) = E at hin2 ⊢
    have e : pall O cal true ⟨[some (.val (wd d row)), none, none, some (.val (.int (1 + (i : Int))))], σ, σ.length, n0⟩ .And (.cons (.cmp .Eq E (.list .nil)) .nil) = some (lyB row (i + 1), σ) := by
      cases hbb : lyB row (i + 1) with
      | true =>
        rw [hbb] at heq
        simp only [pe_const, pe_name, slotV, pe_glob, pe_bin, pe_not, pe_neg, pe_is, pe_isnot, pe_eq, pe_ne, pe_lt, pe_le, pe_gt, pe_ge, pe_in, pe_notin, pe_bop, pe_ife, pe_list, pe_tup, pe_sub, pe_slice, pe_call, pe_bcall, pe_meth, pe_setd, pe_attr, pes_nil', pes_cons, pr_v, pr_t, bind_ok, bindA_ok, truth_ok, ofB_some, ofRes_ok, ofRes_exc, onL_some, onP_some, plains_nil, plains_cons, pall_and_nil, pall_or_nil, pall_and_cons, pall_or_cons, pbop_one, pbop_and, pbop_or, Option.map_some, List.map_cons, List.map_nil, List.getElem?_cons_zero, List.getElem?_cons_succ, dS_av, dr_none, dr_bool, dr_int, dr_str, dr_type, dr_range, dr_tup, dr_lst, dr_set, List.length_cons, List.length_nil, Bool.not_true, Bool.not_false, Nat.reduceAdd, Nat.reduceLeDiff, if_true, hin2, heq, tb]
      | false =>
        rw [hbb] at heq
        simp only [pe_const, pe_name, slotV, pe_glob, pe_bin, pe_not, pe_neg, pe_is, pe_isnot, pe_eq, pe_ne, pe_lt, pe_le, pe_gt, pe_ge, pe_in, pe_notin, pe_bop, pe_ife, pe_list, pe_tup, pe_sub, pe_slice, pe_call, pe_bcall, pe_meth, pe_setd, pe_attr, pes_nil', pes_cons, pr_v, pr_t, bind_ok, bindA_ok, truth_ok, ofB_some, ofRes_ok, ofRes_exc, onL_some, onP_some, plains_nil, plains_cons, pall_and_nil, pall_or_nil, pall_and_cons, pall_or_cons, pbop_one, pbop_and, pbop_or, Option.map_some, List.map_cons, List.map_nil, List.getElem?_cons_zero, List.getElem?_cons_succ, dS_av, dr_none, dr_bool, dr_int, dr_str, dr_type, dr_range, dr_tup, dr_lst, dr_set, List.length_cons, List.length_nil, Bool.not_true, Bool.not_false, Nat.reduceAdd, Nat.reduceLeDiff, if_true, hin2, heq, tb]
    rw [e]
    cases lyB row (i + 1) with
    | true =>
      simp only [if_true]
      refine compF_t (σ' := σ) ?_ rfl
      simp only [pe_const, pe_name, slotV, pe_glob, pe_bin, pe_not, pe_neg, pe_is, pe_isnot, pe_eq, pe_ne, pe_lt, pe_le, pe_gt, pe_ge, pe_in, pe_notin, pe_bop, pe_ife, pe_list, pe_tup, pe_sub, pe_slice, pe_call, pe_bcall, pe_meth, pe_setd, pe_attr, pes_nil', pes_cons, pr_v, pr_t, bind_ok, bindA_ok, truth_ok, ofB_some, ofRes_ok, ofRes_exc, onL_some, onP_some, plains_nil, plains_cons, pall_and_nil, pall_or_nil, pall_and_cons, pall_or_cons, pbop_one, pbop_and, pbop_or, Option.map_some, List.map_cons, List.map_nil, List.getElem?_cons_zero, List.getElem?_cons_succ, dS_av, dr_none, dr_bool, dr_int, dr_str, dr_type, dr_range, dr_tup, dr_lst, dr_set, List.length_cons, List.length_nil, Bool.not_true, Bool.not_false, Nat.reduceAdd, Nat.reduceLeDiff, if_true]
    | false => rfl
noncomputable def cI (d : Kd) (ws : List (List Int)) (σ : Store) (lo n0 : Nat) (m : Nat) (st : Fs) : Prop := ∃ (vs us : List (List Int)) (e2 : Option Ent), st = ⟨[some (.val (wd d us.flatten)), some (.own (vs.map (wd d))), e2], σ, lo, n0⟩ ∧ vs ++ us = ws ∧ m = us.length ∧ Cfl us
noncomputable def cK (d : Kd) (ws : List (List Int)) (σ : Store) (fr : FR) : Prop := fnRes fr = .ok (.av (.lst (ws.map (wd d)))) σ
theorem cut_run {ws : List (List Int)} (hcf : Cfl ws) (hf : ws.flatten.length ≤ 64) (hn : ws.length ≤ 64) (hd : Lts d ws.flatten) : cK d ws σ (pxs O cal true ⟨[some (.val (wd d ws.flatten)), none, none], σ, lo, n0⟩ law_cut_p) := by
  unfold law_cut_p
  have tb := w_tb hO
  refine pk_own (ol := []) (ys := []) (σ := σ) ?_ rfl (by simp) ?_
  · rw [pes_nil']
  dsimp only [Fs.at, Fs.set, List.set_cons_zero, List.set_cons_succ]
  refine pk_while (n := 100) (m := ws.length) (cI d ws σ lo n0) (by omega) ⟨[], ws, none, rfl, rfl, rfl, hcf⟩ ?_
  rintro m st ⟨vs, us, e2, rfl, hws, rfl, hcf⟩
  have hfl : us.flatten.length ≤ 64 := by
    have := congrArg (fun l => l.flatten.length) hws
    simp only [List.flatten_append, List.length_append] at this
    omega
  have hdu : Lts d us.flatten := fun x hx => hd x (by rw [← hws, List.flatten_append]; exact List.mem_append_right _ hx)
  have bl : O.bcall .len [wd d us.flatten] = .ok (.int (us.flatten.length : Nat)) := by rw [o_bcall hO]; exact wd_len _ (by omega)
  have hgt : ∀ n : Nat, O.cmp .Gt (.int (n : Int)) (.int 0) = some (decide ((n : Int) > 0)) := fun n => by rw [o_cmp hO]; rfl
  have d0 := wd_dr d us.flatten σ
  cases us with
  | nil =>
    refine .inl ⟨σ, ?_, ?_⟩
    · have h1 := hgt ([] : List (List Int)).flatten.length
      have h2 : decide (((([] : List (List Int)).flatten.length : Nat) : Int) > 0) = false := rfl
      rw [h2] at h1
      simp only [pe_const, pe_name, slotV, pe_glob, pe_bin, pe_not, pe_neg, pe_is, pe_isnot, pe_eq, pe_ne, pe_lt, pe_le, pe_gt, pe_ge, pe_in, pe_notin, pe_bop, pe_ife, pe_list, pe_tup, pe_sub, pe_slice, pe_call, pe_bcall, pe_meth, pe_setd, pe_attr, pes_nil', pes_cons, pr_v, pr_t, bind_ok, bindA_ok, truth_ok, ofB_some, ofRes_ok, ofRes_exc, onL_some, onP_some, plains_nil, plains_cons, pall_and_nil, pall_or_nil, pall_and_cons, pall_or_cons, pbop_one, pbop_and, pbop_or, Option.map_some, List.map_cons, List.map_nil, List.getElem?_cons_zero, List.getElem?_cons_succ, dS_av, dr_none, dr_bool, dr_int, dr_str, dr_type, dr_range, dr_tup, dr_lst, dr_set, List.length_cons, List.length_nil, Bool.not_true, Bool.not_false, Nat.reduceAdd, Nat.reduceLeDiff, if_true, d0, bl, h1, tb]
    · dsimp only [Fs.at, Fs.set, List.set_cons_zero, List.set_cons_succ]
      rw [List.append_nil] at hws
      subst hws
      refine pk_retOwn (xs := vs.map (wd d)) rfl ?_
      exact rfl
  | cons w us =>
    obtain ⟨hw1, hw2⟩ := sizes_max hcf
    have hp : 0 < w.length := List.length_pos_iff.mpr (hcf.1 w (List.mem_cons_self ..)).1
    have hwl : w.length ≤ (w :: us).flatten.length := by rw [List.flatten_cons, List.length_append]; omega
    have t1 : (w :: us).flatten.take w.length = w := by rw [List.flatten_cons, List.take_left]
    have t2 : (w :: us).flatten.drop w.length = us.flatten := by rw [List.flatten_cons, List.drop_left]
    refine .inr ⟨σ, ?_, ?_⟩
    · have h1 := hgt (w :: us).flatten.length
      have h2 : decide ((((w :: us).flatten.length : Nat) : Int) > 0) = true := decide_eq_true (by omega)
      rw [h2] at h1
      simp only [pe_const, pe_name, slotV, pe_glob, pe_bin, pe_not, pe_neg, pe_is, pe_isnot, pe_eq, pe_ne, pe_lt, pe_le, pe_gt, pe_ge, pe_in, pe_notin, pe_bop, pe_ife, pe_list, pe_tup, pe_sub, pe_slice, pe_call, pe_bcall, pe_meth, pe_setd, pe_attr, pes_nil', pes_cons, pr_v, pr_t, bind_ok, bindA_ok, truth_ok, ofB_some, ofRes_ok, ofRes_exc, onL_some, onP_some, plains_nil, plains_cons, pall_and_nil, pall_or_nil, pall_and_cons, pall_or_cons, pbop_one, pbop_and, pbop_or, Option.map_some, List.map_cons, List.map_nil, List.getElem?_cons_zero, List.getElem?_cons_succ, dS_av, dr_none, dr_bool, dr_int, dr_str, dr_type, dr_range, dr_tup, dr_lst, dr_set, List.length_cons, List.length_nil, Bool.not_true, Bool.not_false, Nat.reduceAdd, Nat.reduceLeDiff, if_true, d0, bl, h1, tb]
    · dsimp only [Fs.at, Fs.set, List.set_cons_zero, List.set_cons_succ]
      unfold law_cut_b1
      have hs := w_sizes (O := O) hO (cal := cal) (σ := σ) (lo := lo) (n0 := n0) hfl hdu (e1 := some (.own (vs.map (wd d)))) (e2 := e2)
      have hmax : O.bcall .max [.lst (one ((List.range (w :: us).flatten.length).filter fun i => lyB (w :: us).flatten (i + 1)))] = .ok (.int (w.length : Int)) := by
        rw [o_bcall hO]
        have e : one ((List.range (w :: us).flatten.length).filter fun i => lyB (w :: us).flatten (i + 1)) = ((sizes (w :: us).flatten).map fun (n : Nat) => (n : Int)).map .int := by
          unfold one sizes
          rw [List.filter_map, List.map_map, List.map_map]
          refine List.map_congr_left fun i _ => ?_
          show AV.int (1 + (i : Int)) = .int ((i + 1 : Nat) : Int)
          rw [show ((i + 1 : Nat) : Int) = 1 + (i : Int) from by omega]
        have hm : maxI ((sizes (w :: us).flatten).map fun (n : Nat) => (n : Int)) = some (w.length : Int) := maxI_of (List.mem_map.mpr ⟨_, hw1, rfl⟩) fun x hx => by
          obtain ⟨n, hn, rfl⟩ := List.mem_map.mp hx
          have := hw2 n hn
          omega
        rw [e]
        rw [show ∀ xs, callB .max xs = b_max xs from fun _ => rfl]
        simp only [b_max, ints_map, hm]
      generalize (w :: us).flatten = row at hs hmax hdu hfl bl d0 hwl t1 t2
      refine pk_assign hs ?_
      dsimp only [Fs.at, Fs.set, List.set_cons_zero, List.set_cons_succ]
      clear hs
      have s1 : O.slice (wd d row) .none (.int (w.length : Int)) .none = .ok (wd d w) := by
        rw [o_slice hO]
        refine (wd_upto row (by omega) hwl).trans ?_
        rw [t1]
      have s2 : O.slice (wd d row) (.int (w.length : Int)) .none .none = .ok (wd d us.flatten) := by
        rw [o_slice hO]
        refine (wd_from row (by omega) hwl).trans ?_
        rw [t2]
      have happ : O.ometh .append (vs.map (wd d)) [wd d w] = some ((vs ++ [w]).map (wd d)) := by
        rw [o_ometh hO]
        show (if (vs.map (wd d)).length < 1000000 then some (vs.map (wd d) ++ [wd d w]) else none) = _
        have := congrArg List.length hws
        rw [List.length_append] at this
        rw [if_pos (by rw [List.length_map]; omega), List.map_append]; rfl
      refine pk_ometh (xs := vs.map (wd d)) (ol := [.av (wd d w)]) (l := [wd d w]) (σ := σ) rfl ?_ rfl happ ?_
      · simp only [pe_const, pe_name, slotV, pe_glob, pe_bin, pe_not, pe_neg, pe_is, pe_isnot, pe_eq, pe_ne, pe_lt, pe_le, pe_gt, pe_ge, pe_in, pe_notin, pe_bop, pe_ife, pe_list, pe_tup, pe_sub, pe_slice, pe_call, pe_bcall, pe_meth, pe_setd, pe_attr, pes_nil', pes_cons, pr_v, pr_t, bind_ok, bindA_ok, truth_ok, ofB_some, ofRes_ok, ofRes_exc, onL_some, onP_some, plains_nil, plains_cons, pall_and_nil, pall_or_nil, pall_and_cons, pall_or_cons, pbop_one, pbop_and, pbop_or, Option.map_some, List.map_cons, List.map_nil, List.getElem?_cons_zero, List.getElem?_cons_succ, dS_av, dr_none, dr_bool, dr_int, dr_str, dr_type, dr_range, dr_tup, dr_lst, dr_set, List.length_cons, List.length_nil, Bool.not_true, Bool.not_false, Nat.reduceAdd, Nat.reduceLeDiff, if_true, hmax, d0, s1]
      dsimp only [Fs.at, Fs.set, List.set_cons_zero, List.set_cons_succ]
      refine pk_assign (v := wd d us.flatten) (σ := σ) ?_ (pk_nil ?_)
      · simp only [pe_const, pe_name, slotV, pe_glob, pe_bin, pe_not, pe_neg, pe_is, pe_isnot, pe_eq, pe_ne, pe_lt, pe_le, pe_gt, pe_ge, pe_in, pe_notin, pe_bop, pe_ife, pe_list, pe_tup, pe_sub, pe_slice, pe_call, pe_bcall, pe_meth, pe_setd, pe_attr, pes_nil', pes_cons, pr_v, pr_t, bind_ok, bindA_ok, truth_ok, ofB_some, ofRes_ok, ofRes_exc, onL_some, onP_some, plains_nil, plains_cons, pall_and_nil, pall_or_nil, pall_and_cons, pall_or_cons, pbop_one, pbop_and, pbop_or, Option.map_some, List.map_cons, List.map_nil, List.getElem?_cons_zero, List.getElem?_cons_succ, dS_av, dr_none, dr_bool, dr_int, dr_str, dr_type, dr_range, dr_tup, dr_lst, dr_set, List.length_cons, List.length_nil, Bool.not_true, Bool.not_false, Nat.reduceAdd, Nat.reduceLeDiff, if_true, hmax, d0, s2]
      dsimp only [Fs.at, Fs.set, List.set_cons_zero, List.set_cons_succ]
      exact ⟨us.length, by simp, vs ++ [w], us, _, rfl, by rw [← hws]; simp, rfl, hcf.tail⟩
end
end Mine
end
section
open PySem PySem.W PyProof.Rows
namespace Mine
set_option maxRecDepth 100000
set_option linter.unusedSimpArgs false
set_option linter.unusedVariables false
set_option maxHeartbeats 1000000
/-- what the defs answer -/
structure Cals (ld : Bool) (cal : Cal) : Prop where
  row : ∀ (σ : Store) (lo : Nat) (d : Kd) (xs : List Int), xs.length ≤ 1000 → cal σ lo 1 [.lst (xs.map .int), .int d.n] = .ok (.av (wd d (xs.map d.key))) σ
  cat : ∀ (σ : Store) (lo : Nat) (d : Kd) (a : AV) (x y : List Int), deref σ a = wd d x → x.length + y.length ≤ 1000 → cal σ lo 0 [a, wd d y] = .ok (.av (wd d (x ++ y))) σ
  new : ∀ (σ : Store) (lo : Nat) (d : Kd) (x y : List Int), x.length + y.length ≤ 1000 → ∃ v τ, cal σ lo 6 [wd d x, wd d y] = .ok (.av v) (σ ++ τ) ∧ deref (σ ++ τ) v = wd d (x ++ y) ∧ (d = .l → v = .ptr σ.length)
  joined : ∀ (σ : Store) (lo : Nat) (d : Kd) (ws : List (List Int)) (which : Int), ws.length ≤ 64 → ws.flatten.length ≤ 64 → (∀ w ∈ ws, Ly w) → Lts d ws.flatten → (which = 0 ∨ which = -1) → ∃ vs, Cfl vs ∧ vs.flatten = ws.flatten ∧ cal σ lo 2 [.lst (ws.map (wd d)), .int which] = .ok (.av (.lst (vs.map (wd d)))) σ
  cut : ∀ (σ : Store) (lo : Nat) (d : Kd) (ws : List (List Int)), Cfl ws → ws.flatten.length ≤ 64 → ws.length ≤ 64 → Lts d ws.flatten → cal σ lo 3 [wd d ws.flatten] = .ok (.av (.lst (ws.map (wd d)))) σ
  int : ∀ (σ : Store) (lo : Nat) (i : Int), cal σ lo 4 [.int i, .str (PySem.Str.ofString "int")] = .ok (.av (.bool true)) σ
  none : ∀ (σ : Store) (lo : Nat), cal σ lo 4 [.none, .str (PySem.Str.ofString "NoneType")] = .ok (.av (.bool true)) σ
  set : ∀ (σ : Store) (lo : Nat) (l : Bool) (xs : List Int), cal σ lo 4 [.set false l xs, .str (PySem.Str.ofString "set")] = .ok (.av (.bool true)) σ
theorem catC_ok {ld : Bool} {σ : Store} {lo : Nat} {d : Kd} : CatC (cal3 ld) σ lo d := fun x y h => by
  rw [cal3_0, cal2_hit _ _ _ rfl]
  exact concat_run rfl (wd_dr d x σ) (wd_dr d y σ) h
theorem cals_ok (ld : Bool) : Cals ld (cal6 ld) where
  row := fun σ lo d xs h => by
    rw [cal6_1, cal5_1, cal4_1, cal3_1, cal2_1, cal1_hit _ _ _ rfl]
    exact row_run rfl h
  cat := fun σ lo d a x y ha h => by
    rw [cal6_0, cal5_0, cal4_0, cal3_0, cal2_hit _ _ _ rfl]
    exact concat_run rfl ha (wd_dr d y σ) h
  new := fun σ lo d x y h => by
    rw [cal6_6, cal5_6, cal4_6, cal3_hit _ _ _ rfl]
    exact concat_new rfl h
  joined := fun σ lo d ws which h1 h2 h3 h4 h5 => by
    rw [cal6_2, cal5_2, cal4_hit _ _ _ rfl]
    exact joined_run rfl catC_ok h1 h2 h3 h4 h5
  cut := fun σ lo d ws h1 h2 h3 h4 => by
    rw [cal6_3, cal5_hit _ _ _ rfl]
    exact cut_run rfl h1 h2 h3 h4
  int := fun σ lo i => by
    rw [cal6_hit _ _ _ rfl]
    refine refused_run rfl ?_ (by decide)
    rw [cal5_0, cal4_0, cal3_0, cal2_hit _ _ _ rfl]
    exact concat_no (T := "int") rfl rfl rfl rfl rfl (by decide)
  none := fun σ lo => by
    rw [cal6_hit _ _ _ rfl]
    refine refused_run rfl ?_ (by decide)
    rw [cal5_0, cal4_0, cal3_0, cal2_hit _ _ _ rfl]
    exact concat_no (T := "NoneType") rfl rfl rfl rfl rfl (by decide)
  set := fun σ lo l xs => by
    rw [cal6_hit _ _ _ rfl]
    refine refused_run rfl ?_ (by decide)
    rw [cal5_0, cal4_0, cal3_0, cal2_hit _ _ _ rfl]
    exact concat_no (T := "set") rfl rfl rfl rfl rfl (by decide)
noncomputable def lK (fr : FR) : Prop := ∃ σ, fnRes fr = .ok (.av (.bool true)) σ
theorem kd_of (x : Int) : ∃ d : Kd, d.n = x % 4 := by
  have h : x % 4 = 0 ∨ x % 4 = 1 ∨ x % 4 = 2 ∨ x % 4 = 3 := by omega
  rcases h with h | h | h | h
  · exact ⟨.l, h.symm⟩
  · exact ⟨.t, h.symm⟩
  · exact ⟨.s, h.symm⟩
  · exact ⟨.b, h.symm⟩
theorem kd_small (d : Kd) : 0 ≤ d.n ∧ d.n < 32 := by cases d <;> decide
noncomputable def Kd.ty : Kd → String
  | .l => "list"
  | .t => "tuple"
  | .s => "str"
  | .b => "bytes"
theorem wd_isi (d : Kd) (w : List Int) : callB .isinstance [wd d w, .type d.ty] = .ok (.bool true) := by cases d <;> rfl
theorem kd_idx (d : Kd) : opIdx (.lst [.type BI.list.name, .type BI.tuple.name, .type BI.str.name, .type BI.bytes.name]) (.int d.n) = .ok (.type d.ty) := by cases d <;> rfl
section
variable {O : OpsF} {ld : Bool} (hO : O = ops ld) {cal : Cal} (hC : Cals ld cal) {s : List Int} {d : Kd} {ws : List (List Int)}
/-- the law's state -/
noncomputable abbrev wS (s : List Int) (d : Kd) (e2 : Option Ent) (ws : List (List Int)) (e4 e5 e6 e7 e8 : Option Ent) (σ : Store) : Fs := ⟨[some (.val (.lst (s.map .int))), some (.val (.int d.n)), e2, some (.val (.lst (ws.map (wd d)))), e4, e5, e6, e7, e8], σ, 0, 0⟩
noncomputable def wI (s : List Int) (d : Kd) (e2 : Option Ent) (ws : List (List Int)) (st : Fs) : Prop := ∃ e4 e5 e6 e7 e8 σ, st = wS s d e2 ws e4 e5 e6 e7 e8 σ
noncomputable def vI (s : List Int) (d : Kd) (e2 : Option Ent) (ws : List (List Int)) (as : List Int) (e4 e5 e6 : Option Ent) (σ : Store) (j : Nat) (st : Fs) : Prop := ∃ v e8, st = wS s d e2 ws e4 e5 e6 (some (.val v)) e8 σ ∧ deref σ v = wd d (as.map d.key ++ (ws.take j).flatten)
include hO hC
theorem turn {K : FR → Prop} {as : List Int} {e2 e5 e6 e7 e8 : Option Ent} {σ : Store} (hs : s.length ≤ 32) (ha : as.length ≤ 2) (hfl : ws.flatten = (s.drop 1).map d.key) (hlen : ws.length ≤ 64) :
    loopK (wI s d e2 ws) K (pxs O cal true (wS s d e2 ws (some (.val (.lst (as.map .int)))) e5 e6 e7 e8 σ) law_b1) := by
  have tb := w_tb hO
  have ieq := w_ieq hO
  unfold law_b1
  have r1 := hC.row σ 0 d as (by omega)
  have r2 := hC.row σ 0 d [] (by simp)
  have r2 : cal σ 0 1 [.lst [], .int d.n] = .ok (.av (wd d [])) σ := r2
  refine pk_unpack2 (x := wd d (as.map d.key)) (y := wd d []) (σ₁ := σ) (σ := σ) ?_ ?_ ?_
  · simp only [pe_const, pe_name, slotV, pe_glob, pe_bin, pe_not, pe_neg, pe_is, pe_isnot, pe_eq, pe_ne, pe_lt, pe_le, pe_gt, pe_ge, pe_in, pe_notin, pe_bop, pe_ife, pe_list, pe_tup, pe_sub, pe_slice, pe_call, pe_bcall, pe_meth, pe_setd, pe_attr, pes_nil', pes_cons, pr_v, pr_t, bind_ok, bindA_ok, truth_ok, ofB_some, ofRes_ok, ofRes_exc, onL_some, onP_some, plains_nil, plains_cons, pall_and_nil, pall_or_nil, pall_and_cons, pall_or_cons, pbop_one, pbop_and, pbop_or, Option.map_some, List.map_cons, List.map_nil, List.getElem?_cons_zero, List.getElem?_cons_succ, dS_av, dr_none, dr_bool, dr_int, dr_str, dr_type, dr_range, dr_tup, dr_lst, dr_set, List.length_cons, List.length_nil, Bool.not_true, Bool.not_false, Nat.reduceAdd, Nat.reduceLeDiff, if_true, r1]
  · simp only [pe_const, pe_name, slotV, pe_glob, pe_bin, pe_not, pe_neg, pe_is, pe_isnot, pe_eq, pe_ne, pe_lt, pe_le, pe_gt, pe_ge, pe_in, pe_notin, pe_bop, pe_ife, pe_list, pe_tup, pe_sub, pe_slice, pe_call, pe_bcall, pe_meth, pe_setd, pe_attr, pes_nil', pes_cons, pr_v, pr_t, bind_ok, bindA_ok, truth_ok, ofB_some, ofRes_ok, ofRes_exc, onL_some, onP_some, plains_nil, plains_cons, pall_and_nil, pall_or_nil, pall_and_cons, pall_or_cons, pbop_one, pbop_and, pbop_or, Option.map_some, List.map_cons, List.map_nil, List.getElem?_cons_zero, List.getElem?_cons_succ, dS_av, dr_none, dr_bool, dr_int, dr_str, dr_type, dr_range, dr_tup, dr_lst, dr_set, List.length_cons, List.length_nil, Bool.not_true, Bool.not_false, Nat.reduceAdd, Nat.reduceLeDiff, if_true, r2]
  dsimp only [Fs.at, Fs.set, List.set_cons_zero, List.set_cons_succ]
  obtain ⟨v, τ, c1, dv, hv⟩ := hC.new σ 0 d (as.map d.key) [] (by rw [List.length_map]; simp; omega)
  refine pk_assign (v := v) (σ := σ ++ τ) ?_ ?_
  · simp only [pe_const, pe_name, slotV, pe_glob, pe_bin, pe_not, pe_neg, pe_is, pe_isnot, pe_eq, pe_ne, pe_lt, pe_le, pe_gt, pe_ge, pe_in, pe_notin, pe_bop, pe_ife, pe_list, pe_tup, pe_sub, pe_slice, pe_call, pe_bcall, pe_meth, pe_setd, pe_attr, pes_nil', pes_cons, pr_v, pr_t, bind_ok, bindA_ok, truth_ok, ofB_some, ofRes_ok, ofRes_exc, onL_some, onP_some, plains_nil, plains_cons, pall_and_nil, pall_or_nil, pall_and_cons, pall_or_cons, pbop_one, pbop_and, pbop_or, Option.map_some, List.map_cons, List.map_nil, List.getElem?_cons_zero, List.getElem?_cons_succ, dS_av, dr_none, dr_bool, dr_int, dr_str, dr_type, dr_range, dr_tup, dr_lst, dr_set, List.length_cons, List.length_nil, Bool.not_true, Bool.not_false, Nat.reduceAdd, Nat.reduceLeDiff, if_true, c1]
  dsimp only [Fs.at, Fs.set, List.set_cons_zero, List.set_cons_succ]
  rw [List.append_nil] at dv
  clear c1
  generalize hσ : σ ++ τ = σ2 at dv
  have hskip : ∀ e8, (pe O cal true (wS s d e2 ws (some (.val (.lst (as.map .int)))) (some (.val (wd d (as.map d.key)))) (some (.val (wd d []))) (some (.val v)) e8 σ2) (.bop .And (.cons (.cmp .Eq (.name 1) (.const (.int 0))) (.cons (.bop .Or (.cons (.cmp .Is (.name 7) (.name 5)) (.cons (.cmp .Is (.name 7) (.name 6)) .nil))) .nil)))).t = some (false, σ2) := fun e8 => by
    by_cases hd : d = .l
    · have hv' := hv hd
      subst hd
      subst hv'
      have e1 : (Kd.l.n == 0) = true := rfl
      have is1 : ∀ x : List Int, O.is_ (.ptr σ.length) (wd .l x) = some false := fun x => by rw [o_is hO]; rfl
      simp only [pe_const, pe_name, slotV, pe_glob, pe_bin, pe_not, pe_neg, pe_is, pe_isnot, pe_eq, pe_ne, pe_lt, pe_le, pe_gt, pe_ge, pe_in, pe_notin, pe_bop, pe_ife, pe_list, pe_tup, pe_sub, pe_slice, pe_call, pe_bcall, pe_meth, pe_setd, pe_attr, pes_nil', pes_cons, pr_v, pr_t, bind_ok, bindA_ok, truth_ok, ofB_some, ofRes_ok, ofRes_exc, onL_some, onP_some, plains_nil, plains_cons, pall_and_nil, pall_or_nil, pall_and_cons, pall_or_cons, pbop_one, pbop_and, pbop_or, Option.map_some, List.map_cons, List.map_nil, List.getElem?_cons_zero, List.getElem?_cons_succ, dS_av, dr_none, dr_bool, dr_int, dr_str, dr_type, dr_range, dr_tup, dr_lst, dr_set, List.length_cons, List.length_nil, Bool.not_true, Bool.not_false, Nat.reduceAdd, Nat.reduceLeDiff, if_true, ieq, e1, is1, tb]
    · have e1 : (d.n == 0) = false := by cases d <;> first | exact absurd rfl hd | rfl
      simp only [pe_const, pe_name, slotV, pe_glob, pe_bin, pe_not, pe_neg, pe_is, pe_isnot, pe_eq, pe_ne, pe_lt, pe_le, pe_gt, pe_ge, pe_in, pe_notin, pe_bop, pe_ife, pe_list, pe_tup, pe_sub, pe_slice, pe_call, pe_bcall, pe_meth, pe_setd, pe_attr, pes_nil', pes_cons, pr_v, pr_t, bind_ok, bindA_ok, truth_ok, ofB_some, ofRes_ok, ofRes_exc, onL_some, onP_some, plains_nil, plains_cons, pall_and_nil, pall_or_nil, pall_and_cons, pall_or_cons, pbop_one, pbop_and, pbop_or, Option.map_some, List.map_cons, List.map_nil, List.getElem?_cons_zero, List.getElem?_cons_succ, dS_av, dr_none, dr_bool, dr_int, dr_str, dr_type, dr_range, dr_tup, dr_lst, dr_set, List.length_cons, List.length_nil, Bool.not_true, Bool.not_false, Nat.reduceAdd, Nat.reduceLeDiff, if_true, ieq, e1, tb]
  refine pk_skip (σ := σ2) (hskip _) ?_
  dsimp only [Fs.at, Fs.set, List.set_cons_zero, List.set_cons_succ]
  refine pk_for (v := .lst (ws.map (wd d))) (σ := σ2) (vI s d e2 ws as (some (.val (.lst (as.map .int)))) (some (.val (wd d (as.map d.key)))) (some (.val (wd d []))) σ2) ?_ (by rw [o_items hO]; rfl) ⟨v, _, rfl, by simpa using dv⟩ ?_ ?_
  · simp only [pe_const, pe_name, slotV, pe_glob, pe_bin, pe_not, pe_neg, pe_is, pe_isnot, pe_eq, pe_ne, pe_lt, pe_le, pe_gt, pe_ge, pe_in, pe_notin, pe_bop, pe_ife, pe_list, pe_tup, pe_sub, pe_slice, pe_call, pe_bcall, pe_meth, pe_setd, pe_attr, pes_nil', pes_cons, pr_v, pr_t, bind_ok, bindA_ok, truth_ok, ofB_some, ofRes_ok, ofRes_exc, onL_some, onP_some, plains_nil, plains_cons, pall_and_nil, pall_or_nil, pall_and_cons, pall_or_cons, pbop_one, pbop_and, pbop_or, Option.map_some, List.map_cons, List.map_nil, List.getElem?_cons_zero, List.getElem?_cons_succ, dS_av, dr_none, dr_bool, dr_int, dr_str, dr_type, dr_range, dr_tup, dr_lst, dr_set, List.length_cons, List.length_nil, Bool.not_true, Bool.not_false, Nat.reduceAdd, Nat.reduceLeDiff, if_true]
  · rintro j x st hj ⟨u, e8, rfl, hu⟩
    rw [List.getElem?_map] at hj
    have hjl : j < ws.length := by
      rcases Nat.lt_or_ge j ws.length with h | h
      · exact h
      · rw [List.getElem?_eq_none h] at hj; cases hj
    rw [List.getElem?_eq_getElem hjl] at hj
    simp only [Option.map_some, Option.some.injEq] at hj
    subst hj
    have hz : (as.map d.key ++ (ws.take j).flatten).length + ws[j].length ≤ 1000 := by
      have h1 := congrArg List.length hfl
      have h2 := (flat_mem (List.getElem_mem hjl)).1
      have h3 : (ws.take j).flatten.length ≤ ws.flatten.length := by
        have := congrArg (fun l => l.flatten.length) (List.take_append_drop j ws)
        simp only [List.flatten_append, List.length_append] at this
        omega
      simp only [List.length_append, List.length_map, List.length_drop] at h1 ⊢
      omega
    have c2 := hC.cat σ2 0 d u _ ws[j] hu hz
    unfold law_b2
    dsimp only [Fs.at, Fs.set, List.set_cons_zero, List.set_cons_succ]
    refine pk_assign (v := wd d (as.map d.key ++ (ws.take j).flatten ++ ws[j])) (σ := σ2) ?_ (pk_nil ?_)
    · simp only [pe_const, pe_name, slotV, pe_glob, pe_bin, pe_not, pe_neg, pe_is, pe_isnot, pe_eq, pe_ne, pe_lt, pe_le, pe_gt, pe_ge, pe_in, pe_notin, pe_bop, pe_ife, pe_list, pe_tup, pe_sub, pe_slice, pe_call, pe_bcall, pe_meth, pe_setd, pe_attr, pes_nil', pes_cons, pr_v, pr_t, bind_ok, bindA_ok, truth_ok, ofB_some, ofRes_ok, ofRes_exc, onL_some, onP_some, plains_nil, plains_cons, pall_and_nil, pall_or_nil, pall_and_cons, pall_or_cons, pbop_one, pbop_and, pbop_or, Option.map_some, List.map_cons, List.map_nil, List.getElem?_cons_zero, List.getElem?_cons_succ, dS_av, dr_none, dr_bool, dr_int, dr_str, dr_type, dr_range, dr_tup, dr_lst, dr_set, List.length_cons, List.length_nil, Bool.not_true, Bool.not_false, Nat.reduceAdd, Nat.reduceLeDiff, if_true, c2]
    dsimp only [Fs.at, Fs.set, List.set_cons_zero, List.set_cons_succ]
    refine ⟨_, _, rfl, ?_⟩
    rw [wd_dr]
    congr 1
    rw [List.take_add_one, List.getElem?_eq_getElem hjl, List.flatten_append, List.append_assoc]
    simp
  · rintro st ⟨u, e8, rfl, hu⟩
    rw [List.length_map, List.take_length, hfl, ← List.map_append] at hu
    have s1 : O.slice (.lst (s.map .int)) (.int 1) .none .none = .ok (.lst ((s.drop 1).map .int)) := by
      rw [o_slice hO, os_l, List.map_drop]
      exact sl_drop _ 1
    have a1 : O.bin .Add (.lst (as.map .int)) (.lst ((s.drop 1).map .int)) = .ok (.lst ((as ++ s.drop 1).map .int)) := by
      rw [o_bin hO]
      refine (l_add _ _ ?_).trans ?_
      · rw [List.length_map, List.length_map, List.length_drop]; omega
      · rw [List.map_append]
    have r3 := hC.row σ2 0 d (as ++ s.drop 1) (by rw [List.length_append, List.length_drop]; omega)
    have dw := wd_dr d ((as ++ s.drop 1).map d.key) σ2
    have hne : O.cmp .NotEq (wd d ((as ++ s.drop 1).map d.key)) (wd d ((as ++ s.drop 1).map d.key)) = some false := by rw [o_cmp hO]; exact wd_ne d _
    have hisi : O.bcall .isinstance [wd d ((as ++ s.drop 1).map d.key), .type d.ty] = .ok (.bool true) := by rw [o_bcall hO]; exact wd_isi d _
    have hix : O.idx (.lst [.type BI.list.name, .type BI.tuple.name, .type BI.str.name, .type BI.bytes.name]) (.int d.n) = .ok (.type d.ty) := by rw [o_idx hO]; exact kd_idx d
    generalize hw : wd d ((as ++ s.drop 1).map d.key) = w at *
    refine pk_skip (σ := σ2) ?_ (pk_nil ?_)
    · simp only [pe_const, pe_name, slotV, pe_glob, pe_bin, pe_not, pe_neg, pe_is, pe_isnot, pe_eq, pe_ne, pe_lt, pe_le, pe_gt, pe_ge, pe_in, pe_notin, pe_bop, pe_ife, pe_list, pe_tup, pe_sub, pe_slice, pe_call, pe_bcall, pe_meth, pe_setd, pe_attr, pes_nil', pes_cons, pr_v, pr_t, bind_ok, bindA_ok, truth_ok, ofB_some, ofRes_ok, ofRes_exc, onL_some, onP_some, plains_nil, plains_cons, pall_and_nil, pall_or_nil, pall_and_cons, pall_or_cons, pbop_one, pbop_and, pbop_or, Option.map_some, List.map_cons, List.map_nil, List.getElem?_cons_zero, List.getElem?_cons_succ, dS_av, dr_none, dr_bool, dr_int, dr_str, dr_type, dr_range, dr_tup, dr_lst, dr_set, List.length_cons, List.length_nil, Bool.not_true, Bool.not_false, Nat.reduceAdd, Nat.reduceLeDiff, if_true, s1, a1, r3, hu, dw, hne, hix, hisi, tb]
    · exact ⟨_, _, _, _, _, _, rfl⟩
theorem law_run {script : List Int} (hz : script.length ≤ 63) : lK (pxs O cal true ⟨[some (.val (.lst (script.map .int))), none, none, none, none, none, none, none, none], [], 0, 0⟩ law_p) := by
  have tb := w_tb hO
  unfold law_p
  have s0 : O.slice (.lst (script.map .int)) .none (.int 32) .none = .ok (.lst ((script.take 32).map .int)) := by
    rw [o_slice hO, os_l, List.map_take]
    exact sl_take _ 32
  refine pk_assign (v := .lst ((script.take 32).map .int)) (σ := []) ?_ ?_
  · simp only [pe_const, pe_name, slotV, pe_glob, pe_bin, pe_not, pe_neg, pe_is, pe_isnot, pe_eq, pe_ne, pe_lt, pe_le, pe_gt, pe_ge, pe_in, pe_notin, pe_bop, pe_ife, pe_list, pe_tup, pe_sub, pe_slice, pe_call, pe_bcall, pe_meth, pe_setd, pe_attr, pes_nil', pes_cons, pr_v, pr_t, bind_ok, bindA_ok, truth_ok, ofB_some, ofRes_ok, ofRes_exc, onL_some, onP_some, plains_nil, plains_cons, pall_and_nil, pall_or_nil, pall_and_cons, pall_or_cons, pbop_one, pbop_and, pbop_or, Option.map_some, List.map_cons, List.map_nil, List.getElem?_cons_zero, List.getElem?_cons_succ, dS_av, dr_none, dr_bool, dr_int, dr_str, dr_type, dr_range, dr_tup, dr_lst, dr_set, List.length_cons, List.length_nil, Bool.not_true, Bool.not_false, Nat.reduceAdd, Nat.reduceLeDiff, if_true, s0]
  dsimp only [Fs.at, Fs.set, List.set_cons_zero, List.set_cons_succ]
  have hs : (script.take 32).length ≤ 32 := by rw [List.length_take]; omega
  generalize script.take 32 = s at hs
  clear s0
  -- the kind
  obtain ⟨d, hd⟩ : ∃ d : Kd, (pe O cal true ⟨[some (.val (.lst (s.map .int))), none, none, none, none, none, none, none, none], [], 0, 0⟩ (.ife (.name 0) (.bin .Mod (.sub (.name 0) (.const (.int 0))) (.const (.int 4))) (.const (.int 0)))).v = .ok (.av (.int d.n)) [] := by
    have tl : ∀ l : List AV, O.truth (.lst l) = some (!l.isEmpty) := fun l => by rw [o_truth hO]; rfl
    cases s with
    | nil =>
      refine ⟨.l, ?_⟩
      have t0 : O.truth (.lst []) = some false := tl _
      simp only [pe_const, pe_name, slotV, pe_glob, pe_bin, pe_not, pe_neg, pe_is, pe_isnot, pe_eq, pe_ne, pe_lt, pe_le, pe_gt, pe_ge, pe_in, pe_notin, pe_bop, pe_ife, pe_list, pe_tup, pe_sub, pe_slice, pe_call, pe_bcall, pe_meth, pe_setd, pe_attr, pes_nil', pes_cons, pr_v, pr_t, bind_ok, bindA_ok, truth_ok, ofB_some, ofRes_ok, ofRes_exc, onL_some, onP_some, plains_nil, plains_cons, pall_and_nil, pall_or_nil, pall_and_cons, pall_or_cons, pbop_one, pbop_and, pbop_or, Option.map_some, List.map_cons, List.map_nil, List.getElem?_cons_zero, List.getElem?_cons_succ, dS_av, dr_none, dr_bool, dr_int, dr_str, dr_type, dr_range, dr_tup, dr_lst, dr_set, List.length_cons, List.length_nil, Bool.not_true, Bool.not_false, Nat.reduceAdd, Nat.reduceLeDiff, if_true, t0]
      rfl
    | cons x s =>
      obtain ⟨d, hd⟩ := kd_of x
      refine ⟨d, ?_⟩
      have t0 : O.truth (.lst (AV.int x :: s.map AV.int)) = some true := tl _
      have i0 : O.idx (.lst (AV.int x :: s.map AV.int)) (.int 0) = .ok (.int x) := by rw [o_idx hO]; rfl
      have m0 := w_mod hO x 4 (by omega)
      rw [hd]
      simp only [pe_const, pe_name, slotV, pe_glob, pe_bin, pe_not, pe_neg, pe_is, pe_isnot, pe_eq, pe_ne, pe_lt, pe_le, pe_gt, pe_ge, pe_in, pe_notin, pe_bop, pe_ife, pe_list, pe_tup, pe_sub, pe_slice, pe_call, pe_bcall, pe_meth, pe_setd, pe_attr, pes_nil', pes_cons, pr_v, pr_t, bind_ok, bindA_ok, truth_ok, ofB_some, ofRes_ok, ofRes_exc, onL_some, onP_some, plains_nil, plains_cons, pall_and_nil, pall_or_nil, pall_and_cons, pall_or_cons, pbop_one, pbop_and, pbop_or, Option.map_some, List.map_cons, List.map_nil, List.getElem?_cons_zero, List.getElem?_cons_succ, dS_av, dr_none, dr_bool, dr_int, dr_str, dr_type, dr_range, dr_tup, dr_lst, dr_set, List.length_cons, List.length_nil, Bool.not_true, Bool.not_false, Nat.reduceAdd, Nat.reduceLeDiff, if_true, t0, i0, m0]
  refine pk_assign hd ?_
  dsimp only [Fs.at, Fs.set, List.set_cons_zero, List.set_cons_succ]
  clear hd
  -- what is refused
  have k1 := hC.int [] 0 d.n
  have k2 := hC.none [] 0
  have k3 := hC.set [] 0 O.ld [d.n]
  have ks := kd_small d
  refine pk_skip (σ := []) ?_ ?_
  · simp only [pe_const, pe_name, slotV, pe_glob, pe_bin, pe_not, pe_neg, pe_is, pe_isnot, pe_eq, pe_ne, pe_lt, pe_le, pe_gt, pe_ge, pe_in, pe_notin, pe_bop, pe_ife, pe_list, pe_tup, pe_sub, pe_slice, pe_call, pe_bcall, pe_meth, pe_setd, pe_attr, pes_nil', pes_cons, pr_v, pr_t, bind_ok, bindA_ok, truth_ok, ofB_some, ofRes_ok, ofRes_exc, onL_some, onP_some, plains_nil, plains_cons, pall_and_nil, pall_or_nil, pall_and_cons, pall_or_cons, pbop_one, pbop_and, pbop_or, Option.map_some, List.map_cons, List.map_nil, List.getElem?_cons_zero, List.getElem?_cons_succ, dS_av, dr_none, dr_bool, dr_int, dr_str, dr_type, dr_range, dr_tup, dr_lst, dr_set, List.length_cons, List.length_nil, Bool.not_true, Bool.not_false, Nat.reduceAdd, Nat.reduceLeDiff, if_true, k1, k2, k3, ks, tb]
    simp only [ks, and_self, if_true]
    simp only [pe_const, pe_name, slotV, pe_glob, pe_bin, pe_not, pe_neg, pe_is, pe_isnot, pe_eq, pe_ne, pe_lt, pe_le, pe_gt, pe_ge, pe_in, pe_notin, pe_bop, pe_ife, pe_list, pe_tup, pe_sub, pe_slice, pe_call, pe_bcall, pe_meth, pe_setd, pe_attr, pes_nil', pes_cons, pr_v, pr_t, bind_ok, bindA_ok, truth_ok, ofB_some, ofRes_ok, ofRes_exc, onL_some, onP_some, plains_nil, plains_cons, pall_and_nil, pall_or_nil, pall_and_cons, pall_or_cons, pbop_one, pbop_and, pbop_or, Option.map_some, List.map_cons, List.map_nil, List.getElem?_cons_zero, List.getElem?_cons_succ, dS_av, dr_none, dr_bool, dr_int, dr_str, dr_type, dr_range, dr_tup, dr_lst, dr_set, List.length_cons, List.length_nil, Bool.not_true, Bool.not_false, Nat.reduceAdd, Nat.reduceLeDiff, if_true, k3, tb]
  dsimp only [Fs.at, Fs.set, List.set_cons_zero, List.set_cons_succ]
  clear k1 k2 k3
  -- the words
  have s1 : O.slice (.lst (s.map .int)) (.int 1) .none .none = .ok (.lst ((s.drop 1).map .int)) := by
    rw [o_slice hO, os_l, List.map_drop]
    exact sl_drop _ 1
  have hcomp : (pe O cal true ⟨[some (.val (.lst (s.map .int))), some (.val (.int d.n)), none, none, none, none, none, none, none], [], 0, 0⟩ (.comp [1] (.call 1 (.cons (.list (.cons (.name 9) .nil)) (.cons (.name 1) .nil))) (.slice (.name 0) (.const (.int 1)) (.const .none) (.const .none)) (.nil))).v
      = .ok (.av (.lst ((((s.drop 1).map d.key).map fun x => [x]).map (wd d)))) [] := by
    rw [pe_comp (a := .av (.lst ((s.drop 1).map .int))) (σ₁ := []) (l := (s.drop 1).map .int) (ys := (s.drop 1).map fun x => wd d [d.key x])]
    · rw [List.map_map, List.map_map]; rfl
    · simp only [pe_const, pe_name, slotV, pe_glob, pe_bin, pe_not, pe_neg, pe_is, pe_isnot, pe_eq, pe_ne, pe_lt, pe_le, pe_gt, pe_ge, pe_in, pe_notin, pe_bop, pe_ife, pe_list, pe_tup, pe_sub, pe_slice, pe_call, pe_bcall, pe_meth, pe_setd, pe_attr, pes_nil', pes_cons, pr_v, pr_t, bind_ok, bindA_ok, truth_ok, ofB_some, ofRes_ok, ofRes_exc, onL_some, onP_some, plains_nil, plains_cons, pall_and_nil, pall_or_nil, pall_and_cons, pall_or_cons, pbop_one, pbop_and, pbop_or, Option.map_some, List.map_cons, List.map_nil, List.getElem?_cons_zero, List.getElem?_cons_succ, dS_av, dr_none, dr_bool, dr_int, dr_str, dr_type, dr_range, dr_tup, dr_lst, dr_set, List.length_cons, List.length_nil, Bool.not_true, Bool.not_false, Nat.reduceAdd, Nat.reduceLeDiff, if_true, s1]
    · rw [o_items hO]; rfl
    · refine mapF_map fun x _ => ?_
      rw [pall_and_nil]
      refine compF_t (σ' := []) ?_ rfl
      have hi : Fs.inner (Fs.at ⟨[some (.val (.lst (s.map .int))), some (.val (.int d.n)), none, none, none, none, none, none, none], [], 0, 0⟩ []) [1] (.int x) = ⟨[none, some (.val (.int d.n)), none, none, none, none, none, none, none, some (.val (.int x))], [], 0, 0⟩ := by simp [Fs.inner, mask]
      rw [hi]
      have r1 : cal [] 0 1 [.lst [.int x], .int d.n] = .ok (.av (wd d [d.key x])) [] := hC.row [] 0 d [x] (by simp)
      simp only [pe_const, pe_name, slotV, pe_glob, pe_bin, pe_not, pe_neg, pe_is, pe_isnot, pe_eq, pe_ne, pe_lt, pe_le, pe_gt, pe_ge, pe_in, pe_notin, pe_bop, pe_ife, pe_list, pe_tup, pe_sub, pe_slice, pe_call, pe_bcall, pe_meth, pe_setd, pe_attr, pes_nil', pes_cons, pr_v, pr_t, bind_ok, bindA_ok, truth_ok, ofB_some, ofRes_ok, ofRes_exc, onL_some, onP_some, plains_nil, plains_cons, pall_and_nil, pall_or_nil, pall_and_cons, pall_or_cons, pbop_one, pbop_and, pbop_or, Option.map_some, List.map_cons, List.map_nil, List.getElem?_cons_zero, List.getElem?_cons_succ, dS_av, dr_none, dr_bool, dr_int, dr_str, dr_type, dr_range, dr_tup, dr_lst, dr_set, List.length_cons, List.length_nil, Bool.not_true, Bool.not_false, Nat.reduceAdd, Nat.reduceLeDiff, if_true, r1]
  refine pk_assign hcomp ?_
  dsimp only [Fs.at, Fs.set, List.set_cons_zero, List.set_cons_succ]
  clear hcomp
  -- the row
  have hrl : ((s.drop 1).map d.key).length ≤ 64 := by rw [List.length_map, List.length_drop]; omega
  have hlt : Lts d ((s.drop 1).map d.key) := fun x hx => by
    obtain ⟨y, _, rfl⟩ := List.mem_map.mp hx
    exact d.key_ok y
  have hone : (((s.drop 1).map d.key).map fun x => [x]).flatten = (s.drop 1).map d.key := by
    generalize (s.drop 1).map d.key = r
    induction r with
    | nil => rfl
    | cons a r ih => rw [List.map_cons, List.flatten_cons, ih]; rfl
  have hly : ∀ w ∈ ((s.drop 1).map d.key).map fun x => [x], Ly w := fun w hw => by
    obtain ⟨y, _, rfl⟩ := List.mem_map.mp hw
    exact Ly.one y
  have r1 := hC.row [] 0 d (s.drop 1) (by rw [List.length_drop]; omega)
  obtain ⟨vs, hcf, hfl, j1⟩ := hC.joined [] 0 d (((s.drop 1).map d.key).map fun x => [x]) 0 (by rw [List.length_map]; exact hrl) (by rw [hone]; exact hrl) hly (by rw [hone]; exact hlt) (.inl rfl)
  obtain ⟨us, hcu, hfu, j2⟩ := hC.joined [] 0 d (((s.drop 1).map d.key).map fun x => [x]) (-1) (by rw [List.length_map]; exact hrl) (by rw [hone]; exact hrl) hly (by rw [hone]; exact hlt) (.inr rfl)
  have huv : us = vs := Cfl.uniq hcu hcf (hfu.trans hfl.symm)
  subst huv
  rw [hone] at hfl
  have hul : us.length ≤ 64 := by
    have : us.length ≤ us.flatten.length := by
      have hp : ∀ w ∈ us, 0 < w.length := fun w hw => List.length_pos_iff.mpr (hcf.1 w hw).1
      clear j1 j2 hcf hcu hfl hfu
      induction us with
      | nil => simp
      | cons w us ih =>
        have h1 := ih fun w hw => hp w (List.mem_cons_of_mem _ hw)
        have h2 := hp w (List.mem_cons_self ..)
        rw [List.flatten_cons, List.length_append, List.length_cons]; omega
    rw [hfl] at this; omega
  have k1 := hC.cut [] 0 d us hcf (by rw [hfl]; exact hrl) hul (by rw [hfl]; exact hlt)
  rw [hfl] at k1
  refine pk_assign (v := .lst (us.map (wd d))) (σ := []) ?_ ?_
  · simp only [pe_const, pe_name, slotV, pe_glob, pe_bin, pe_not, pe_neg, pe_is, pe_isnot, pe_eq, pe_ne, pe_lt, pe_le, pe_gt, pe_ge, pe_in, pe_notin, pe_bop, pe_ife, pe_list, pe_tup, pe_sub, pe_slice, pe_call, pe_bcall, pe_meth, pe_setd, pe_attr, pes_nil', pes_cons, pr_v, pr_t, bind_ok, bindA_ok, truth_ok, ofB_some, ofRes_ok, ofRes_exc, onL_some, onP_some, plains_nil, plains_cons, pall_and_nil, pall_or_nil, pall_and_cons, pall_or_cons, pbop_one, pbop_and, pbop_or, Option.map_some, List.map_cons, List.map_nil, List.getElem?_cons_zero, List.getElem?_cons_succ, dS_av, dr_none, dr_bool, dr_int, dr_str, dr_type, dr_range, dr_tup, dr_lst, dr_set, List.length_cons, List.length_nil, Bool.not_true, Bool.not_false, Nat.reduceAdd, Nat.reduceLeDiff, if_true, s1, r1, k1]
  dsimp only [Fs.at, Fs.set, List.set_cons_zero, List.set_cons_succ]
  clear k1 r1
  have un : ∀ a : Int, O.un .USub (.int a) = .ok (.int (-a)) := fun a => by rw [o_un hO]; rfl
  have hne : O.cmp .NotEq (.lst (us.map (wd d))) (.lst (us.map (wd d))) = some false := by rw [o_cmp hO]; exact wds_ne d us
  refine pk_skip (σ := []) ?_ ?_
  · simp only [pe_const, pe_name, slotV, pe_glob, pe_bin, pe_not, pe_neg, pe_is, pe_isnot, pe_eq, pe_ne, pe_lt, pe_le, pe_gt, pe_ge, pe_in, pe_notin, pe_bop, pe_ife, pe_list, pe_tup, pe_sub, pe_slice, pe_call, pe_bcall, pe_meth, pe_setd, pe_attr, pes_nil', pes_cons, pr_v, pr_t, bind_ok, bindA_ok, truth_ok, ofB_some, ofRes_ok, ofRes_exc, onL_some, onP_some, plains_nil, plains_cons, pall_and_nil, pall_or_nil, pall_and_cons, pall_or_cons, pbop_one, pbop_and, pbop_or, Option.map_some, List.map_cons, List.map_nil, List.getElem?_cons_zero, List.getElem?_cons_succ, dS_av, dr_none, dr_bool, dr_int, dr_str, dr_type, dr_range, dr_tup, dr_lst, dr_set, List.length_cons, List.length_nil, Bool.not_true, Bool.not_false, Nat.reduceAdd, Nat.reduceLeDiff, if_true, j1, j2, un, hne, tb]
  dsimp only [Fs.at, Fs.set, List.set_cons_zero, List.set_cons_succ]
  clear j1 j2
  refine pk_for (v := .lst [.lst (List.map AV.int []), .lst (List.map AV.int [7, 7])]) (σ := []) (fun _ st => wI s d _ us st) ?_ (by rw [o_items hO]; rfl) ⟨_, _, _, _, _, _, rfl⟩ ?_ ?_
  · simp only [pe_const, pe_name, slotV, pe_glob, pe_bin, pe_not, pe_neg, pe_is, pe_isnot, pe_eq, pe_ne, pe_lt, pe_le, pe_gt, pe_ge, pe_in, pe_notin, pe_bop, pe_ife, pe_list, pe_tup, pe_sub, pe_slice, pe_call, pe_bcall, pe_meth, pe_setd, pe_attr, pes_nil', pes_cons, pr_v, pr_t, bind_ok, bindA_ok, truth_ok, ofB_some, ofRes_ok, ofRes_exc, onL_some, onP_some, plains_nil, plains_cons, pall_and_nil, pall_or_nil, pall_and_cons, pall_or_cons, pbop_one, pbop_and, pbop_or, Option.map_some, List.map_cons, List.map_nil, List.getElem?_cons_zero, List.getElem?_cons_succ, dS_av, dr_none, dr_bool, dr_int, dr_str, dr_type, dr_range, dr_tup, dr_lst, dr_set, List.length_cons, List.length_nil, Bool.not_true, Bool.not_false, Nat.reduceAdd, Nat.reduceLeDiff, if_true]
  · rintro j x st hj ⟨e4, e5, e6, e7, e8, σ, rfl⟩
    rcases j with _ | _ | j
    · simp only [List.getElem?_cons_zero, Option.some.injEq] at hj
      subst hj
      exact turn hO hC (as := []) hs (by simp) hfl hul
    · simp only [List.getElem?_cons_succ, List.getElem?_cons_zero, Option.some.injEq] at hj
      subst hj
      exact turn hO hC (as := [7, 7]) hs (by simp) hfl hul
    · simp at hj
  · rintro st ⟨e4, e5, e6, e7, e8, σ, rfl⟩
    refine pk_ret (v := .bool true) (σ := σ) ?_ ⟨σ, rfl⟩
    simp only [pe_const, pe_name, slotV, pe_glob, pe_bin, pe_not, pe_neg, pe_is, pe_isnot, pe_eq, pe_ne, pe_lt, pe_le, pe_gt, pe_ge, pe_in, pe_notin, pe_bop, pe_ife, pe_list, pe_tup, pe_sub, pe_slice, pe_call, pe_bcall, pe_meth, pe_setd, pe_attr, pes_nil', pes_cons, pr_v, pr_t, bind_ok, bindA_ok, truth_ok, ofB_some, ofRes_ok, ofRes_exc, onL_some, onP_some, plains_nil, plains_cons, pall_and_nil, pall_or_nil, pall_and_cons, pall_or_cons, pbop_one, pbop_and, pbop_or, Option.map_some, List.map_cons, List.map_nil, List.getElem?_cons_zero, List.getElem?_cons_succ, dS_av, dr_none, dr_bool, dr_int, dr_str, dr_type, dr_range, dr_tup, dr_lst, dr_set, List.length_cons, List.length_nil, Bool.not_true, Bool.not_false, Nat.reduceAdd, Nat.reduceLeDiff, if_true]
end
theorem law_true (ns : List Int) (h : ns.length ≤ 63) : ∀ ld, ∃ σ, lawRes ld ns = .ok (.av (.bool true)) σ := fun ld => law_run (O := ops ld) rfl (cal := cal6 ld) (cals_ok ld) h
end Mine
end
section
open PySem PySem.W PyProof.Rows
set_option Elab.async false
set_option maxRecDepth 100000
namespace Mine
noncomputable def viewP : Program := { PySem.Challenge.pw_dm0221_05 with main := { PySem.Challenge.pw_dm0221_05.main with body := PySem.Challenge.pw_dm0221_05.main.body.drop 0 } }
noncomputable def looseP : List Str := []
noncomputable def hookP : Hook := Hook.none
theorem law_said : PySem.Challenge.rw_dm0221_05.wellSaid = true := by decide +kernel
theorem law_left : LeftO PySem.Challenge.pw_dm0221_05 viewP looseP (fun s => xlAt viewP [] s && recOk (RowW.records (OpenRow.toRowW (OpenLaw.row PySem.Challenge.rw_dm0221_05))) s) (Hook.obs hookP) (Hook.val hookP) 880 := by
  intro w
  kernel_rfl
end Mine
set_option maxRecDepth 100000 in
set_option maxHeartbeats 8000000 in
theorem PySem.Challenge.cw_dm0221_05_holds : PySem.Challenge.rw_dm0221_05.Holds := by
  w_on
  refine holds_law Mine.law_said fun said => ?_
  refine holds_open (q := Mine.viewP) (loose := Mine.looseP) (Xt := fun s => xlAt Mine.viewP [] s && recOk (RowW.records (OpenRow.toRowW (OpenLaw.row PySem.Challenge.rw_dm0221_05))) s) (XP := XL Mine.viewP []) (Yf := Hook.obs Mine.hookP) (Ya := Hook.val Mine.hookP) (YP := Hook.says Mine.hookP) (N := 880) Mine.law_left (Hook.of Mine.hookP) (Hook.keeps Mine.hookP) (fun s e => xl_of s (Bool.and_eq_true_iff.mp e).1) XL.keeps (by rfl) (by rfl) (by rfl) (fun s e => recFacts_of (Bool.and_eq_true_iff.mp e).2) (by rfl) (by first | assumption | decide +kernel) (by decide +kernel) ⟨rfl, rfl, rfl, rfl, rfl, by decide +kernel⟩ ?hw ?hc
  (case hw => w_witness2)
  intro w s₀ s₁ mg mb G Y fa o pm cd doc dV kV ho hd hcd hD hmg hg args vals as hpre hlay hrd hwl hlo
  skip
  refine Ground.open G ?_
  intro T B D TE TW
  try (refine guard_noD D (by decide +kernel) ?_; clear D)
  wrow_args hpre hlay hrd hwl hlo
  refine enter_call ?_
  w_top on
  try refine codeAny_mono ?_ (fun _ _ g => GoodW.toG g)
  rename_i hL _ w1 _ hI _ hlen _
  clear hd hD ho hcd
  have hn := Int.not_lt.mp hlen
  have hl := Mine.isL_of_well hL w1 rfl
  refine Mine.law_code T (by decide +kernel) (Mine.law_true _ (by omega)) (by omega) hl hI hmg fun s' h1 h2 h3 => ?_
  refine ⟨.inl ⟨_, .bool true, [], rfl, fun cls => rfl, .bool true, ?_, fun _ => ⟨List.nodup_nil, fun a ha => by cases ha⟩⟩, h1, h2, h3.trans hg⟩
  wrow_post
end
