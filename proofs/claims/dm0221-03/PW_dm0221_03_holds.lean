import PyProof.Rows.All
import Wide.All
import OpenK.AllK
import Wide.FinOn
import KE.BitLaws
import PySem.Challenge.RW_dm0221_03
set_option Elab.async false
set_option linter.all false
section
open PySem PySem.W PyProof.Rows
namespace Mine

/-- kinds of iterators -/
inductive IK where
  | list | tuple | range
deriving DecidableEq, Inhabited

/-- plain values -/
inductive AV where
  | none
  | bool (b : Bool)
  | int (i : Int)
  | float (x : UInt64)
  | str (s : Str)
  | bytes (b : Array UInt8)
  | type (n : String)
  | range (a b s : Int)
  | tup (xs : List AV)
  | lst (xs : List AV)
  | set (fz : Bool) (xs : List Int)
  | ptr (n : Nat)
  | itr (k : IK) (xs : List AV)
  | fn (id : String)
  | dict (n : Nat)
  | any
deriving Inhabited

/-- what can turn -/
inductive MO where
  | lst (xs : List AV)
  | itr (k : IK) (xs : List AV)
  | set (xs : List Int)
deriving Inhabited

/-- what is seen -/
structure Vw where
  r : Addr → Value → Data → Prop
  m : Nat → Option Addr
structure Vw.Le (R R' : Vw) : Prop where
  r : ∀ a c d, R.r a c d → R'.r a c d
  m : ∀ n a, R.m n = some a → R'.m n = some a
theorem Vw.Le.refl (R : Vw) : R.Le R := ⟨fun _ _ _ h => h, fun _ _ h => h⟩
theorem Vw.Le.trans {R R' R'' : Vw} (a : R.Le R') (b : R'.Le R'') : R.Le R'' := ⟨fun _ _ _ h => b.r _ _ _ (a.r _ _ _ h), fun _ _ h => b.m _ _ (a.m _ _ h)⟩

noncomputable def setName (fz : Bool) : String := if fz = true then "frozenset" else "set"
/-- a set's row of ints -/
noncomputable def SetEs (es : Array (Int × Value)) (t : SetTable) (xs : List Int) : Prop :=
  xs.Pairwise (· < ·) ∧ (∀ e ∈ es.toList, ∃ i tk, e = (hashInt i, Value.int i tk)) ∧ (es.toList.map fun e => e.2).length = xs.length ∧ (∀ i, i ∈ xs ↔ ∃ tk, (hashInt i, Value.int i tk) ∈ es.toList) ∧ es.size < scanBound ∧ t.fits es.size = true

mutual
noncomputable def Rep (R : Vw) : Value → AV → Prop
  | v, .none => v = .none
  | v, .bool b => v = .bool b
  | v, .int i => ∃ t, v = .int i t
  | v, .float x => ∃ t, v = .float x t
  | v, .str s => ∃ t, v = .str s t
  | v, .bytes b => ∃ t, v = .bytes b t
  | v, .type n => v = .type n
  | v, .fn n => v = .builtin n
  | _, .any => True
  | v, .dict n => ∃ a es ep, v = .ref a ∧ R.r a (.type "dict") (.dict es ep) ∧ es.size = n
  | v, .ptr n => ∃ a, R.m n = some a ∧ v = .ref a
  | _, .itr _ _ => False
  | v, .range a b s => ∃ r ta tb ts, v = .ref r ∧ R.r r (.type "range") (.fields #[.int a ta, .int b tb, .int s ts])
  | v, .set fz xs => ∃ a es ep t, v = .ref a ∧ R.r a (.type (setName fz)) (.set es ep t) ∧ SetEs es t xs
  | v, .tup xs => xs.length ≤ 1048576 ∧ ∃ a vs n, v = .ref a ∧ R.r a (.type "tuple") (.seq (List.toArray vs) n) ∧ RepL R vs xs
  | v, .lst xs => xs.length ≤ 1048576 ∧ ∃ a vs n, v = .ref a ∧ R.r a (.type "list") (.seq (List.toArray vs) n) ∧ RepL R vs xs
noncomputable def RepL (R : Vw) : List Value → List AV → Prop
  | [], [] => True
  | v :: vs, x :: xs => Rep R v x ∧ RepL R vs xs
  | [], _ :: _ => False
  | _ :: _, [] => False
end

mutual
theorem Rep.mono {R R' : Vw} (h : R.Le R') : ∀ {x : AV} {v : Value}, Rep R v x → Rep R' v x
  | .none, _, r => by simpa [Rep] using r
  | .bool _, _, r => by simpa [Rep] using r
  | .int _, _, r => by simpa [Rep] using r
  | .float _, _, r => by simpa [Rep] using r
  | .str _, _, r => by simpa [Rep] using r
  | .bytes _, _, r => by simpa [Rep] using r
  | .type _, _, r => by simpa [Rep] using r
  | .fn _, _, r => by simpa [Rep] using r
  | .any, _, _ => by simp [Rep]
  | .dict _, _, r => by
    simp only [Rep] at r ⊢
    obtain ⟨a, es, ep, e, k, q⟩ := r
    exact ⟨a, es, ep, e, h.r _ _ _ k, q⟩
  | .itr _ _, _, r => by simp [Rep] at r
  | .ptr _, _, r => by
    simp only [Rep] at r ⊢
    obtain ⟨a, e, q⟩ := r
    exact ⟨a, h.m _ _ e, q⟩
  | .range _ _ _, _, r => by
    simp only [Rep] at r ⊢
    obtain ⟨r, ta, tb, ts, e, k⟩ := r
    exact ⟨r, ta, tb, ts, e, h.r _ _ _ k⟩
  | .set _ _, _, r => by
    simp only [Rep] at r ⊢
    obtain ⟨a, es, ep, t, e, k, q⟩ := r
    exact ⟨a, es, ep, t, e, h.r _ _ _ k, q⟩
  | .tup xs, _, r => by
    simp only [Rep] at r ⊢
    obtain ⟨z, a, vs, n, e, k, l⟩ := r
    exact ⟨z, a, vs, n, e, h.r _ _ _ k, RepL.mono h l⟩
  | .lst xs, _, r => by
    simp only [Rep] at r ⊢
    obtain ⟨z, a, vs, n, e, k, l⟩ := r
    exact ⟨z, a, vs, n, e, h.r _ _ _ k, RepL.mono h l⟩
theorem RepL.mono {R R' : Vw} (h : R.Le R') : ∀ {xs : List AV} {vs : List Value}, RepL R vs xs → RepL R' vs xs
  | [], [], _ => by simp [RepL]
  | [], _ :: _, r => by simp [RepL] at r
  | _ :: _, [], r => by simp [RepL] at r
  | x :: xs, v :: vs, r => by
    simp only [RepL] at r ⊢
    exact ⟨Rep.mono h r.1, RepL.mono h r.2⟩
end

theorem RepL.length {R : Vw} : ∀ {xs : List AV} {vs : List Value}, RepL R vs xs → vs.length = xs.length
  | [], [], _ => rfl
  | [], _ :: _, r => by simp [RepL] at r
  | _ :: _, [], r => by simp [RepL] at r
  | x :: xs, v :: vs, r => by
    simp only [RepL] at r
    simp [RepL.length r.2]
theorem RepL.get {R : Vw} : ∀ {xs : List AV} {vs : List Value} {i : Nat} {x : AV}, RepL R vs xs → xs[i]? = some x → ∃ v, vs[i]? = some v ∧ Rep R v x
  | [], _, _, _, _, h => by simp at h
  | _ :: _, [], _, _, r, _ => by simp [RepL] at r
  | x :: xs, v :: vs, i, y, r, h => by
    simp only [RepL] at r
    cases i with
    | zero => simp at h; subst h; exact ⟨v, by simp, r.1⟩
    | succ i => simp at h ⊢; exact RepL.get r.2 h
theorem RepL.append {R : Vw} : ∀ {xs ys : List AV} {vs ws : List Value}, RepL R vs xs → RepL R ws ys → RepL R (vs ++ ws) (xs ++ ys)
  | [], _, [], _, _, r => by simpa using r
  | [], _, _ :: _, _, r, _ => by simp [RepL] at r
  | _ :: _, _, [], _, r, _ => by simp [RepL] at r
  | x :: xs, ys, v :: vs, ws, r, q => by
    simp only [RepL, List.cons_append] at r ⊢
    exact ⟨r.1, RepL.append r.2 q⟩
theorem RepL.drop {R : Vw} : ∀ {xs : List AV} {vs : List Value} (n : Nat), RepL R vs xs → RepL R (vs.drop n) (xs.drop n)
  | _, _, 0, r => by simpa using r
  | [], [], _ + 1, _ => by simp [RepL]
  | [], _ :: _, _, r => by simp [RepL] at r
  | _ :: _, [], _, r => by simp [RepL] at r
  | x :: xs, v :: vs, n + 1, r => by
    simp only [RepL] at r
    simpa using RepL.drop n r.2
theorem RepL.set {R : Vw} {x : AV} {v : Value} (q : Rep R v x) : ∀ {xs : List AV} {vs : List Value} (n : Nat), RepL R vs xs → RepL R (vs.set n v) (xs.set n x)
  | [], [], _, _ => by simp [RepL]
  | [], _ :: _, _, r => by simp [RepL] at r
  | _ :: _, [], _, r => by simp [RepL] at r
  | y :: xs, w :: vs, 0, r => by
    simp only [RepL] at r
    simp only [List.set_cons_zero, RepL]
    exact ⟨q, r.2⟩
  | y :: xs, w :: vs, n + 1, r => by
    simp only [RepL] at r
    simp only [List.set_cons_succ, RepL]
    exact ⟨r.1, RepL.set q n r.2⟩

/-- what is hidden, and the things that can turn, by number -/
structure Hd where
  p : Addr → Prop
  m : Nat → Option Addr
  o : Nat → Option Addr
noncomputable def Hd.add (H : Hd) (q : Addr → Prop) : Hd := ⟨fun b => H.p b ∨ q b, H.m, H.o⟩

noncomputable def okC (c : Value) : Prop := c = .type "list" ∨ c = .type "tuple" ∨ c = .type "range" ∨ c = .type "set" ∨ c = .type "frozenset" ∨ c = .type "dict"
noncomputable def vis (h : Heap) (H : Hd) : Vw := ⟨fun a c d => ¬ H.p a ∧ ∃ o, h.get? a = some o ∧ o.cls = c ∧ o.data = d ∧ o.dict = none ∧ okC c ∧ ((∃ fs, d = .fields fs) → o.slots = #[]), H.m⟩
/-- a list's object -/
noncomputable def IsL (h : Heap) (a : Addr) (vs : List Value) : Prop := ∃ o n, h.get? a = some o ∧ o.cls = .type "list" ∧ o.data = .seq (List.toArray vs) n ∧ o.dict = none
theorem IsL.isList {h : Heap} {a : Addr} {vs : List Value} (x : IsL h a vs) : h.IsList a (List.toArray vs) := let ⟨o, n, e, c, d, _⟩ := x; ⟨o, e, c, n, d⟩
theorem IsL.at {h h' : Heap} {a : Addr} {vs : List Value} (x : IsL h a vs) (k : ∀ o, h.get? a = some o → ∃ sl, h'.get? a = some { o with slots := sl }) : IsL h' a vs := let ⟨o, n, e, c, d, f⟩ := x; let ⟨_, q⟩ := k o e; ⟨_, n, q, c, d, f⟩
theorem IsL.at' {h h' : Heap} {a : Addr} {vs : List Value} (x : IsL h a vs) (k : ∀ o, h.get? a = some o → h'.get? a = some o) : IsL h' a vs := let ⟨o, n, e, c, d, f⟩ := x; ⟨o, n, k o e, c, d, f⟩
noncomputable def IK.cls : IK → String
  | .list => "list_iterator" | .tuple => "tuple_iterator" | .range => "range_iterator"
/-- an iterator's object, with what it goes over -/
noncomputable def IsI (h : Heap) (R : Vw) (a : Addr) (k : IK) (xs : List AV) : Prop := ∃ o, h.get? a = some o ∧ o.cls = .type k.cls ∧ o.dict = none ∧ o.slots = #[] ∧ match k with
  | .list => (xs = [] ∧ ∃ t, o.data = .fields #[.none, .int t 0]) ∨ ∃ l vs n i, o.data = .fields #[.ref l, .int (i : Nat) 0] ∧ R.r l (.type "list") (.seq (List.toArray vs) n) ∧ vs.length ≤ 1048576 ∧ RepL R (vs.drop i) xs
  | .tuple => (xs = [] ∧ ∃ t, o.data = .fields #[.none, .int t 0]) ∨ ∃ l vs n i, o.data = .fields #[.ref l, .int (i : Nat) 0] ∧ R.r l (.type "tuple") (.seq (List.toArray vs) n) ∧ vs.length ≤ 1048576 ∧ RepL R (vs.drop i) xs
  | .range => ∃ cur left st, IsRangeIter h a cur left st ∧ 0 ≤ left ∧ left ≤ 1048576 ∧ xs = (List.range left.toNat).map fun (i : Nat) => AV.int (cur + i * st)
noncomputable def IsS (h : Heap) (a : Addr) (fz : Bool) (xs : List Int) : Prop := ∃ o es ep t, h.get? a = some o ∧ o.cls = .type (setName fz) ∧ o.dict = none ∧ o.data = .set es ep t ∧ SetEs es t xs
noncomputable def RepM (h : Heap) (R : Vw) (a : Addr) : MO → Prop
  | .lst xs => xs.length ≤ 1048576 ∧ ∃ vs, IsL h a vs ∧ RepL R vs xs
  | .itr k xs => IsI h R a k xs
  | .set xs => IsS h a false xs

/-- kept, frames up to their slots -/
noncomputable def Kh (F : Addr → Prop) (h h' : Heap) : Prop := ∀ b o, h.get? b = some o → ((¬ F b ∨ ∃ fs, o.data = .fields fs) → h'.get? b = some o) ∧ ∃ sl, h'.get? b = some { o with slots := sl }
/-- kept, but for what is written -/
noncomputable def Kv (F W : Addr → Prop) (h h' : Heap) : Prop := ∀ b o, ¬ W b → h.get? b = some o → ((¬ F b ∨ ∃ fs, o.data = .fields fs) → h'.get? b = some o) ∧ ∃ sl, h'.get? b = some { o with slots := sl }

theorem Kh.of_keeps {F : Addr → Prop} {h h' : Heap} (k : ∀ b o, h.get? b = some o → h'.get? b = some o) : Kh F h h' := fun b o e => ⟨fun _ => k b o e, o.slots, k b o e⟩
theorem Kh.refl (F : Addr → Prop) (h : Heap) : Kh F h h := Kh.of_keeps fun _ _ e => e
theorem Kh.trans {F : Addr → Prop} {h₁ h₂ h₃ : Heap} (x : Kh F h₁ h₂) (y : Kh F h₂ h₃) : Kh F h₁ h₃ := fun b o e =>
  ⟨fun n => (y b o ((x b o e).1 n)).1 n, by obtain ⟨sl, e₂⟩ := (x b o e).2; obtain ⟨sl', e₃⟩ := (y b _ e₂).2; exact ⟨sl', e₃⟩⟩
theorem Kh.size {F : Addr → Prop} {h h' : Heap} (x : Kh F h h') {b : Addr} {o : Obj} (e : h.get? b = some o) : b < h'.objs.size := let ⟨_, q⟩ := (x b o e).2; Heap.lt_size q
theorem Kh.ns {F : Addr → Prop} {h h' : Heap} (x : Kh F h h') {a : Addr} {m : Str → Option Value} (n : h.Ns a m) : h'.Ns a m := by
  obtain ⟨o, es, ep, e, d, r⟩ := n
  obtain ⟨sl, q⟩ := (x a o e).2
  exact ⟨_, es, ep, q, d, r⟩
theorem Kh.cell {F : Addr → Prop} {h h' : Heap} (x : Kh F h h') {a : Addr} {v : Option Value} (n : h.IsCell a v) : h'.IsCell a v := by
  obtain ⟨o, e, d⟩ := n
  obtain ⟨sl, q⟩ := (x a o e).2
  exact ⟨_, q, d⟩
theorem Kh.isL {F : Addr → Prop} {h h' : Heap} (x : Kh F h h') {a : Addr} {v : List Value} (n : IsL h a v) : IsL h' a v := n.at fun o e => (x a o e).2
theorem Kv.refl (F W : Addr → Prop) (h : Heap) : Kv F W h h := fun _ o _ e => ⟨fun _ => e, o.slots, e⟩
theorem Kv.trans {F W : Addr → Prop} {h₁ h₂ h₃ : Heap} (x : Kv F W h₁ h₂) (y : Kv F W h₂ h₃) : Kv F W h₁ h₃ := fun b o w e =>
  ⟨fun n => (y b o w ((x b o w e).1 n)).1 n, by obtain ⟨sl, e₂⟩ := (x b o w e).2; obtain ⟨sl', e₃⟩ := (y b _ w e₂).2; exact ⟨sl', e₃⟩⟩
theorem Kh.kv {F W : Addr → Prop} {h h' : Heap} (k : Kh F h h') : Kv F W h h' := fun b o _ e => k b o e
theorem Kv.kh {F W : Addr → Prop} {h h' : Heap} (k : Kv F W h h') (n : ∀ b o, h.get? b = some o → ¬ W b) : Kh F h h' := fun b o e => k b o (n b o e) e
theorem Kv.mono {F W W' : Addr → Prop} {h h' : Heap} (k : Kv F W h h') (w : ∀ b, W b → W' b) : Kv F W' h h' := fun b o n e => k b o (fun q => n (w b q)) e
theorem Kv.vis {F W : Addr → Prop} {H : Hd} {h h' : Heap} (x : Kv F W h h') (w : ∀ b, W b → H.p b) : (vis h H).Le (Mine.vis h' H) := ⟨by
  rintro a c d ⟨n, o, e, r1, r2, r3, r4, r5⟩
  by_cases hd : ∃ fs, d = .fields fs
  · exact ⟨n, o, (x a o (fun k => n (w a k)) e).1 (.inr (by rw [r2]; exact hd)), r1, r2, r3, r4, r5⟩
  · obtain ⟨sl, q⟩ := (x a o (fun k => n (w a k)) e).2
    exact ⟨n, _, q, r1, r2, r3, r4, fun z => absurd z hd⟩, fun _ _ e => e⟩
theorem Kv.of_sameBut {F W : Addr → Prop} {h h' : Heap} {a : Addr} (x : Heap.SameBut a h h') (w : W a) : Kv F W h h' := fun b o n e => by
  have : h'.get? b = some o := (x.2 b (fun q => n (q ▸ w))).trans e
  exact ⟨fun _ => this, o.slots, this⟩
theorem Kv.of_but {F W : Addr → Prop} {h h' : Heap} {a : Addr} (x : ∀ b o, b ≠ a → h.get? b = some o → h'.get? b = some o) (w : W a) : Kv F W h h' := fun b o n e => by
  have := x b o (fun q => n (q ▸ w)) e
  exact ⟨fun _ => this, o.slots, this⟩
theorem Kh.vis {F : Addr → Prop} {H : Hd} {h h' : Heap} (x : Kh F h h') : (vis h H).Le (Mine.vis h' H) := (x.kv (W := fun _ => False)).vis fun _ z => z.elim
theorem vis_hide {H H' : Hd} {h : Heap} (k : ∀ b, H.p b → H'.p b) (m : ∀ n a, H'.m n = some a → H.m n = some a) : (vis h H').Le (vis h H) := ⟨fun _ _ _ x => ⟨fun q => x.1 (k _ q), x.2⟩, m⟩

/-- iterators, sets and lists stay -/
theorem IsI.kv {F W : Addr → Prop} {h h' : Heap} {R R' : Vw} {a : Addr} {k : IK} {xs : List AV} (x : IsI h R a k xs) (kv : Kv F W h h') (hw : ¬ W a) (le : R.Le R') : IsI h' R' a k xs := by
  obtain ⟨o, e, c, dn, sl, r⟩ := x
  have fl : (∃ fs, o.data = .fields fs) → h'.get? a = some o := fun z => (kv a o hw e).1 (.inr z)
  cases k with
  | list =>
    rcases r with ⟨rfl, t, d⟩ | ⟨l, vs, n, i, d, v, z, q⟩
    · exact ⟨o, fl ⟨_, d⟩, c, dn, sl, .inl ⟨rfl, t, d⟩⟩
    · exact ⟨o, fl ⟨_, d⟩, c, dn, sl, .inr ⟨l, vs, n, i, d, le.r _ _ _ v, z, RepL.mono le q⟩⟩
  | tuple =>
    rcases r with ⟨rfl, t, d⟩ | ⟨l, vs, n, i, d, v, z, q⟩
    · exact ⟨o, fl ⟨_, d⟩, c, dn, sl, .inl ⟨rfl, t, d⟩⟩
    · exact ⟨o, fl ⟨_, d⟩, c, dn, sl, .inr ⟨l, vs, n, i, d, le.r _ _ _ v, z, RepL.mono le q⟩⟩
  | range =>
    obtain ⟨cur, left, st, it, z1, z2, q⟩ := r
    have e2 : h.get? a = _ := it
    rw [e] at e2
    cases e2
    exact ⟨_, fl ⟨_, rfl⟩, c, dn, sl, cur, left, st, fl ⟨_, rfl⟩, z1, z2, q⟩
theorem IsS.kv {F W : Addr → Prop} {h h' : Heap} {a : Addr} {fz : Bool} {xs : List Int} (x : IsS h a fz xs) (kv : Kv F W h h') (hw : ¬ W a) : IsS h' a fz xs := by
  obtain ⟨o, es, ep, t, e, c, dn, d, r⟩ := x
  obtain ⟨sl, q⟩ := (kv a o hw e).2
  exact ⟨_, es, ep, t, q, c, dn, d, r⟩
theorem RepM.kv {F W : Addr → Prop} {h h' : Heap} {R R' : Vw} {a : Addr} (kv : Kv F W h h') (hw : ¬ W a) (le : R.Le R') : ∀ {mo : MO}, RepM h R a mo → RepM h' R' a mo
  | .lst _, ⟨z, vs, l, r⟩ => ⟨z, vs, l.at fun o e => (kv a o hw e).2, RepL.mono le r⟩
  | .itr _ _, r => IsI.kv r kv hw le
  | .set _, r => IsS.kv r kv hw
/-- what can turn is no frame's part -/
theorem RepM.data {h : Heap} {R : Vw} {a : Addr} : ∀ {mo : MO}, RepM h R a mo → ∃ o, h.get? a = some o ∧ (∀ es ep, o.data ≠ .dict es ep) ∧ (∀ v, o.data ≠ .cell v) ∧ (∀ f, o.data ≠ .func f)
  | .lst _, ⟨_, _, ⟨o, n, e, _, d, _⟩, _⟩ => ⟨o, e, fun _ _ z => by (rw [d] at z; cases z), fun _ z => by (rw [d] at z; cases z), fun _ z => by (rw [d] at z; cases z)⟩
  | .set _, ⟨o, es, ep, t, e, _, _, d, _⟩ => ⟨o, e, fun _ _ z => by (rw [d] at z; cases z), fun _ z => by (rw [d] at z; cases z), fun _ z => by (rw [d] at z; cases z)⟩
  | .itr k _, r => by
    obtain ⟨o, e, _, _, _, r⟩ := r
    have : ∃ fs, o.data = .fields fs := by
      cases k with
      | list => rcases r with ⟨_, t, d⟩ | ⟨l, vs, n, i, d, _⟩ <;> exact ⟨_, d⟩
      | tuple => rcases r with ⟨_, t, d⟩ | ⟨l, vs, n, i, d, _⟩ <;> exact ⟨_, d⟩
      | range =>
        obtain ⟨cur, left, st, it, _⟩ := r
        have e2 : h.get? a = _ := it
        rw [e] at e2; cases e2
        exact ⟨_, rfl⟩
    obtain ⟨fs, d⟩ := this
    exact ⟨o, e, fun _ _ z => by (rw [d] at z; cases z), fun _ z => by (rw [d] at z; cases z), fun _ z => by (rw [d] at z; cases z)⟩

/-- what the law's run stands upon -/
structure Cx where
  prog : Program
  w : World
  h0 : Heap
  mg : Str → Option Value
  mb : Str → Option Value
  g : h0.Ns mainGlobals mg
  b : h0.Ns builtinsNs mb
  builtins : ∀ x : Str, x ≠ "__name__" → mb x = bootBuiltins x
  nolimit : h0.NoLimit

abbrev Cx.M (c : Cx) : Model := model c.prog c.w

/-- the frames' own addresses -/
noncomputable def FrA (A : Around) (b : Addr) : Prop := ∃ l, A.frames = some l ∧ b ∈ l.filterMap (·.frame)

/-- one state after another, nothing turned -/
noncomputable def Kp (A : Around) (s s' : Shared) : Prop := ∃ h' tk, s' = { s with heap := h', toks := tk } ∧ Kh (FrA A) s.heap h'
theorem Kp.refl (A : Around) (s : Shared) : Kp A s s := ⟨s.heap, s.toks, rfl, Kh.refl _ _⟩
theorem Kp.trans {A : Around} {s₁ s₂ s₃ : Shared} (x : Kp A s₁ s₂) (y : Kp A s₂ s₃) : Kp A s₁ s₃ := by
  obtain ⟨h, t, rfl, k⟩ := x
  obtain ⟨h', t', rfl, k'⟩ := y
  exact ⟨h', t', rfl, k.trans k'⟩
theorem Kp.kh {A : Around} {s s' : Shared} (x : Kp A s s') : Kh (FrA A) s.heap s'.heap := by
  obtain ⟨h, t, rfl, k⟩ := x
  exact k
theorem Kp.of {A : Around} {s : Shared} {h' : Heap} {tk : Nat} (k : ∀ b o, s.heap.get? b = some o → h'.get? b = some o) : Kp A s { s with heap := h', toks := tk } := ⟨h', tk, rfl, Kh.of_keeps k⟩
theorem Kp.toks {A : Around} {s : Shared} {tk : Nat} : Kp A s { s with toks := tk } := ⟨s.heap, tk, rfl, Kh.refl _ _⟩
/-- how a frame began: its heap, what was hidden, what of it may be written -/
structure FE where
  h : Heap
  H : Hd
  w : Addr → Prop

/-- a slot: a value, or a list that the frame alone holds -/
inductive Ent where
  | val (v : AV)
  | own (xs : List AV)
deriving Inhabited
noncomputable def RepE (h : Heap) (H : Hd) (i : Nat) (v : Value) : Ent → Prop
  | .val av => Rep (vis h H) v av
  | .own xs => xs.length ≤ 1048576 ∧ ∃ a vs, v = .ref a ∧ H.o i = some a ∧ IsL h a vs ∧ RepL (vis h H) vs xs
theorem RepE.mono {h h' : Heap} {H H' : Hd} {i : Nat} {v : Value} (le : (vis h H).Le (vis h' H')) (ho : ∀ a, H.o i = some a → H'.o i = some a) (hl : ∀ a vs, H.o i = some a → IsL h a vs → IsL h' a vs) : ∀ {t : Ent}, RepE h H i v t → RepE h' H' i v t
  | .val _, r => Rep.mono le r
  | .own _, ⟨z, a, vs, e, o, l, r⟩ => ⟨z, a, vs, e, ho a o, hl a vs o l, RepL.mono le r⟩

/-- a frame's state: slots, what can turn, from where on it may be written, how many there were -/
structure Fs where
  ρ : List (Option Ent)
  σ : List (Option MO)
  lo : Nat
  n0 : Nat

noncomputable def NV (h : Heap) (env : Env) (x : Str) (v : Value) : Prop :=
  (env.kindOf x = some .local ∧ ∃ m, h.Ns env.locals m ∧ m x = some v) ∨ (env.kindOf x = some .cell ∧ ∃ cc, env.cells.lookup x = some cc ∧ h.IsCell cc (some v))

theorem Ns_uniq {h : Heap} {a : Addr} {m m' : Str → Option Value} (x : h.Ns a m) (y : h.Ns a m') : m = m' := by
  obtain ⟨o, es, ep, e, d, _, r⟩ := x
  obtain ⟨o', es', ep', e', d', _, r'⟩ := y
  rw [e] at e'; cases e'
  rw [d] at d'; cases d'
  funext n
  rw [← r n, ← r' n]
theorem NV.kh {F : Addr → Prop} {h h' : Heap} {env : Env} {x : Str} {v : Value} (k : Kh F h h') (a : NV h env x v) : NV h' env x v := by
  rcases a with ⟨kk, m, n, e⟩ | ⟨kk, cc, n, e⟩
  · exact .inl ⟨kk, m, k.ns n, e⟩
  · exact .inr ⟨kk, cc, n, k.cell e⟩

/-- the things that can turn stand in the heap -/
structure Sto (σ : List (Option MO)) (H : Hd) (h : Heap) : Prop where
  at' : ∀ n mo, σ[n]? = some (some mo) → ∃ a, H.m n = some a ∧ RepM h (vis h H) a mo
  inj : ∀ n n' a, H.m n = some a → H.m n' = some a → n = n'
  lt : ∀ n a, H.m n = some a → n < σ.length
  hid : ∀ n a mo, σ[n]? = some (some mo) → H.m n = some a → H.p a
  al : ∀ n a, H.m n = some a → ∃ o, h.get? a = some o
  tot : ∀ n a, H.m n = some a → ∃ mo, σ[n]? = some (some mo)
theorem Sto.kh {F : Addr → Prop} {σ : List (Option MO)} {H : Hd} {h h' : Heap} (S : Sto σ H h) (k : Kh F h h') : Sto σ H h' :=
  ⟨fun n mo e => let ⟨a, q, r⟩ := S.at' n mo e; ⟨a, q, r.kv (k.kv (W := fun _ => False)) id k.vis⟩, S.inj, S.lt, S.hid, fun n a e => let ⟨_, q⟩ := S.al n a e; let ⟨_, q'⟩ := (k a _ q).2; ⟨_, q'⟩, S.tot⟩

/-- a frame -/
structure Fm (c : Cx) (F : Addr → Prop) (names : List Str) (env : Env) (st : Fs) (fe : FE) (H : Hd) (h : Heap) : Prop where
  keep : Kv F fe.w fe.h h
  wsub : ∀ b, fe.w b → fe.H.p b
  base : c.h0.StaysIn fe.h
  baseF : ∀ b, F b → c.h0.get? b = none
  basew : ∀ b, fe.w b → c.h0.get? b = none
  hle : ∀ b, fe.H.p b → H.p b
  mle : ∀ n a, fe.H.m n = some a → H.m n = some a
  mold : ∀ n a, n < st.n0 → H.m n = some a → fe.H.m n = some a
  mnew : ∀ n a, st.n0 ≤ n → H.m n = some a → fe.h.get? a = none
  mw : ∀ n a mo, n < st.n0 → st.lo ≤ n → st.σ[n]? = some (some mo) → H.m n = some a → fe.w a
  hlt : ∀ b, H.p b → ∃ o, h.get? b = some o
  felt : ∀ b, fe.H.p b → ∃ o, fe.h.get? b = some o
  wlt : ∀ b, fe.w b → ∃ o, fe.h.get? b = some o
  kind : env.scope.kind = .function
  glob : env.globals = mainGlobals
  bi : env.builtins = builtinsNs
  code : ∃ cd o vs, env.code = .ref cd ∧ c.h0.get? cd = some o ∧ o.data = .fields vs
  ns : ∃ m, h.Ns env.locals m
  hl : H.p env.locals
  lnew : fe.h.get? env.locals = none
  hc : ∀ x cc, env.kindOf x = some .cell → env.cells.lookup x = some cc → H.p cc ∧ fe.h.get? cc = none
  cl : ∀ x, env.kindOf x = some .cell → ∃ cc v, env.cells.lookup x = some cc ∧ h.IsCell cc v
  capart : ∀ x y cc, env.cells.lookup x = some cc → env.cells.lookup y = some cc → x = y
  vals : ∀ (i : Nat) x t, names[i]? = some x → st.ρ[i]? = some (some t) → ∃ v, NV h env x v ∧ RepE h H i v t
  own : ∀ i a, H.o i = some a → H.p a ∧ fe.h.get? a = none ∧ (∀ n, H.m n ≠ some a) ∧ ∃ vs, IsL h a vs
  oinj : ∀ i j a, H.o i = some a → H.o j = some a → i = j
  sto : Sto st.σ H h
  mh0 : ∀ n a, H.m n = some a → c.h0.get? a = none
  n0le : st.n0 ≤ st.σ.length

theorem Kv.nw {F W : Addr → Prop} {h h' : Heap} (k : Kv F W h h') (n : ∀ b, W b → ∃ o, h'.get? b = some o) {b : Addr} {o : Obj} (e : h.get? b = some o) : ∃ o', h'.get? b = some o' := by
  by_cases w : W b
  · exact n b w
  · obtain ⟨sl, q⟩ := (k b o w e).2; exact ⟨_, q⟩
theorem none_back {F : Addr → Prop} {h h' : Heap} (k : Kh F h h') {b : Addr} (e : h'.get? b = none) : h.get? b = none := by
  cases q : h.get? b with
  | none => rfl
  | some o => obtain ⟨sl, r⟩ := (k b o q).2; rw [e] at r; cases r

theorem Fm.step {c : Cx} {F : Addr → Prop} {names : List Str} {env : Env} {st : Fs} {fe : FE} {H : Hd} {h h' : Heap} (X : Fm c F names env st fe H h) (k : Kh F h h') : Fm c F names env st fe H h' where
  keep := X.keep.trans k.kv
  wsub := X.wsub
  base := X.base
  baseF := X.baseF
  basew := X.basew
  hle := X.hle
  mle := X.mle
  mold := X.mold
  mnew := X.mnew
  mw := X.mw
  hlt := fun b q => let ⟨o, e⟩ := X.hlt b q; let ⟨sl, e'⟩ := (k b o e).2; ⟨_, e'⟩
  felt := X.felt
  wlt := X.wlt
  kind := X.kind
  glob := X.glob
  bi := X.bi
  code := X.code
  ns := let ⟨m, n⟩ := X.ns; ⟨m, k.ns n⟩
  hl := X.hl
  lnew := X.lnew
  hc := X.hc
  cl := fun x q => let ⟨cc, v, e, n⟩ := X.cl x q; ⟨cc, v, e, k.cell n⟩
  capart := X.capart
  vals := fun i x t a b => let ⟨v, n, r⟩ := X.vals i x t a b; ⟨v, n.kh k, r.mono k.vis (fun _ e => e) fun a vs _ l => k.isL l⟩
  own := fun i a e => let ⟨p, q, r, vs, l⟩ := X.own i a e; ⟨p, q, r, vs, k.isL l⟩
  oinj := X.oinj
  sto := X.sto.kh k
  mh0 := X.mh0
  n0le := X.n0le
end Mine
end
section
open PySem PySem.W PyProof.Rows
namespace Mine

/-- the exceptions that are served -/
inductive EX where
  | zde | ofe | te | ve | ae
deriving DecidableEq, Inhabited
noncomputable def EX.name : EX → String
  | zde => "ZeroDivisionError" | ofe => "OverflowError" | te => "TypeError" | ve => "ValueError" | ae => "AttributeError"

inductive Res where
  | ok (v : AV)
  | exc (cls : EX)
  | stuck
deriving Inhabited

structure Rm (c : Cx) (q : Bool) (k : Nat) (A : Around) (h : Heap) : Prop where
  depth : A.depth + k < recursionLimit
  units : A.units + 8 * k < cLine
  hand : q = true → A.handled = none
  frames : ∃ l, A.frames = some l ∧ h.FunFrames c.h0 l

/-- frames' tables stay tables -/
noncomputable def Nf (h h' : Heap) : Prop := ∀ b o, h.get? b = some o → (∀ vs, o.data ≠ .fields vs) → ∃ o', h'.get? b = some o' ∧ ∀ vs, o'.data ≠ .fields vs
theorem Kh.nf {F : Addr → Prop} {h h' : Heap} (k : Kh F h h') : Nf h h' := fun b o e n => by
  obtain ⟨sl, q⟩ := (k b o e).2
  exact ⟨_, q, n⟩
theorem Nf.trans {h₁ h₂ h₃ : Heap} (x : Nf h₁ h₂) (y : Nf h₂ h₃) : Nf h₁ h₃ := fun b o e n => let ⟨o', e', n'⟩ := x b o e n; y b o' e' n'
theorem Nf.frames {h h' base : Heap} (k : Nf h h') : ∀ {l : List Env}, h.FunFrames base l → h'.FunFrames base l
  | [], _ => trivial
  | _ :: _, ⟨hk, ⟨L, o, hf, hn, ho, hd⟩, hr⟩ => by
    obtain ⟨o', e', n'⟩ := k L o ho hd
    exact ⟨hk, ⟨L, o', hf, hn, e', n'⟩, Nf.frames k hr⟩
theorem Rm.nf {c : Cx} {q : Bool} {k : Nat} {A : Around} {h h' : Heap} (X : Rm c q k A h) (n : Nf h h') : Rm c q k A h' :=
  ⟨X.depth, X.units, X.hand, let ⟨l, a, b⟩ := X.frames; ⟨l, a, n.frames b⟩⟩
theorem Rm.kp {c : Cx} {q : Bool} {k : Nat} {A : Around} {s s' : Shared} (X : Rm c q k A s.heap) (n : Kp A s s') : Rm c q k A s'.heap := X.nf n.kh.nf
theorem Fm.kp {c : Cx} {A : Around} {names : List Str} {env : Env} {st : Fs} {fe : FE} {H : Hd} {s s' : Shared} (X : Fm c (FrA A) names env st fe H s.heap) (k : Kp A s s') : Fm c (FrA A) names env st fe H s'.heap := X.step k.kh

/-- an exception that has come up from s to s' -/
noncomputable def Xp (A : Around) (s s' : Shared) (x : Value) (cls : EX) : Prop :=
  ∃ e a0, x = .ref e ∧ Kp A s s' ∧ s.heap.get? e = none ∧
    ((∃ ob, s'.heap.get? e = some ob ∧ ob.cls = .type cls.name ∧ ob.data = .fields #[a0, .none, .none, .none, .bool false, .none]) ∨ s'.heap.TracedW s.heap e (.type cls.name) a0)

theorem Xp.trans {A : Around} {s₁ s₂ s₃ : Shared} {x : Value} {cls : EX} (k : Kp A s₁ s₂) (X : Xp A s₂ s₃ x cls) : Xp A s₁ s₃ x cls := by
  obtain ⟨e, a0, rfl, k', n, r⟩ := X
  refine ⟨e, a0, rfl, k.trans k', none_back k.kh n, r.imp id fun t => ?_⟩
  obtain ⟨oe, vs, T, oT, ts, he, hc, hd, h1, hT, r⟩ := t
  exact ⟨oe, vs, T, oT, ts, he, hc, hd, h1, none_back k.kh hT, r⟩

noncomputable def Post (q : Bool) (A : Around) (H : Hd) (r : Res) (s : Shared) (Q : Value → Shared → Prop) (E : Value → Shared → Prop) : Prop :=
  match r with
  | .ok av => ∀ v s', Kp A s s' → Rep (vis s'.heap H) v av → Q v s'
  | .exc cls => q = true ∧ ∀ x s', Xp A s s' x cls → E x s'
  | .stuck => False

theorem Post.kp {q : Bool} {A : Around} {H : Hd} {r : Res} {s s' : Shared} {Q E : Value → Shared → Prop} (P : Post q A H r s Q E) (k : Kp A s s') : Post q A H r s' Q E := by
  cases r with
  | ok av => exact fun v s'' k' R => P v s'' (k.trans k') R
  | exc cls => exact ⟨P.1, fun x s'' X => P.2 x s'' (X.trans k)⟩
  | stuck => exact P

/-- hidden things live -/
noncomputable def Live (H : Hd) (h : Heap) : Prop := ∀ b, H.p b → ∃ o, h.get? b = some o
theorem Live.kp {A : Around} {H : Hd} {s s' : Shared} (L : Live H s.heap) (k : Kp A s s') : Live H s'.heap := fun b q => by
  obtain ⟨o, e⟩ := L b q
  obtain ⟨sl, r⟩ := (k.kh b o e).2
  exact ⟨_, r⟩
theorem Live.fresh {H : Hd} {h : Heap} (L : Live H h) : ¬ H.p h.objs.size := fun q => by
  obtain ⟨o, e⟩ := L _ q
  exact absurd (Heap.lt_size e) (Nat.lt_irrefl _)
theorem Rep.kp {A : Around} {H : Hd} {s s' : Shared} {v : Value} {x : AV} (r : Rep (vis s.heap H) v x) (k : Kp A s s') : Rep (vis s'.heap H) v x := Rep.mono k.kh.vis r
theorem RepL.kp {A : Around} {H : Hd} {s s' : Shared} {v : List Value} {x : List AV} (r : RepL (vis s.heap H) v x) (k : Kp A s s') : RepL (vis s'.heap H) v x := RepL.mono k.kh.vis r

/-- a tree that comes to r -/
noncomputable def Tr (c : Cx) (q : Bool) (A : Around) (H : Hd) (t : Sem Value) (r : Res) (s : Shared) : Prop := ∀ Q E, Post q A H r s Q E → wpAny c.M A t Q E s
/-- a test that comes to b -/
noncomputable def TrB (c : Cx) (A : Around) (t : Sem Bool) (b : Bool) (s : Shared) : Prop := ∀ Q E, (∀ s', Kp A s s' → Q b s') → wpAny c.M A t Q E s

/-- the thing itself may be hidden -/
noncomputable def RepO (h : Heap) (H : Hd) (v : Value) : AV → Prop
  | .lst xs => xs.length ≤ 1048576 ∧ ∃ a vs, v = .ref a ∧ IsL h a vs ∧ RepL (vis h H) vs xs
  | .itr k xs => ∃ a, v = .ref a ∧ IsI h (vis h H) a k xs
  | .set fz xs => ∃ a, v = .ref a ∧ IsS h a fz xs
  | x => Rep (vis h H) v x
theorem RepO.of {h : Heap} {H : Hd} {v : Value} : ∀ {x : AV}, Rep (vis h H) v x → RepO h H v x
  | .lst xs, r => by
    simp only [Rep] at r
    obtain ⟨z, a, vs, n, e, ⟨_, o, q, k, d, f, _⟩, l⟩ := r
    exact ⟨z, a, vs, e, ⟨o, n, q, k, d, f⟩, l⟩
  | .set fz xs, r => by
    simp only [Rep] at r
    obtain ⟨a, es, ep, t, e, ⟨_, o, q, k, d, f, _⟩, l⟩ := r
    exact ⟨a, e, o, es, ep, t, q, k, f, d, l⟩
  | .itr _ _, r => by simp [Rep] at r
  | .none, r | .bool _, r | .int _, r | .float _, r | .str _, r | .bytes _, r | .type _, r | .range _ _ _, r | .tup _, r | .ptr _, r | .fn _, r | .dict _, r | .any, r => r
theorem RepO.kp {A : Around} {H : Hd} {s s' : Shared} {v : Value} (k : Kp A s s') : ∀ {x : AV}, RepO s.heap H v x → RepO s'.heap H v x
  | .lst _, ⟨z, a, vs, e, l, r⟩ => ⟨z, a, vs, e, k.kh.isL l, r.kp k⟩
  | .itr _ _, ⟨a, e, l⟩ => ⟨a, e, l.kv (k.kh.kv (W := fun _ => False)) id k.kh.vis⟩
  | .set _ _, ⟨a, e, l⟩ => ⟨a, e, l.kv (k.kh.kv (W := fun _ => False)) id⟩
  | .none, r | .bool _, r | .int _, r | .float _, r | .str _, r | .bytes _, r | .type _, r | .range _ _ _, r | .tup _, r | .ptr _, r | .fn _, r | .dict _, r | .any, r => Rep.kp (x := _) r k

/-- what stands behind a number -/
noncomputable def deref (σ : List (Option MO)) : AV → AV
  | .ptr n => match σ[n]? with
    | some (some (.lst xs)) => .lst xs
    | some (some (.itr k xs)) => .itr k xs
    | some (some (.set xs)) => .set false xs
    | _ => .ptr n
  | x => x
theorem RepO.deref {h : Heap} {H : Hd} {σ : List (Option MO)} {v : Value} {x : AV} (S : Sto σ H h) (r : Rep (vis h H) v x) : RepO h H v (deref σ x) := by
  cases x with
  | ptr n =>
    simp only [Rep] at r
    obtain ⟨a, e, rfl⟩ := id r
    have ed : Mine.deref σ (.ptr n) = match σ[n]? with
      | some (some (.lst xs)) => .lst xs
      | some (some (.itr k xs)) => .itr k xs
      | some (some (.set xs)) => .set false xs
      | _ => .ptr n := rfl
    rw [ed]
    split
    · rename_i xs hs
      obtain ⟨b, q, z, vs, l, rr⟩ := S.at' _ _ hs
      have q' : H.m n = some a := e
      rw [q] at q'; cases q'
      exact ⟨z, _, vs, rfl, l, rr⟩
    · rename_i k xs hs
      obtain ⟨b, q, l⟩ := S.at' _ _ hs
      have q' : H.m n = some a := e
      rw [q] at q'; cases q'
      exact ⟨_, rfl, l⟩
    · rename_i xs hs
      obtain ⟨b, q, l⟩ := S.at' _ _ hs
      have q' : H.m n = some a := e
      rw [q] at q'; cases q'
      exact ⟨_, rfl, l⟩
    · exact RepO.of (x := .ptr n) (by simp only [Rep]; exact r)
  | _ => exact RepO.of r
noncomputable def Res.deref (σ : List (Option MO)) : Res → Res
  | .ok v => .ok (Mine.deref σ v)
  | r => r

/-- as Tr, the list may be hidden -/
noncomputable def PostO (A : Around) (H : Hd) (av : AV) (s : Shared) (Q : Value → Shared → Prop) : Prop := ∀ v s', Kp A s s' → RepO s'.heap H v av → Q v s'
noncomputable def TrO (c : Cx) (q : Bool) (A : Around) (H : Hd) (t : Sem Value) (r : Res) (s : Shared) : Prop := ∀ Q E, (match r with
  | .ok av => PostO A H av s Q
  | .exc cls => Post q A H (.exc cls) s Q E
  | .stuck => False) → wpAny c.M A t Q E s

theorem Tr.stuck {c : Cx} {q : Bool} {A : Around} {H : Hd} {t : Sem Value} {s : Shared} : Tr c q A H t .stuck s := fun _ _ P => P.elim
theorem Tr.deref {c : Cx} {q : Bool} {A : Around} {H : Hd} {t : Sem Value} {r : Res} {s : Shared} {σ : List (Option MO)} (S : Sto σ H s.heap) (X : Tr c q A H t r s) : TrO c q A H t (r.deref σ) s := fun Q E P => by
  cases r with
  | ok av => exact X Q E fun v s' k r => P v s' k (.deref (S.kh k.kh) r)
  | exc cls => exact X Q E P
  | stuck => exact P.elim

theorem NV.load {M : Model} {A : Around} {E : Value → Shared → Prop} {s : Shared} {env : Env} {x : Str} {v : Value} {Q : Value → Shared → Prop} (hk : env.scope.kind = .function) (n : NV s.heap env x v) (h : Q v s) : wpAny M A (loadName env x) Q E s := by
  rcases n with ⟨k, m, n, e⟩ | ⟨k, cc, n, e⟩
  · exact wpAny_loadName_local hk k n e h
  · exact wpAny_loadName_cell hk k n e h

section
variable {c : Cx} {q : Bool} {k : Nat} {A : Around} {s : Shared} {H : Hd}

theorem tr_const_int {env : Env} {i : Int} {kk pos} : Tr c q A H (eval (.Constant (.int i) kk pos) env) (.ok (.int i)) s := fun _ _ P => wpAny_Constant_int (P _ _ Kp.toks ⟨_, rfl⟩)
theorem tr_const_bool {env : Env} {b : Bool} {kk pos} : Tr c q A H (eval (.Constant (.bool b) kk pos) env) (.ok (.bool b)) s := fun _ _ P => wpAny_Constant_bool (P _ _ (Kp.refl _ _) rfl)
theorem tr_const_none {env : Env} {kk pos} : Tr c q A H (eval (.Constant .none kk pos) env) (.ok .none) s := fun _ _ P => wpAny_Constant_none (P _ _ (Kp.refl _ _) rfl)
theorem tr_const_str {env : Env} {x : Str} {kk pos} : Tr c q A H (eval (.Constant (.str x) kk pos) env) (.ok (.str x)) s := fun _ _ P => wpAny_Constant_str (P _ _ Kp.toks ⟨_, rfl⟩)

theorem Tr.bindK {t : Sem Value} {av : AV} {Q E : Value → Shared → Prop} (X : Tr c q A H t (.ok av) s) (h : ∀ v s', Kp A s s' → Rep (vis s'.heap H) v av → Q v s') : wpAny c.M A t Q E s := X Q E h

end
end Mine
end
section
open PySem PySem.W PyProof.Rows
namespace Mine

/-- built-ins by name -/
inductive BI where
  | len | sum | abs | range | min | max | list | tuple | type | isinstance | chr | bytes | sorted | iter | next | set | frozenset | str | int | bool | float | zip | enumerate | hasattr | dict
deriving DecidableEq, Inhabited
noncomputable def BI.name : BI → String
  | len => "len" | sum => "sum" | abs => "abs" | range => "range" | min => "min" | max => "max" | list => "list" | tuple => "tuple" | type => "type" | isinstance => "isinstance" | chr => "chr" | bytes => "bytes"
  | sorted => "sorted" | iter => "iter" | next => "next" | set => "set" | frozenset => "frozenset" | str => "str" | int => "int" | bool => "bool" | float => "float" | zip => "zip" | enumerate => "enumerate" | hasattr => "hasattr" | dict => "dict"
/-- methods by name -/
inductive MI where
  | index | count | join
deriving DecidableEq, Inhabited
noncomputable def MI.name : MI → String
  | index => "index" | count => "count" | join => "join"

abbrev Store := List (Option MO)
/-- an operand: a value, or the list that a slot holds alone -/
inductive OV where
  | av (x : AV)
  | own (i : Nat)
deriving Inhabited
/-- what an expression comes to, with the things that can turn behind it -/
inductive ER where
  | ok (v : OV) (σ : Store)
  | exc (x : EX) (σ : Store)
  | stuck
deriving Inhabited

/-- methods that turn their thing -/
inductive EMI where
  | append | pop
deriving DecidableEq, Inhabited
noncomputable def EMI.name : EMI → String
  | .append => "append" | .pop => "pop"
/-- methods of a list that a slot holds alone -/
inductive OMI where
  | append | insert | remove
deriving DecidableEq, Inhabited
noncomputable def OMI.name : OMI → String
  | .append => "append" | .insert => "insert" | .remove => "remove"
/-- attributes of a class -/
inductive TA where
  | name_ | lengthHint
deriving DecidableEq, Inhabited
noncomputable def TA.name : TA → String
  | .lengthHint => "__length_hint__" | .name_ => "__name__"
mutual
inductive PE where
  | const (v : AV)
  | name (i : Nat)
  | glob (b : BI)
  | bin (op : Operator) (l r : PE)
  | un (op : UnaryOp) (x : PE)
  | cmp (op : CmpOp) (l r : PE)
  | bop (op : BoolOp) (xs : PEs)
  | ife (t a b : PE)
  | list (xs : PEs)
  | tup (xs : PEs)
  | sub (o i : PE)
  | slice (o a b s : PE)
  | call (f : Nat) (xs : PEs)
  | bcall (f : BI) (xs : PEs)
  | comp (caps : List Nat) (elt src : PE) (cond : PEs)
  | setd (x : PE)
  | newl (xs : PEs)
  | emeth (o : PE) (m : EMI) (xs : PEs)
inductive PEs where
  | nil
  | cons (e : PE) (es : PEs)
end

noncomputable def RepOL (h : Heap) (H : Hd) : List Value → List AV → Prop
  | [], [] => True
  | v :: vs, x :: xs => RepO h H v x ∧ RepOL h H vs xs
  | _, _ => False
theorem RepOL.kp {A : Around} {H : Hd} {s s' : Shared} (k : Kp A s s') : ∀ {vs : List Value} {xs : List AV}, RepOL s.heap H vs xs → RepOL s'.heap H vs xs
  | [], [], _ => trivial
  | [], _ :: _, r => r.elim
  | _ :: _, [], r => r.elim
  | _ :: _, _ :: _, r => ⟨r.1.kp k, RepOL.kp k r.2⟩

/-- what an iterator over a value hands out -/
structure Itr (c : Cx) (A : Around) (I : Addr) (fp : Addr → Prop) (P : Nat → Value → Prop) (n : Nat) (St : Nat → Heap → Prop) : Prop where
  fld : ∀ i h, St i h → ∃ o fs, h.get? I = some o ∧ o.data = .fields fs ∧ ¬ okC o.cls
  nt : ∀ i h, St i h → ∃ o n, h.get? I = some o ∧ o.cls = .type n ∧ ["enumerate", "zip", "dict_itemiterator", "dict_reverseitemiterator", "odict_iterator", "itertools.zip_longest", "itertools.pairwise"].contains n = false
  frame : ∀ i h h', St i h → (∀ b o, fp b → h.get? b = some o → ((∃ fs, o.data = .fields fs) → h'.get? b = some o) ∧ ∃ sl, h'.get? b = some { o with slots := sl }) → St i h'
  item : ∀ i (s : Shared) (Q : Option Value → Shared → Prop) (E : Value → Shared → Prop), i < n → St i s.heap →
    (∀ v h' tk, P i v → St (i + 1) h' → (∀ b o, b ≠ I → s.heap.get? b = some o → h'.get? b = some o) → (∃ o, h'.get? I = some o) → Q (some v) { s with heap := h', toks := tk }) → wpAny c.M A (pyNext (.ref I)) Q E s
  done : ∀ (s : Shared) (Q : Option Value → Shared → Prop) (E : Value → Shared → Prop), St n s.heap →
    (∀ h' tk, (∀ b o, b ≠ I → s.heap.get? b = some o → h'.get? b = some o) → Q none { s with heap := h', toks := tk }) → wpAny c.M A (pyNext (.ref I)) Q E s
  self : ∀ i (s : Shared) (Q : Value → Shared → Prop) (E : Value → Shared → Prop), St i s.heap → Q (.ref I) s → wpAny c.M A (pyIter (.ref I)) Q E s

/-- the words that are served -/
structure OpsF where
  bin : Operator → AV → AV → Res
  inpl : Operator → AV → AV → Res
  un : UnaryOp → AV → Res
  cmp : CmpOp → AV → AV → Option Bool
  truth : AV → Option Bool
  idx : AV → AV → Res
  slice : AV → AV → AV → AV → Res
  bcall : BI → List AV → Res
  items : AV → Option (List AV)
  is_ : AV → AV → Option Bool
  emeth : EMI → Store → Nat → AV → List AV → ER
  ometh : OMI → List AV → List AV → Option (List AV)
/-- where may be written -/
noncomputable def Wr (σ : Store) (H : Hd) (lo : Nat) (b : Addr) : Prop := ∃ n mo, lo ≤ n ∧ σ[n]? = some (some mo) ∧ H.m n = some b
/-- a step that turns what may be turned, and makes anew -/
structure Ss (A : Around) (lo : Nat) (σ : Store) (H : Hd) (s : Shared) (σ' : Store) (H' : Hd) (s' : Shared) : Prop where
  rest : ∃ h' tk, s' = { s with heap := h', toks := tk }
  kv : Kv (FrA A) (Wr σ H lo) s.heap s'.heap
  lv : ∀ b o, s.heap.get? b = some o → ∃ o', s'.heap.get? b = some o'
  nf : Nf s.heap s'.heap
  hp : ∀ b, H.p b → H'.p b
  hid : ∀ b, H'.p b → H.p b ∨ s.heap.get? b = none
  mx : ∀ n a, H.m n = some a → H'.m n = some a
  mn : ∀ n a, H'.m n = some a → H.m n = some a ∨ (σ.length ≤ n ∧ s.heap.get? a = none)
  o : H'.o = H.o
  sto : Sto σ' H' s'.heap
  live : Live H' s'.heap
  len : σ.length ≤ σ'.length
  rv : ∀ (n : Nat) mo, n < σ.length → σ'[n]? = some (some mo) → ∃ mo', σ[n]? = some (some mo')
  hm0 : ∀ n a, H.m n = some a → n < σ.length

theorem Ss.of_kp {A : Around} {lo : Nat} {σ : Store} {H : Hd} {s s' : Shared} (k : Kp A s s') (S : Sto σ H s.heap) (L : Live H s.heap) : Ss A lo σ H s σ H s' where
  rest := let ⟨h, t, e, _⟩ := k; ⟨h, t, e⟩
  kv := k.kh.kv
  lv := fun b o e => let ⟨_, q⟩ := (k.kh b o e).2; ⟨_, q⟩
  nf := k.kh.nf
  hp := fun _ z => z
  hid := fun _ z => .inl z
  mx := fun _ _ z => z
  mn := fun _ _ z => .inl z
  o := rfl
  sto := S.kh k.kh
  live := L.kp k
  len := Nat.le_refl _
  rv := fun n mo _ e => ⟨mo, e⟩
  hm0 := S.lt
theorem Ss.vis {A : Around} {lo : Nat} {σ σ' : Store} {H H' : Hd} {s s' : Shared} (x : Ss A lo σ H s σ' H' s') (S : Sto σ H s.heap) : (vis s.heap H).Le (Mine.vis s'.heap H') := ⟨by
  rintro a c d ⟨n, o, e, r⟩
  have hw : ∀ b, Wr σ H lo b → H.p b := fun b ⟨m, mo, _, e1, e2⟩ => S.hid m b mo e1 e2
  obtain ⟨_, o', e', r'⟩ := (x.kv.vis (H := H) hw).r a c d ⟨n, o, e, r⟩
  refine ⟨fun z => ?_, o', e', r'⟩
  rcases x.hid a z with z | z
  · exact n z
  · (rw [e] at z; cases z), x.mx⟩
theorem Ss.trans {A : Around} {lo : Nat} {σ σ₁ σ₂ : Store} {H H₁ H₂ : Hd} {s s₁ s₂ : Shared} (x : Ss A lo σ H s σ₁ H₁ s₁) (y : Ss A lo σ₁ H₁ s₁ σ₂ H₂ s₂) : Ss A lo σ H s σ₂ H₂ s₂ := by
  have dead : ∀ b, s₁.heap.get? b = none → s.heap.get? b = none := fun b z => by
    cases q : s.heap.get? b with
    | none => rfl
    | some o => obtain ⟨o', e'⟩ := x.lv b o q; rw [z] at e'; cases e'
  exact {
    rest := by
      obtain ⟨h, t, rfl⟩ := x.rest
      obtain ⟨h', t', rfl⟩ := y.rest
      exact ⟨h', t', rfl⟩
    kv := fun b o n e => by
      have n1 : ¬ Wr σ₁ H₁ lo b := fun ⟨m, mo, l1, e1, e2⟩ => by
        rcases x.mn m b e2 with e2 | ⟨_, e2⟩
        · have hm := x.sto.lt m b (x.mx m b e2)
          rcases Nat.lt_or_ge m σ.length with hl | hl
          · obtain ⟨mo', e3⟩ := x.rv m mo hl e1
            exact n ⟨m, mo', l1, e3, e2⟩
          · exact n (by
              rcases Classical.em (∃ mo', σ[m]? = some (some mo')) with ⟨mo', e3⟩ | e3
              · exact ⟨m, mo', l1, e3, e2⟩
              · exact absurd e2 (fun e2 => by
                  have := x.hm0 m b e2; omega))
        · rw [e] at e2; cases e2
      obtain ⟨p1, sl, p2⟩ := x.kv b o n e
      obtain ⟨q1, sl', q2⟩ := y.kv b _ n1 p2
      exact ⟨fun f => (y.kv b o n1 (p1 f)).1 f, sl', q2⟩
    lv := fun b o e => let ⟨o', e'⟩ := x.lv b o e; y.lv b o' e'
    nf := x.nf.trans y.nf
    hp := fun b z => y.hp b (x.hp b z)
    hid := fun b z => by
      rcases y.hid b z with z | z
      · exact x.hid b z
      · exact .inr (dead b z)
    mx := fun n a z => y.mx n a (x.mx n a z)
    mn := fun n a z => by
      rcases y.mn n a z with z | ⟨z1, z2⟩
      · exact x.mn n a z
      · exact .inr ⟨Nat.le_trans x.len z1, dead a z2⟩
    o := y.o.trans x.o
    sto := y.sto
    live := y.live
    len := Nat.le_trans x.len y.len
    hm0 := x.hm0
    rv := fun n mo hl e => by
      obtain ⟨mo', e'⟩ := y.rv n mo (Nat.lt_of_lt_of_le hl x.len) e
      exact x.rv n mo' hl e' }

/-- an operand's value -/
noncomputable def RepW (H : Hd) (R : Vw) (w : Value) : OV → Prop
  | .av x => Rep R w x
  | .own i => ∃ a, H.o i = some a ∧ w = .ref a
noncomputable def RepWL (H : Hd) (R : Vw) : List Value → List OV → Prop
  | [], [] => True
  | v :: vs, x :: xs => RepW H R v x ∧ RepWL H R vs xs
  | _, _ => False
theorem RepW.ss {A : Around} {lo : Nat} {σ σ' : Store} {H H' : Hd} {s s' : Shared} (x : Ss A lo σ H s σ' H' s') (S : Sto σ H s.heap) {w : Value} : ∀ {v : OV}, RepW H (vis s.heap H) w v → RepW H' (vis s'.heap H') w v
  | .av _, r => Rep.mono (x.vis S) r
  | .own i, ⟨a, e, q⟩ => ⟨a, by rw [x.o]; exact e, q⟩
theorem RepWL.ss {A : Around} {lo : Nat} {σ σ' : Store} {H H' : Hd} {s s' : Shared} (x : Ss A lo σ H s σ' H' s') (S : Sto σ H s.heap) : ∀ {ws : List Value} {vs : List OV}, RepWL H (vis s.heap H) ws vs → RepWL H' (vis s'.heap H') ws vs
  | [], [], _ => trivial
  | [], _ :: _, r => r.elim
  | _ :: _, [], r => r.elim
  | _ :: _, _ :: _, r => ⟨RepW.ss x S r.1, RepWL.ss x S r.2⟩

noncomputable def PostE (q : Bool) (A : Around) (lo : Nat) (σ : Store) (H : Hd) (r : ER) (s : Shared) (Q E : Value → Shared → Prop) : Prop := match r with
  | .ok v σ' => ∀ w H' s', Ss A lo σ H s σ' H' s' → RepW H' (vis s'.heap H') w v → Q w s'
  | .exc x σ' => q = true ∧ ∀ e H' sr s', Ss A lo σ H s σ' H' sr → Xp A sr s' e x → E e s'
  | .stuck => False
theorem PostE.ss {q : Bool} {A : Around} {lo : Nat} {σ σ₁ : Store} {H H₁ : Hd} {r : ER} {s s₁ : Shared} {Q E : Value → Shared → Prop} (P : PostE q A lo σ H r s Q E) (x : Ss A lo σ H s σ₁ H₁ s₁) : PostE q A lo σ₁ H₁ r s₁ Q E := by
  cases r with
  | ok v σ' => exact fun w H' s' y r => P w H' s' (x.trans y) r
  | exc z σ' => exact ⟨P.1, fun e H' sr s' y X => P.2 e H' sr s' (x.trans y) X⟩
  | stuck => exact P
/-- a tree comes to r -/
noncomputable def Ev (c : Cx) (q : Bool) (A : Around) (lo : Nat) (σ : Store) (H : Hd) (t : Sem Value) (r : ER) (s : Shared) : Prop := ∀ Q E, PostE q A lo σ H r s Q E → wpAny c.M A t Q E s
noncomputable def EvB (c : Cx) (A : Around) (lo : Nat) (σ : Store) (H : Hd) (t : Sem Bool) (r : Option (Bool × Store)) (s : Shared) : Prop := ∀ b σ', r = some (b, σ') → ∀ Q E, (∀ H' s', Ss A lo σ H s σ' H' s' → Q b s') → wpAny c.M A t Q E s
noncomputable def EvL (c : Cx) (A : Around) (lo : Nat) (σ : Store) (H : Hd) (t : Sem (List Value)) (r : Option (List OV × Store)) (s : Shared) : Prop := ∀ xs σ', r = some (xs, σ') → ∀ Q E, (∀ vs H' s', Ss A lo σ H s σ' H' s' → RepWL H' (vis s'.heap H') vs xs → Q vs s') → wpAny c.M A t Q E s
theorem Ev.stuck {c : Cx} {q : Bool} {A : Around} {lo : Nat} {σ : Store} {H : Hd} {t : Sem Value} {s : Shared} : Ev c q A lo σ H t .stuck s := fun _ _ P => P.elim
noncomputable def ofRes : Res → Store → ER
  | .ok v, σ => .ok (.av v) σ
  | .exc x, σ => .exc x σ
  | .stuck, _ => .stuck
theorem Ev.of_tr {c : Cx} {q : Bool} {A : Around} {lo : Nat} {σ : Store} {H : Hd} {t : Sem Value} {r : Res} {s : Shared} (S : Sto σ H s.heap) (L : Live H s.heap) (X : Tr c q A H t r s) : Ev c q A lo σ H t (ofRes r σ) s := fun Q E P => by
  cases r with
  | ok v => exact X Q E fun w s' k r => P w H s' (.of_kp k S L) r
  | exc x => exact X Q E ⟨P.1, fun e s' Y => P.2 e H s s' (.of_kp (Kp.refl _ _) S L) Y⟩
  | stuck => exact P.elim
/-- nothing that was there is turned -/
theorem Ss.kp {A : Around} {lo : Nat} {σ σ' : Store} {H H' : Hd} {s s' : Shared} (x : Ss A lo σ H s σ' H' s') (hl : σ.length ≤ lo) : Kp A s s' := by
  obtain ⟨h', tk, e⟩ := x.rest
  refine ⟨h', tk, e, ?_⟩
  have := x.kv
  rw [e] at this
  refine this.kh fun b o _ ⟨n, mo, l1, l2, _⟩ => ?_
  rw [List.getElem?_eq_none (by omega)] at l2; cases l2
theorem Ev.pure {c : Cx} {q : Bool} {A : Around} {lo : Nat} {σ σ' : Store} {H : Hd} {t : Sem Value} {y : AV} {s : Shared} (X : Ev c q A lo σ H t (.ok (.av y) σ') s) (hl : σ.length ≤ lo) (hs : σ'.length = σ.length) : Tr c q A H t (.ok y) s := fun Q E P => X Q E fun w H' s' x r => by
  refine P w s' (x.kp hl) (Rep.mono (vis_hide x.hp fun n a e => ?_) r)
  rcases x.mn n a e with e | ⟨e1, _⟩
  · exact e
  · have := x.sto.lt n a e; omega
theorem EvB.pure {c : Cx} {A : Around} {lo : Nat} {σ σ' : Store} {H : Hd} {t : Sem Bool} {b : Bool} {s : Shared} (X : EvB c A lo σ H t (some (b, σ')) s) (hl : σ.length ≤ lo) : TrB c A t b s := fun Q E P => X b σ' rfl Q E fun H' s' x => P s' (x.kp hl)

structure OpsOk (c : Cx) (O : OpsF) : Prop where
  bin : ∀ {q k A} {s : Shared} {H op a b va vb}, Rm c q (k + 1) A s.heap → Live H s.heap → RepO s.heap H va a → RepO s.heap H vb b → Tr c q A H (binaryOp op va vb) (O.bin op a b) s
  inpl : ∀ {q k A} {s : Shared} {H op a b va vb}, Rm c q (k + 1) A s.heap → Live H s.heap → RepO s.heap H va a → RepO s.heap H vb b → Tr c q A H (inplaceOp op va vb) (O.inpl op a b) s
  un : ∀ {q k A} {s : Shared} {H op a va}, Rm c q (k + 1) A s.heap → Live H s.heap → RepO s.heap H va a → Tr c q A H (unaryOp op va) (O.un op a) s
  cmp : ∀ {q k A} {s : Shared} {H op a b va vb r}, Rm c q (k + 1) A s.heap → Live H s.heap → RepO s.heap H va a → RepO s.heap H vb b → O.cmp op a b = some r → Tr c q A H (compareOp op va vb) (.ok (.bool r)) s
  truth : ∀ {q k A} {s : Shared} {H a va r}, Rm c q (k + 1) A s.heap → Live H s.heap → RepO s.heap H va a → O.truth a = some r → TrB c A (truthy va) r s
  idx : ∀ {q k A} {s : Shared} {H a b va vb}, Rm c q (k + 1) A s.heap → Live H s.heap → RepO s.heap H va a → RepO s.heap H vb b → Tr c q A H (getItem va vb) (O.idx a b) s
  idxT : ∀ {s : Shared} {H a va b}, RepO s.heap H va a → O.idx a b ≠ .stuck → ∃ T id, s.TypeIs va T ∧ typeLookup (.type T) "__getitem__" = pure (some (.builtin id))
  slice : ∀ {q k A} {s : Shared} {H a x y z va r ux uy uz}, Rm c q (k + 1) A s.heap → Live H s.heap → RepO s.heap H va a → Rep (vis s.heap H) ux x → Rep (vis s.heap H) uy y → Rep (vis s.heap H) uz z →
    s.heap.get? r = some { cls := .type "slice", data := .fields #[ux, uy, uz] } → Tr c q A H (getItem va (.ref r)) (O.slice a x y z) s
  sliceT : ∀ {s : Shared} {H a va x y z}, RepO s.heap H va a → O.slice a x y z ≠ .stuck → ∃ T id, s.TypeIs va T ∧ typeLookup (.type T) "__getitem__" = pure (some (.builtin id))
  bcall : ∀ {q k A} {s : Shared} {H f v xs vs}, q = true → Rm c q (k + 1) A s.heap → c.h0.StaysIn s.heap → Live H s.heap → RepOL s.heap H vs xs → bootBuiltins (f.name : Str) = some v → Tr c q A H (PySem.call v vs) (O.bcall f xs) s
  itemsR : ∀ {a xs}, O.items a = some xs → (∀ n, a ≠ .ptr n) ∧ (∀ k ys, a ≠ .itr k ys) ∧ a ≠ .any
  emeth : ∀ {q k A} {s : Shared} {H lo σ m a va xs vs}, q = true → Rm c q (k + 1) A s.heap → Live H s.heap → Sto σ H s.heap → Rep (vis s.heap H) va a → RepL (vis s.heap H) vs xs → Ev c q A lo σ H (PySem.call (.builtin ("list." ++ m.name)) (va :: vs)) (O.emeth m σ lo a xs) s
  ometh : ∀ {q k A} {s : Shared} {H m D vs xs ws args xs'}, q = true → Rm c q (k + 1) A s.heap → Live H s.heap → IsL s.heap D vs → xs.length ≤ 1048576 → RepL (vis s.heap H) vs xs → RepL (vis s.heap H) ws args → O.ometh m xs args = some xs' → ∀ (Q E : Value → Shared → Prop),
    (∀ h' vs' tk, IsL h' D vs' → xs'.length ≤ 1048576 → RepL (vis s.heap H) vs' xs' → Heap.SameBut D s.heap h' → Q .none { s with heap := h', toks := tk }) → wpAny c.M A (PySem.call (.builtin ("list." ++ m.name)) (.ref D :: ws)) Q E s
  is_ : ∀ {q k A} {s : Shared} {H op a b va vb r σ}, Rm c q (k + 1) A s.heap → Sto σ H s.heap → Rep (vis s.heap H) va a → Rep (vis s.heap H) vb b → O.is_ a b = some r → (op = .Is ∨ op = .IsNot) → Tr c q A H (compareOp op va vb) (.ok (.bool (if op = .Is then r else !r))) s
  items : ∀ {q k A} {s : Shared} {H a va xs}, Rm c q (k + 1) A s.heap → q = true → Live H s.heap → RepO s.heap H va a → O.items a = some xs → ∀ Q E,
    (∀ I fp P St h' tk, (∀ b o, s.heap.get? b = some o → h'.get? b = some o) → s.heap.get? I = none → fp I → (∀ b, fp b → ∃ o, h'.get? b = some o) → (∀ b, fp b → b = I ∨ va = .ref b) → xs.length ≤ 1048576 → Itr c A I fp P xs.length St → St 0 h' →
      (∀ (i : Nat) v x, P i v → xs[i]? = some x → Rep (vis s.heap H) v x) → Q (.ref I) { s with heap := h', toks := tk }) → wpAny c.M A (pyIter va) Q E s



noncomputable def FnObj (c : Cx) (f : Str) : Prop := ∃ a o fd, c.mg f = some (.ref a) ∧ c.h0.get? a = some o ∧ o.data = .func fd
/-- a def's contract -/
noncomputable def Calls (c : Cx) (k : Nat) (f : Str) (σ : Store) (lo : Nat) (args : List AV) (r : ER) : Prop :=
  ∀ A s H vs a, Rm c true k A s.heap → c.h0.StaysIn s.heap → Live H s.heap → Sto σ H s.heap → (∀ n a, H.m n = some a → c.h0.get? a = none) → RepL (vis s.heap H) vs args → c.mg f = some (.ref a) → Ev c true A lo σ H (call (.ref a) vs) r s
/-- the defs that may be called -/
abbrev Cal := Store → Nat → Nat → List AV → ER
structure CallsOk (c : Cx) (k : Nat) (call : Cal) (fname : Nat → Str) : Prop where
  ok : ∀ σ lo f args, call σ lo f args ≠ .stuck → Calls c k (fname f) σ lo args (call σ lo f args) ∧ FnObj c (fname f)

structure PR where
  v : ER
  t : Option (Bool × Store)

noncomputable def derefS (ρ : List (Option Ent)) (σ : Store) : OV → AV
  | .own i => match ρ[i]? with
    | some (some (.own xs)) => .lst xs
    | _ => .any
  | .av x => deref σ x
noncomputable def ER.bind : ER → (OV → Store → ER) → ER
  | .ok v σ, f => f v σ
  | .exc x σ, _ => .exc x σ
  | .stuck, _ => .stuck
noncomputable def ER.bindA : ER → (AV → Store → ER) → ER
  | .ok (.av v) σ, f => f v σ
  | .ok (.own _) _, _ => .stuck
  | .exc x σ, _ => .exc x σ
  | .stuck, _ => .stuck
noncomputable def ofB : Option Bool → Store → ER
  | some b, σ => .ok (.av (.bool b)) σ
  | none, _ => .stuck
noncomputable def ER.truth (tr : AV → Option Bool) (ρ : List (Option Ent)) : ER → Option (Bool × Store)
  | .ok v σ => (tr (derefS ρ σ v)).map fun b => (b, σ)
  | _ => none
noncomputable def PR.of (tr : AV → Option Bool) (ρ : List (Option Ent)) (r : ER) : PR := ⟨r, r.truth tr ρ⟩
noncomputable def plains : List OV → Option (List AV)
  | [] => some []
  | .av x :: r => (plains r).map (x :: ·)
  | .own _ :: _ => none
noncomputable def onL (x : Option (List OV × Store)) (f : List OV → Store → ER) : ER := match x with
  | some (l, σ) => f l σ
  | none => .stuck
noncomputable def onP (x : Option (List OV × Store)) (f : List AV → Store → ER) : ER := onL x fun l σ => match plains l with
  | some l => f l σ
  | none => .stuck
noncomputable def mapF (f : AV → Option (Option AV)) : List AV → Option (List AV)
  | [] => some []
  | x :: r => match f x with
    | some (some y) => (mapF f r).map (y :: ·)
    | some none => mapF f r
    | none => none
noncomputable def mask (caps : List Nat) (ρ : List (Option Ent)) : List (Option Ent) := ρ.mapIdx fun i e => if caps.contains i then e else none
noncomputable def elemF (n : Nat) : ER → Option AV
  | .ok (.av v) σ => if σ.length = n then some v else none
  | _ => none
noncomputable def compF (n : Nat) (t : Option (Bool × Store)) (e : ER) : Option (Option AV) := match t with
  | some (true, _) => (elemF n e).map some
  | some (false, _) => some none
  | none => none

/-- the state within a comprehension -/
noncomputable def Fs.inner (st : Fs) (caps : List Nat) (x : AV) : Fs := ⟨mask caps st.ρ ++ [some (.val x)], st.σ, st.σ.length, st.n0⟩
abbrev Fs.at (st : Fs) (σ : Store) : Fs := { st with σ := σ }
noncomputable def slotV (st : Fs) (i : Nat) : ER := match st.ρ[i]? with
  | some (some (.val v)) => .ok (.av v) st.σ
  | some (some (.own _)) => .ok (.own i) st.σ
  | _ => .stuck
noncomputable def onItems (x : Option (List AV)) (f : List AV → ER) : ER := match x with
  | some l => f l
  | none => .stuck
section
variable (O : OpsF) (cal : Cal) (q : Bool)
mutual
noncomputable def pe (st : Fs) : PE → PR
  | .const v => .of O.truth st.ρ (.ok (.av v) st.σ)
  | .name i => .of O.truth st.ρ (slotV st i)
  | .glob b => .of O.truth st.ρ (.ok (.av (.type b.name)) st.σ)
  | .bin op l r => .of O.truth st.ρ ((pe st l).v.bind fun a σ₁ => (pe (st.at σ₁) r).v.bind fun b σ₂ => ofRes (O.bin op (derefS st.ρ σ₂ a) (derefS st.ρ σ₂ b)) σ₂)
  | .un op x => ⟨(pe st x).v.bind fun a σ₁ => ofRes (O.un op (derefS st.ρ σ₁ a)) σ₁, match op with | .Not => (pe st x).t.map fun p => (!p.1, p.2) | _ => ((pe st x).v.bind fun a σ₁ => ofRes (O.un op (derefS st.ρ σ₁ a)) σ₁).truth O.truth st.ρ⟩
  | .cmp op l r => .of O.truth st.ρ (match op with
    | .Is => (pe st l).v.bindA fun a σ₁ => (pe (st.at σ₁) r).v.bindA fun b σ₂ => ofB (O.is_ a b) σ₂
    | .IsNot => (pe st l).v.bindA fun a σ₁ => (pe (st.at σ₁) r).v.bindA fun b σ₂ => ofB ((O.is_ a b).map (!·)) σ₂
    | op => (pe st l).v.bind fun a σ₁ => (pe (st.at σ₁) r).v.bind fun b σ₂ => ofB (O.cmp op (derefS st.ρ σ₂ a) (derefS st.ρ σ₂ b)) σ₂)
  | .bop op xs => ⟨pbop st op xs, pall st op xs⟩
  | .ife t a b => match (pe st t).t with
    | some (true, σ₁) => pe (st.at σ₁) a
    | some (false, σ₁) => pe (st.at σ₁) b
    | none => ⟨.stuck, none⟩
  | .list xs => .of O.truth st.ρ (onP (pes st xs) fun l σ₁ => if l.length ≤ 100 then .ok (.av (.lst l)) σ₁ else .stuck)
  | .tup xs => .of O.truth st.ρ (onP (pes st xs) fun l σ₁ => if l.length ≤ 100 then .ok (.av (.tup l)) σ₁ else .stuck)
  | .newl xs => .of O.truth st.ρ (onP (pes st xs) fun l σ₁ => if l.length ≤ 100 then .ok (.av (.ptr σ₁.length)) (σ₁ ++ [some (.lst l)]) else .stuck)
  | .sub o i => .of O.truth st.ρ ((pe st o).v.bind fun a σ₁ => (pe (st.at σ₁) i).v.bind fun b σ₂ => ofRes (O.idx (derefS st.ρ σ₂ a) (derefS st.ρ σ₂ b)) σ₂)
  | .slice o a b s => .of O.truth st.ρ ((pe st o).v.bind fun v σ₁ => (pe (st.at σ₁) a).v.bindA fun x σ₂ => (pe (st.at σ₂) b).v.bindA fun y σ₃ => (pe (st.at σ₃) s).v.bindA fun z σ₄ => ofRes (O.slice (derefS st.ρ σ₄ v) x y z) σ₄)
  | .call f xs => .of O.truth st.ρ (match q with | true => onP (pes st xs) fun l σ₁ => cal σ₁ st.lo f l | false => .stuck)
  | .bcall f xs => .of O.truth st.ρ (match q with | true => onL (pes st xs) fun l σ₁ => ofRes (O.bcall f (l.map (derefS st.ρ σ₁))) σ₁ | false => .stuck)
  | .emeth o m xs => .of O.truth st.ρ (match q with
    | true => (pe st o).v.bindA fun a σ₁ => (match deref σ₁ a with
      | .lst _ => onP (pes (st.at σ₁) xs) fun l σ₂ => O.emeth m σ₂ st.lo a l
      | _ => .stuck)
    | false => .stuck)
  | .comp caps elt src conds => .of O.truth st.ρ (match q with
    | true => (pe st src).v.bind fun a σ₁ => onItems (O.items (derefS st.ρ σ₁ a)) fun l =>
      onItems (mapF (fun x => compF σ₁.length (pall ((st.at σ₁).inner caps x) .And conds) (pe ((st.at σ₁).inner caps x) elt).v) l) fun ys => .ok (.av (.lst ys)) σ₁
    | false => .stuck)
  | .setd x => .of O.truth st.ρ ((pe st x).v.bindA fun a σ₁ => match a with | .int i => .ok (.av (.set false [i])) σ₁ | _ => .stuck)
noncomputable def pes (st : Fs) : PEs → Option (List OV × Store)
  | .nil => some ([], st.σ)
  | .cons e es => match (pe st e).v with
    | .ok v σ₁ => (match pes (st.at σ₁) es with
      | some (l, σ₂) => some (v :: l, σ₂)
      | none => none)
    | _ => none
noncomputable def pall (st : Fs) (op : BoolOp) : PEs → Option (Bool × Store)
  | .nil => some (op == .And, st.σ)
  | .cons e es => match op, (pe st e).t with
    | .And, some (false, σ₁) => some (false, σ₁)
    | .Or, some (true, σ₁) => some (true, σ₁)
    | .And, some (true, σ₁) => pall (st.at σ₁) .And es
    | .Or, some (false, σ₁) => pall (st.at σ₁) .Or es
    | _, none => none
noncomputable def pbop (st : Fs) (op : BoolOp) : PEs → ER
  | .nil => .stuck
  | .cons e .nil => (pe st e).v
  | .cons e (.cons e' es) => (pe st e).v.bind fun v σ₁ => match op, O.truth (derefS st.ρ σ₁ v) with
    | .And, some false => .ok v σ₁
    | .Or, some true => .ok v σ₁
    | .And, some true => pbop (st.at σ₁) .And (.cons e' es)
    | .Or, some false => pbop (st.at σ₁) .Or (.cons e' es)
    | _, none => .stuck
end
end
end Mine
end
section
open PySem PySem.W PyProof.Rows
namespace Mine

theorem closure_ok {env : Env} : ∀ (names : List (Str × NameKind)) (acc : List (Str × Addr)), (∀ y, (y, NameKind.free) ∈ names → (env.cells.lookup y).isSome = true) →
    ∃ cl, (forIn names acc fun (p : Str × NameKind) (cs : List (Str × Addr)) => (if (p.2 == NameKind.free) = true then do let a ← cellOf env p.1; pure (ForInStep.yield ((p.1, a) :: cs)) else pure (ForInStep.yield cs) : Sem (ForInStep (List (Str × Addr))))) = pure cl ∧
      (∀ y cc, cl.lookup y = some cc → env.cells.lookup y = some cc ∨ acc.lookup y = some cc) ∧ (∀ y, (y, NameKind.free) ∈ names ∨ (∃ cc, acc.lookup y = some cc ∧ env.cells.lookup y = some cc) → cl.lookup y = env.cells.lookup y)
  | [], acc, _ => ⟨acc, by rw [List.forIn_nil], fun _ _ e => .inr e, fun y h => by
      rcases h with h | ⟨cc, a, b⟩
      · cases h
      · rw [a, b]⟩
  | (n, kd) :: r, acc, h => by
    rw [List.forIn_cons]
    by_cases hk : (kd == NameKind.free) = true
    · have hkf : kd = .free := by simpa using hk
      subst hkf
      obtain ⟨a, ha⟩ := Option.isSome_iff_exists.mp (h n (List.mem_cons_self ..))
      obtain ⟨cl, e, p1, p2⟩ := closure_ok r ((n, a) :: acc) fun y hy => h y (List.mem_cons_of_mem _ hy)
      refine ⟨cl, ?_, fun y cc q => ?_, fun y hy => ?_⟩
      · simp only [beq_self_eq_true, if_true]
        have : cellOf env n = pure a := by unfold cellOf; rw [ha]
        rw [this]
        simpa using e
      · rcases p1 y cc q with q | q
        · exact .inl q
        · rw [List.lookup_cons] at q
          cases hb : y == n with
          | true => rw [hb] at q; cases q; rw [beq_iff_eq.mp hb]; exact .inl ha
          | false => rw [hb] at q; exact .inr q
      · refine p2 y ?_
        by_cases hyn : y = n
        · subst hyn; exact .inr ⟨a, by simp, ha⟩
        · rcases hy with hy | ⟨cc, q1, q2⟩
          · rcases List.mem_cons.mp hy with e' | hy
            · cases e'; exact absurd rfl hyn
            · exact .inl hy
          · refine .inr ⟨cc, ?_, q2⟩
            rw [List.lookup_cons]
            have : (y == n) = false := by simpa using hyn
            rw [this]; exact q1
    · obtain ⟨cl, e, p1, p2⟩ := closure_ok r acc fun y hy => h y (List.mem_cons_of_mem _ hy)
      refine ⟨cl, ?_, p1, fun y hy => p2 y ?_⟩
      · rw [if_neg hk]; simpa using e
      · rcases hy with hy | hy
        · rcases List.mem_cons.mp hy with e' | hy
          · cases e'; exact absurd rfl hk
          · exact .inl hy
        · exact .inr hy
theorem closureFor_ok {env : Env} {scope : Scope} (h : ∀ y, (y, NameKind.free) ∈ scope.names → (env.cells.lookup y).isSome = true) :
    ∃ cl, closureFor scope env = pure cl ∧ (∀ y cc, cl.lookup y = some cc → env.cells.lookup y = some cc) ∧ (∀ y, (y, NameKind.free) ∈ scope.names → cl.lookup y = env.cells.lookup y) := by
  obtain ⟨cl, e, p1, p2⟩ := closure_ok scope.names [] h
  refine ⟨cl, ?_, fun y cc q => (p1 y cc q).elim id fun q => by simp at q, fun y hy => p2 y (.inl hy)⟩
  unfold closureFor
  simp only [bind_pure_comp] at e ⊢
  first
    | (rw [← e]; done)
    | (simpa using e)

/-- the tests of a comprehension -/
abbrev testsOf (ifs : List Expr) (env : Env) : Sem Bool := forIn ifs true fun c r => if r = true then do let ok ← isTrue c env (eval c env); pure (ForInStep.yield ok) else pure (ForInStep.yield r)

end Mine
end
section
open PySem PySem.W PyProof.Rows
namespace Mine

theorem lookup_relabel_free {env : Env} (hk : env.scope.kind = .function) : ∀ {names : List (Str × NameKind)} {x : Str}, names.lookup x = some .free → env.kindOf x = some .cell →
    (names.map fun (n, k) => if (k == NameKind.free && env.scope.kind == .function && env.kindOf n == some .cell) then (n, NameKind.cell) else (n, k)).lookup x = some .cell
  | [], _, h, _ => by simp at h
  | (n, k) :: r, x, h, hc => by
    have ih := @lookup_relabel_free env hk r x
    show List.lookup x ((if (k == NameKind.free && env.scope.kind == .function && env.kindOf n == some .cell) = true then (n, NameKind.cell) else (n, k)) :: _) = _
    cases hx : x == n with
    | true =>
      simp only [List.lookup_cons, hx] at h
      cases h
      have e : x = n := beq_iff_eq.mp hx
      subst e
      have : (NameKind.free == NameKind.free && env.scope.kind == .function && env.kindOf x == some .cell) = true := by rw [hk, hc]; decide
      rw [if_pos this]
      simp [List.lookup_cons]
    | false =>
      simp only [List.lookup_cons, hx] at h
      by_cases hcc : (k == NameKind.free && env.scope.kind == .function && env.kindOf n == some .cell) = true
      · rw [if_pos hcc]; simp only [List.lookup_cons, hx]; exact ih h hc
      · rw [if_neg hcc]; simp only [List.lookup_cons, hx]; exact ih h hc
theorem lookup_relabel_cell {env : Env} : ∀ {names : List (Str × NameKind)} {x : Str}, (∀ y ∈ names, y.2 ≠ .cell) →
    (names.map fun (n, k) => if (k == NameKind.free && env.scope.kind == .function && env.kindOf n == some .cell) then (n, NameKind.cell) else (n, k)).lookup x = some .cell → (x, NameKind.free) ∈ names ∧ env.kindOf x = some .cell
  | [], _, _, h => by simp at h
  | (n, k) :: r, x, hno, h => by
    have ih := @lookup_relabel_cell env r x fun y hy => hno y (List.mem_cons_of_mem _ hy)
    have h : List.lookup x ((if (k == NameKind.free && env.scope.kind == .function && env.kindOf n == some .cell) = true then (n, NameKind.cell) else (n, k)) :: (r.map fun (n, k) => if (k == NameKind.free && env.scope.kind == .function && env.kindOf n == some .cell) then (n, NameKind.cell) else (n, k))) = some .cell := h
    cases hx : x == n with
    | true =>
      have e : x = n := beq_iff_eq.mp hx
      subst e
      by_cases hcc : (k == NameKind.free && env.scope.kind == .function && env.kindOf x == some .cell) = true
      · simp only [Bool.and_eq_true, beq_iff_eq] at hcc
        obtain ⟨⟨h1, _⟩, h3⟩ := hcc
        subst h1
        exact ⟨List.mem_cons_self .., h3⟩
      · rw [if_neg hcc] at h
        simp only [List.lookup_cons, hx] at h
        cases h
        exact absurd rfl (hno (x, NameKind.cell) (List.mem_cons_self ..))
    | false =>
      have : List.lookup x (r.map fun (n, k) => if (k == NameKind.free && env.scope.kind == .function && env.kindOf n == some .cell) then (n, NameKind.cell) else (n, k)) = some .cell := by
        by_cases hcc : (k == NameKind.free && env.scope.kind == .function && env.kindOf n == some .cell) = true
        · rw [if_pos hcc] at h; simpa only [List.lookup_cons, hx] using h
        · rw [if_neg hcc] at h; simpa only [List.lookup_cons, hx] using h
      exact ⟨List.mem_cons_of_mem _ (ih this).1, (ih this).2⟩

theorem vis_new {Fr : Addr → Prop} {H H₃ : Hd} {h h₂ : Heap} (k : Kh Fr h h₂) (hN : ∀ b, H₃.p b → H.p b ∨ h.get? b = none) (hM : ∀ n a, H.m n = some a → H₃.m n = some a) : (vis h H).Le (vis h₂ H₃) := ⟨by
  rintro a c d ⟨n, o, e, r⟩
  obtain ⟨_, o', e', r'⟩ := (k.vis (H := H)).r a c d ⟨n, o, e, r⟩
  refine ⟨fun z => ?_, o', e', r'⟩
  rcases hN a z with z | z
  · exact n z
  · (rw [e] at z; cases z), hM⟩
theorem Sto.new {Fr : Addr → Prop} {σ : Store} {H H₃ : Hd} {h h₂ : Heap} (S : Sto σ H h) (k : Kh Fr h h₂) (hH : ∀ b, H.p b → H₃.p b) (hN : ∀ b, H₃.p b → H.p b ∨ h.get? b = none) (hM : H₃.m = H.m) : Sto σ H₃ h₂ where
  at' := fun n mo e => let ⟨a, q, r⟩ := S.at' n mo e; ⟨a, by rw [hM]; exact q, r.kv (k.kv (W := fun _ => False)) id (vis_new k hN fun n a e => by rw [hM]; exact e)⟩
  inj := fun n n' a e e' => S.inj n n' a (by rw [← hM]; exact e) (by rw [← hM]; exact e')
  lt := fun n a e => S.lt n a (by rw [← hM]; exact e)
  hid := fun n a mo q e => hH a (S.hid n a mo q (by rw [← hM]; exact e))
  al := fun n a e => let ⟨_, q⟩ := S.al n a (by rw [← hM]; exact e); let ⟨_, q'⟩ := (k a _ q).2; ⟨_, q'⟩
  tot := fun n a e => S.tot n a (by rw [← hM]; exact e)

theorem mask_get {caps : List Nat} {ρ : List (Option Ent)} {i : Nat} {t : Ent} (h : (mask caps ρ)[i]? = some (some t)) : i ∈ caps ∧ ρ[i]? = some (some t) := by
  unfold mask at h
  rw [List.getElem?_mapIdx] at h
  cases q : ρ[i]? with
  | none => rw [q] at h; simp at h
  | some e =>
    rw [q] at h
    simp only [Option.map_some, Option.some.injEq] at h
    split at h
    · rename_i hc
      exact ⟨by simpa using hc, by rw [h]⟩
    · cases h
theorem mask_length {caps : List Nat} {ρ : List (Option Ent)} : (mask caps ρ).length = ρ.length := by simp [mask]

structure CompOk (names : List Str) (env : Env) (scope : Scope) (x : Str) (caps : List Nat) : Prop where
  cell : ∀ y ∈ scope.names, y.2 ≠ .cell
  kind : scope.kind = .function
  loc : ∀ y ∈ scope.names, y.2 = .local → scope.names.lookup y.1 = some .local
  var : scope.names.lookup x = some .local
  free : ∀ y, (y, NameKind.free) ∈ scope.names → env.kindOf y = some .cell
  cap : ∀ i ∈ caps, ∀ y, names[i]? = some y → scope.names.lookup y = some .free

theorem comp_fm {c : Cx} {Fr : Addr → Prop} {names : List Str} {env cenv : Env} {st : Fs} {fe : FE} {H H₃ : Hd} {h h₂ : Heap} {scope : Scope} {x : Str} {caps : List Nat} {m : Str → Option Value} {v : Value} {item : AV}
    (F : Fm c Fr names env st fe H h) (hlen : st.ρ.length = names.length) (K : CompOk names env scope x caps) (k : Kh Fr h h₂) (hH : ∀ b, H.p b → H₃.p b) (hN : ∀ b, H₃.p b → H.p b ∨ h.get? b = none) (hM : H₃.m = H.m) (hO : H₃.o = H.o) (hL : Live H₃ h₂)
    (hC : h₂.Ns cenv.locals m) (hCH : H₃.p cenv.locals) (hCn : h.get? cenv.locals = none) (hmx : m x = some v) (hr : Rep (vis h₂ H₃) v item) (hsc : cenv.scope = relabel scope env) (hg : cenv.globals = env.globals) (hb : cenv.builtins = env.builtins) (hcd : cenv.code = env.code)
    (hcl1 : ∀ y cc, cenv.cells.lookup y = some cc → env.cells.lookup y = some cc) (hcl2 : ∀ y, (y, NameKind.free) ∈ scope.names → cenv.cells.lookup y = env.cells.lookup y) :
    Fm c Fr (names ++ [x]) cenv (st.inner caps item) fe H₃ h₂ := by
  have kx : cenv.kindOf x = some .local := by
    show cenv.scope.names.lookup x = some .local
    rw [hsc]; exact lookup_relabel_local K.var
  have kc : ∀ y, scope.names.lookup y = some .free → cenv.kindOf y = some .cell := fun y hy => by
    show cenv.scope.names.lookup y = some .cell
    rw [hsc]; exact lookup_relabel_free F.kind hy (K.free y (mem_of_lookup hy))
  have get : ∀ (i : Nat) y t, (names ++ [x])[i]? = some y → (mask caps st.ρ ++ [some (Ent.val item)])[i]? = some (some t) → (i = names.length ∧ y = x ∧ t = .val item) ∨ (i < names.length ∧ names[i]? = some y ∧ i ∈ caps ∧ st.ρ[i]? = some (some t)) := by
    intro i y t h1 h2
    by_cases hi : i < names.length
    · rw [List.getElem?_append_left hi] at h1
      rw [List.getElem?_append_left (by rw [mask_length, hlen]; exact hi)] at h2
      exact .inr ⟨hi, h1, mask_get h2⟩
    · have hge : names.length ≤ i := Nat.le_of_not_lt hi
      rw [List.getElem?_append_right hge] at h1
      rw [List.getElem?_append_right (by rw [mask_length, hlen]; exact hge), mask_length, hlen] at h2
      cases hz : i - names.length with
      | zero => rw [hz] at h1 h2; simp at h1 h2; exact .inl ⟨by omega, h1.symm, h2.symm⟩
      | succ n => rw [hz] at h1; simp at h1
  have kn : ∀ {b}, h₂.get? b = none → fe.h.get? b = none → True := fun _ _ => trivial
  exact {
    keep := F.keep.trans k.kv
    wsub := F.wsub
    base := F.base
    baseF := F.baseF
    basew := F.basew
    hle := fun b q => hH b (F.hle b q)
    mle := fun n a e => by rw [hM]; exact F.mle n a e
    mold := fun n a l e => F.mold n a l (by rw [← hM]; exact e)
    mnew := fun n a l e => F.mnew n a l (by rw [← hM]; exact e)
    mw := fun n a mo l l' q e => absurd (Nat.lt_of_lt_of_le l F.n0le) (Nat.not_lt.mpr l')
    hlt := hL
    felt := F.felt
    wlt := F.wlt
    kind := by rw [hsc]; exact K.kind
    glob := hg.trans F.glob
    bi := hb.trans F.bi
    code := by rw [hcd]; exact F.code
    ns := ⟨m, hC⟩
    hl := hCH
    lnew := by
      cases e : fe.h.get? cenv.locals with
      | none => rfl
      | some o =>
        exfalso
        by_cases hw : fe.w cenv.locals
        · obtain ⟨o', e'⟩ := F.hlt _ (F.hle _ (F.wsub _ hw))
          rw [hCn] at e'; cases e'
        · obtain ⟨sl, e'⟩ := (F.keep _ o hw e).2
          rw [hCn] at e'; cases e'
    hc := fun y cc qk q => by
      have qk : cenv.scope.names.lookup y = some .cell := qk
      rw [hsc] at qk
      obtain ⟨_, q2⟩ := lookup_relabel_cell K.cell qk
      obtain ⟨a, b⟩ := F.hc y cc q2 (hcl1 y cc q)
      exact ⟨hH _ a, b⟩
    cl := fun y q => by
      have q : cenv.scope.names.lookup y = some .cell := q
      rw [hsc] at q
      obtain ⟨q1, q2⟩ := lookup_relabel_cell K.cell q
      obtain ⟨cc, w, e, n⟩ := F.cl y q2
      exact ⟨cc, w, (hcl2 y q1).trans e, k.cell n⟩
    capart := fun y z cc a b => F.capart y z cc (hcl1 y cc a) (hcl1 z cc b)
    vals := fun i y t h1 h2 => by
      rcases get i y t h1 h2 with ⟨_, rfl, rfl⟩ | ⟨_, n1, n2, n3⟩
      · exact ⟨v, .inl ⟨kx, m, hC, hmx⟩, hr⟩
      · obtain ⟨w, nv, r⟩ := F.vals i y t n1 n3
        have hfr := K.cap i n2 y n1
        have hcell := K.free y (mem_of_lookup hfr)
        rcases nv with ⟨q, _⟩ | ⟨q, cc, e, n⟩
        · rw [hcell] at q; cases q
        · exact ⟨w, .inr ⟨kc y hfr, cc, (hcl2 y (mem_of_lookup hfr)).trans e, k.cell n⟩, r.mono (vis_new k hN fun n a e => by rw [hM]; exact e) (fun a e => by rw [hO]; exact e) fun a vs _ l => k.isL l⟩
    own := fun i a e => by
      rw [hO] at e
      obtain ⟨p, q, r, vs, l⟩ := F.own i a e
      exact ⟨hH a p, q, fun n => by rw [hM]; exact r n, vs, k.isL l⟩
    oinj := fun i j a => by rw [hO]; exact F.oinj i j a
    sto := F.sto.new k hH hN hM
    mh0 := fun n a e => F.mh0 n a (by rw [← hM]; exact e)
    n0le := F.n0le }

theorem mapF_snoc {f : AV → Option (Option AV)} : ∀ {l : List AV} {ys : List AV} {x : AV}, mapF f l = some ys → mapF f (l ++ [x]) = match f x with | some (some y) => some (ys ++ [y]) | some none => some ys | none => none
  | [], ys, x, h => by
    simp only [mapF, Option.some.injEq] at h
    subst h
    simp only [List.nil_append, mapF]
    cases f x with
    | none => rfl
    | some r => cases r <;> rfl
  | z :: l, ys, x, h => by
    simp only [mapF, List.cons_append] at h ⊢
    cases hz : f z with
    | none => rw [hz] at h; cases h
    | some r =>
      rw [hz] at h
      cases r with
      | none => exact mapF_snoc h
      | some y =>
        simp only [Option.map_eq_some_iff] at h
        obtain ⟨ys', h1, rfl⟩ := h
        simp only [mapF_snoc h1]
        cases f x with
        | none => rfl
        | some r => cases r <;> rfl
theorem mapF_take {f : AV → Option (Option AV)} : ∀ {l : List AV} {ys : List AV} (j : Nat), mapF f l = some ys → ∃ zs, mapF f (l.take j) = some zs
  | _, _, 0, _ => ⟨[], by simp [mapF]⟩
  | [], _, _ + 1, _ => ⟨[], by simp [mapF]⟩
  | z :: l, ys, j + 1, h => by
    simp only [mapF, List.take_succ_cons] at h ⊢
    cases hz : f z with
    | none => rw [hz] at h; cases h
    | some r =>
      rw [hz] at h
      cases r with
      | none => exact mapF_take j h
      | some y =>
        simp only [Option.map_eq_some_iff] at h
        obtain ⟨ys', h1, _⟩ := h
        obtain ⟨zs, e⟩ := mapF_take j h1
        exact ⟨y :: zs, by simp [e]⟩
theorem mapF_length {f : AV → Option (Option AV)} : ∀ {l ys : List AV}, mapF f l = some ys → ys.length ≤ l.length
  | [], ys, h => by simp only [mapF, Option.some.injEq] at h; subst h; simp
  | z :: l, ys, h => by
    simp only [mapF] at h
    cases hz : f z with
    | none => rw [hz] at h; cases h
    | some r =>
      rw [hz] at h
      cases r with
      | none => have := mapF_length h; simp; omega
      | some y =>
        simp only [Option.map_eq_some_iff] at h
        obtain ⟨ys', h1, rfl⟩ := h
        have := mapF_length h1
        simp; omega
theorem mapF_step {f : AV → Option (Option AV)} {l ys : List AV} {j : Nat} {x : AV} {zs : List AV} (h : mapF f l = some ys) (hx : l[j]? = some x) (hz : mapF f (l.take j) = some zs) :
    (∃ y, f x = some (some y) ∧ mapF f (l.take (j + 1)) = some (zs ++ [y])) ∨ (f x = some none ∧ mapF f (l.take (j + 1)) = some zs) := by
  have e : l.take (j + 1) = l.take j ++ [x] := by rw [List.take_add_one, hx]; rfl
  obtain ⟨ws, hw⟩ := mapF_take (j + 1) h
  rw [e, mapF_snoc hz] at hw
  rw [e, mapF_snoc hz]
  cases hf : f x with
  | none => rw [hf] at hw; cases hw
  | some r =>
    cases r with
    | none => exact .inr ⟨rfl, rfl⟩
    | some y => exact .inl ⟨y, rfl, rfl⟩
end Mine
end
section
open PySem PySem.W PyProof.Rows
namespace Mine

/-- what a turn of a comprehension does with an item -/
noncomputable def TurnOk (c : Cx) (q : Bool) (k : Nat) (A : Around) (names : List Str) (env : Env) (st : Fs) (fe : FE) (scope : Scope) (x : Str) (caps : List Nat) (elt : Expr) (ifs : List Expr) (f : AV → Option (Option AV)) : Prop :=
  ∀ item (s₃ : Shared) H₃ cenv, cenv.scope = relabel scope env → Rm c q k A s₃.heap → Fm c (FrA A) (names ++ [x]) cenv (st.inner caps item) fe H₃ s₃.heap →
    (∀ y, f item = some (some y) → TrB c A (testsOf ifs cenv) true s₃ ∧ ∀ s₄, Kp A s₃ s₄ → Tr c q A H₃ (eval elt cenv) (.ok y) s₄) ∧ (f item = some none → TrB c A (testsOf ifs cenv) false s₃)

theorem Kh.trans' {F W : Addr → Prop} {h₁ h₂ h₃ : Heap} (x : Kh F h₁ h₂) (y : Kv F W h₂ h₃) (n : ∀ b o, h₁.get? b = some o → ¬ W b) : Kh F h₁ h₃ := fun b o e =>
  ⟨fun z => (y b o (n b o e) ((x b o e).1 z)).1 z, by obtain ⟨sl, e₂⟩ := (x b o e).2; obtain ⟨sl', e₃⟩ := (y b _ (n b o e) e₂).2; exact ⟨sl', e₃⟩⟩

theorem list_appendL {prog : Program} {w : World} {A : Around} {E : Value → Shared → Prop} {s : Shared} {l : Addr} {items : List Value} {x : Value} {Q : Value → Shared → Prop} (hsz : (List.toArray items).size ≤ sizeLine) (hl : IsL s.heap l items)
    (hQ : ∀ h', IsL h' l (items ++ [x]) → Heap.SameBut l s.heap h' → Q .none { s with heap := h' }) :
    wpAny (model prog w) A (call (.builtin "list.append") [.ref l, x]) Q E s := by
  obtain ⟨o, n, ho, hc, hd, hn⟩ := id hl
  obtain ⟨n', hd'⟩ := Obj.data_mapSeq hd (·.push x)
  refine wpAny_call_entry slot_list_append hl.isList.typeIs entry_list_append ?_ (args_list_append _ _)
  show wpAny _ _ (updateSeq l (·.push x) >>= fun _ => ret .none) _ _ s
  refine wpAny_bind ?_
  refine wpAny_updateSeq ho hd (wpAny_pure ⟨.none, rfl, hQ _ ?_ (Heap.SameBut.update ..)⟩)
  refine ⟨_, n', Heap.get?_update_self _ ho (Obj.isFreed_of_seq hd'), (Obj.cls_mapSeq ..).trans hc, by rw [hd']; simp, ?_⟩
  obtain ⟨oc, od, odt, os⟩ := o
  simp only at hd hn ⊢
  subst hd
  exact hn

theorem comp_core {c : Cx} {q : Bool} {k : Nat} {A : Around} {s₁ s₂ : Shared} {H : Hd} {fe : FE} {names : List Str} {env : Env} {st : Fs} {elt iter : Expr} {x : Str} {px pos : Pos} {ifs : List Expr} {scope : Scope} {caps : List Nat}
    {cl : List (Str × Addr)} {I : Addr} {fp : Addr → Prop} {P : Nat → Value → Prop} {St : Nat → Heap → Prop} {l ys : List AV} {f : AV → Option (Option AV)} {E : Value → Shared → Prop} {RR : Value → Addr → Result → Shared → Prop}
    (hm : Rm c q k A s₁.heap) (F : Fm c (FrA A) names env st fe H s₁.heap) (hlen : st.ρ.length = names.length) (K : CompOk names env scope x caps)
    (hcl1 : ∀ y cc, cl.lookup y = some cc → env.cells.lookup y = some cc) (hcl2 : ∀ y, (y, NameKind.free) ∈ scope.names → cl.lookup y = env.cells.lookup y)
    (hs : ∃ h' tk, s₂ = { s₁ with heap := h', toks := tk }) (hk : ∀ b o, s₁.heap.get? b = some o → s₂.heap.get? b = some o) (hI : s₁.heap.get? I = none) (hIl : ∀ b, fp b → ∃ o, s₂.heap.get? b = some o) (hfI : fp I)
    (W : Itr c A I fp P l.length St) (hst : St 0 s₂.heap) (hsz : l.length ≤ 1048576) (hP : ∀ (i : Nat) v y, P i v → l[i]? = some y → Rep (vis s₁.heap H) v y)
    (hf : mapF f l = some ys) (T : TurnOk c q k A names env st fe scope x caps elt ifs f)
    (hR : ∀ D C h' tk m' vs, s₂.heap.get? D = none → s₂.heap.get? C = none → D ≠ C → h'.Ns C m' → IsL h' D vs → RepL (vis h' (H.add fun b => b = C ∨ b = D ∨ b = I)) vs ys → Kv (FrA A) (fun b => b = I) s₂.heap h' →
      RR (.ref D) C (.ok .next) { s₂ with heap := h', toks := tk }) :
    wpAny c.M A (newList []) (fun acc s₃ => wpAny c.M A (newFunctionEnv scope env.globals cl [] env.qual none .none (some env)) (fun cenv s₄ =>
      codeAny c.M A (.compStart (.ListComp elt [⟨.Name x px, iter, ifs, 0⟩] scope pos) 0 (.ref I) acc { cenv with scope := relabel scope env }) (RR acc cenv.locals) s₄) E s₃) E s₂ := by
  refine wpAny_newObj_type (wpAny_newFunctionEnv K.cell (by intro y hy; simp at hy) (fun h₁ hns₁ hsb₁ => ?_) K.kind)
  dsimp only at hns₁ hsb₁ ⊢
  generalize hD : s₂.heap.objs.size = D
  generalize hH2 : s₂.heap.push { cls := .type "list", dict := none, data := .seq ([] : List Value).toArray } = H2 at hns₁ hsb₁ ⊢
  generalize hC : H2.objs.size = C at hns₁ hsb₁ ⊢
  have hCD : C = D + 1 := by rw [← hC, ← hH2, Heap.size_push, hD]
  have hDC : D ≠ C := by omega
  have hDn : s₂.heap.get? D = none := Heap.get?_none_of_le (by omega)
  have hCn : s₂.heap.get? C = none := Heap.get?_none_of_le (by omega)
  have hDn₁ : s₁.heap.get? D = none := by
    cases e : s₁.heap.get? D with
    | none => rfl
    | some o => have := hk _ _ e; rw [hDn] at this; cases this
  have hCn₁ : s₁.heap.get? C = none := by
    cases e : s₁.heap.get? C with
    | none => rfl
    | some o => have := hk _ _ e; rw [hCn] at this; cases this
  have old : ∀ b o, s₂.heap.get? b = some o → h₁.get? b = some o := fun b o e => by
    have e1 : H2.get? b = some o := by rw [← hH2]; exact Heap.get?_push_of_some _ e
    refine hsb₁.extBut b o (fun q => ?_) (Heap.get?_push_of_some _ e1)
    rw [q, hCn] at e; cases e
  have hacc : IsL h₁ D [] := by
    have e1 : H2.get? D = some { cls := .type "list", dict := none, data := .seq ([] : List Value).toArray } := by rw [← hH2, ← hD]; exact Heap.get?_push_size _ rfl
    exact ⟨_, _, hsb₁.extBut _ _ hDC (Heap.get?_push_of_some _ e1), rfl, rfl, rfl⟩
  obtain ⟨hI0, tkI, rfl⟩ := hs
  dsimp only at *
  obtain ⟨oI, hoI⟩ := hIl I hfI
  have hIC : I ≠ C := fun q => by rw [q, hCn] at hoI; cases hoI
  have hID : I ≠ D := fun q => by rw [q, hDn] at hoI; cases hoI
  have fpC : ∀ b, fp b → b ≠ C ∧ b ≠ D := fun b hb => by
    obtain ⟨o, ho⟩ := hIl b hb
    exact ⟨fun q => by (rw [q, hCn] at ho; cases ho), fun q => by (rw [q, hDn] at ho; cases ho)⟩
  generalize hH3 : (H.add fun b => b = C ∨ b = D ∨ b = I) = H₃
  have hM3 : H₃.m = H.m := by rw [← hH3]; rfl
  have hO3 : H₃.o = H.o := by rw [← hH3]; rfl
  have hHH : ∀ b, H.p b → H₃.p b := fun b z => by rw [← hH3]; exact .inl z
  have hW3 : ∀ b, (b = C ∨ b = D ∨ b = I) → H₃.p b := fun b z => by rw [← hH3]; exact .inr z
  have hHN : ∀ b, H₃.p b → H.p b ∨ s₁.heap.get? b = none := fun b z => by
    rw [← hH3] at z
    rcases z with z | z | z | z
    · exact .inl z
    · exact .inr (z ▸ hCn₁)
    · exact .inr (z ▸ hDn₁)
    · exact .inr (z ▸ hI)
  have hkH1 : Kh (FrA A) s₁.heap h₁ := Kh.of_keeps fun b o e => old b o (hk b o e)
  have hst₁ : St 0 h₁ := W.frame _ _ _ hst fun b o _ e => ⟨fun _ => old b o e, o.slots, old b o e⟩
  have loop : ∀ s₃ : Shared, s₃ = { s₁ with heap := h₁, toks := tkI + ([] : List (Str × Value)).length } →
      codeAny c.M A (.compLoop (.ListComp elt [⟨.Name x px, iter, ifs, 0⟩] scope pos) 0 (.ref I) (.ref D) (compEnvC scope cl C env)) (RR (.ref D) C) s₃ := by
    rintro s₃ rfl
    refine codeAny_compLoop_tests (fun n s' => ∃ h' tk m' j zs vs, s' = { s₁ with heap := h', toks := tk } ∧ St j h' ∧ j ≤ l.length ∧ n = l.length + 1 - j ∧ IsL h' D vs ∧ mapF f (l.take j) = some zs ∧
      RepL (vis h' H₃) vs zs ∧ h'.Ns C m' ∧ Kv (FrA A) (fun b => b = C ∨ b = D ∨ b = I) h₁ h' ∧ (∃ o, h'.get? I = some o)) ?_ (l.length + 1)
      ⟨h₁, _, _, 0, [], [], rfl, hst₁, Nat.zero_le _, rfl, hacc, by simp [mapF], by simp [RepL], hns₁, Kv.refl _ _ _, oI, old _ _ hoI⟩
    rintro n s' ⟨h', tk, m', j, zs, vs, rfl, hst', hj, rfl, hD', hzs, hvs, hC', hkv, hoI'⟩
    by_cases hlt : j < l.length
    · obtain ⟨item, hit⟩ : ∃ y, l[j]? = some y := ⟨l[j], by simp [hlt]⟩
      refine W.item j _ _ _ hlt hst' fun v h₂ tk₂ hPv hst₂ hk₂ hI₂ => ?_
      dsimp only
      obtain ⟨oI₂, hoI₂⟩ := hI₂
      have kv₂ : Kv (FrA A) (fun b => b = C ∨ b = D ∨ b = I) h' h₂ := Kv.of_but hk₂ (.inr (.inr rfl))
      obtain ⟨oC, esC, epC, hoC, rC⟩ := hC'
      have hC₂ : h₂.Ns C m' := ⟨oC, esC, epC, hk₂ C oC (Ne.symm hIC) hoC, rC⟩
      have hD₂ : IsL h₂ D vs := hD'.at' fun o e => hk₂ D o (Ne.symm hID) e
      refine wpAny_assign_Name (wpAny_storeName_local (env := compEnvC scope cl C env) (lookup_relabel_local K.var) hC₂ (fun h₃ hn₃ hs₃ => ?_) (by simp [compEnvC, relabel, K.kind]))
      have kv₃ : Kv (FrA A) (fun b => b = C ∨ b = D ∨ b = I) h₂ h₃ := Kv.of_sameBut hs₃ (.inl rfl)
      have kv13 := (hkv.trans kv₂).trans kv₃
      have kh₃ : Kh (FrA A) s₁.heap h₃ := hkH1.trans' kv13 fun b o e => by
        rintro (z | z | z)
        · rw [z, hCn₁] at e; cases e
        · rw [z, hDn₁] at e; cases e
        · rw [z, hI] at e; cases e
      have hD₃ : IsL h₃ D vs := hD₂.at' fun o e => hs₃.extBut D o hDC e
      have hst₃ : St (j + 1) h₃ := W.frame _ _ _ hst₂ fun b o hb e => ⟨fun _ => hs₃.extBut b o (fpC b hb).1 e, o.slots, hs₃.extBut b o (fpC b hb).1 e⟩
      have hoI₃ : h₃.get? I = some oI₂ := hs₃.extBut I oI₂ hIC hoI₂
      have live₃ : Live H₃ h₃ := fun b z => by
        rw [← hH3] at z
        rcases z with z | rfl | rfl | rfl
        · obtain ⟨o, e⟩ := F.hlt b z
          obtain ⟨sl, e'⟩ := (kh₃ b o e).2
          exact ⟨_, e'⟩
        · obtain ⟨o, _, _, e, _⟩ := hn₃; exact ⟨o, e⟩
        · obtain ⟨o, _, e, _⟩ := hD₃; exact ⟨o, e⟩
        · exact ⟨_, hoI₃⟩
      have F₃ : Fm c (FrA A) (names ++ [x]) (compEnvC scope cl C env) (st.inner caps item) fe H₃ h₃ :=
        comp_fm F hlen K kh₃ hHH hHN hM3 hO3 live₃ hn₃ (hW3 C (.inl rfl)) hCn₁ (by simp) (Rep.mono (vis_new kh₃ hHN fun n a e => by rw [hM3]; exact e) (hP j v item hPv hit)) rfl rfl rfl rfl hcl1 hcl2
      have hm₃ : Rm c q k A h₃ := hm.nf kh₃.nf
      have TT := T item { s₁ with heap := h₃, toks := tk₂ + 1 } H₃ (compEnvC scope cl C env) rfl hm₃ F₃
      rcases mapF_step hf hit hzs with ⟨y, hy, hzs'⟩ | ⟨hy, hzs'⟩
      · obtain ⟨t1, t2⟩ := TT.1 y hy
        refine t1 _ _ fun s₄ k₄ => ?_
        simp only [if_true]
        refine t2 s₄ k₄ _ _ fun yv s₅ k₅ ry => ?_
        have k35 := k₄.trans k₅
        obtain ⟨h₅, tk₅, e₅, kh₅⟩ := k35
        subst e₅
        have hD₅ := kh₅.isL hD₃
        have hvl : vs.length ≤ 1048576 := by
          have e1 := hvs.length
          have e2 := mapF_length hzs
          have e3 : (l.take j).length ≤ l.length := by rw [List.length_take]; omega
          omega
        have hsz' : (List.toArray vs).size ≤ sizeLine := by
          rw [List.size_toArray, show sizeLine = 16777216 from by decide]
          omega
        refine list_appendL hsz' hD₅ fun h₆ hl₆ hs₆ => ?_
        have kv56 : Kv (FrA A) (fun b => b = C ∨ b = D ∨ b = I) h₅ h₆ := Kv.of_sameBut hs₆ (.inr (.inl rfl))
        refine ⟨l.length + 1 - (j + 1), by omega, h₆, tk₅, (fun z => if z = x then some v else m' z), j + 1, zs ++ [y], vs ++ [yv], rfl, ?_, hlt, rfl, hl₆, hzs', ?_, ?_, ((kv13.trans kh₅.kv).trans kv56), ?_⟩
        · refine W.frame _ _ _ hst₃ fun b o hb e => ⟨fun hf => hs₆.extBut b _ (fpC b hb).2 ((kh₅ b o e).1 (.inr hf)), ?_⟩
          obtain ⟨sl, e'⟩ := (kh₅ b o e).2
          exact ⟨sl, hs₆.extBut b _ (fpC b hb).2 e'⟩
        · have kvis : (vis h₅ H₃).Le (vis h₆ H₃) := kv56.vis hW3
          have kvis2 : (vis h' H₃).Le (vis h₆ H₃) := ((kv₂.trans kv₃).vis hW3).trans (kh₅.vis.trans kvis)
          exact RepL.append (RepL.mono kvis2 hvs) (by simp only [RepL]; exact ⟨Rep.mono kvis ry, trivial⟩)
        · exact (kh₅.ns hn₃).sameBut hs₆ (Ne.symm hDC)
        · obtain ⟨sl, e'⟩ := (kh₅ I _ hoI₃).2
          exact ⟨_, hs₆.extBut I _ hID e'⟩
      · refine TT.2 hy _ _ fun s₄ k₄ => ?_
        simp only [Bool.false_eq_true, if_false]
        obtain ⟨h₄, tk₄, rfl, kh₄⟩ := k₄
        refine ⟨l.length + 1 - (j + 1), by omega, h₄, tk₄, (fun z => if z = x then some v else m' z), j + 1, zs, vs, rfl, ?_, hlt, rfl, kh₄.isL hD₃, hzs', ?_, kh₄.ns hn₃, kv13.trans kh₄.kv, ?_⟩
        · exact W.frame _ _ _ hst₃ fun b o hb e => ⟨fun hf => (kh₄ b o e).1 (.inr hf), (kh₄ b o e).2⟩
        · exact RepL.mono (((kv₂.trans kv₃).vis hW3).trans kh₄.vis) hvs
        · obtain ⟨sl, e'⟩ := (kh₄ I _ hoI₃).2
          exact ⟨_, e'⟩
    · have hjl : j = l.length := by omega
      subst hjl
      refine W.done _ _ _ hst' fun h₂ tk₂ hk₂ => ?_
      have kv₂ : Kv (FrA A) (fun b => b = C ∨ b = D ∨ b = I) h' h₂ := Kv.of_but hk₂ (.inr (.inr rfl))
      rw [List.take_length, hf] at hzs
      cases hzs
      obtain ⟨oC, esC, epC, hoC, rC⟩ := hC'
      refine hR D C h₂ tk₂ m' vs hDn hCn hDC ⟨oC, esC, epC, hk₂ C oC (Ne.symm hIC) hoC, rC⟩ (hD'.at' fun o e => hk₂ D o (Ne.symm hID) e) ?_ ?_
      · rw [hH3]; exact RepL.mono (kv₂.vis hW3) hvs
      · intro b o nb e
        have e1 := old b o e
        have nC : ¬ (b = C ∨ b = D ∨ b = I) := by
          rintro (z | z | z)
          · rw [z, hCn] at e; cases e
          · rw [z, hDn] at e; cases e
          · exact nb z
        exact (hkv.trans kv₂) b o nC e1
  exact codeAny_compStart_list (loop _ rfl) (W.self 0 _ _ _ hst₁ (loop _ rfl))
end Mine
end
section
open PySem PySem.W PyProof.Rows
namespace Mine

noncomputable def encC : AV → Const → Bool
  | .int i, .int j => i == j
  | .bool a, .bool b => a == b
  | .none, .none => true
  | .str s, .str t => s == t
  | _, _ => false

noncomputable def BI.isTy : BI → Bool
  | .range | .list | .tuple | .type | .bytes | .set | .frozenset | .str | .int | .bool | .float | .zip | .enumerate | .dict => true
  | _ => false
theorem BI.boot_ty : ∀ {b : BI}, b.isTy = true → bootBuiltins (Str.ofString b.name) = some (.type b.name)
  | .range, _ => by decide +kernel
  | .list, _ => by decide +kernel
  | .tuple, _ => by decide +kernel
  | .type, _ => by decide +kernel
  | .bytes, _ => by decide +kernel
  | .set, _ => by decide +kernel
  | .frozenset, _ => by decide +kernel
  | .str, _ => by decide +kernel
  | .int, _ => by decide +kernel
  | .bool, _ => by decide +kernel
  | .float, _ => by decide +kernel
  | .zip, _ => by decide +kernel
  | .enumerate, _ => by decide +kernel
  | .dict, _ => by decide +kernel
noncomputable def BI.val (b : BI) : Value := if b.isTy then .type b.name else .builtin b.name
theorem BI.boot : ∀ (b : BI), bootBuiltins (Str.ofString b.name) = some b.val
  | .range => by decide +kernel
  | .list => by decide +kernel
  | .tuple => by decide +kernel
  | .type => by decide +kernel
  | .bytes => by decide +kernel
  | .set => by decide +kernel
  | .frozenset => by decide +kernel
  | .str => by decide +kernel
  | .int => by decide +kernel
  | .bool => by decide +kernel
  | .float => by decide +kernel
  | .zip => by decide +kernel
  | .enumerate => by decide +kernel
  | .dict => by decide +kernel
  | .len => by decide +kernel
  | .sum => by decide +kernel
  | .abs => by decide +kernel
  | .min => by decide +kernel
  | .max => by decide +kernel
  | .isinstance => by decide +kernel
  | .chr => by decide +kernel
  | .sorted => by decide +kernel
  | .iter => by decide +kernel
  | .next => by decide +kernel
  | .hasattr => by decide +kernel

noncomputable def isGlob (ks : List (Str × NameKind)) (x : Str) : Bool := ks.lookup x == some NameKind.globalImplicit && !(x == ("__debug__" : Str)) && !(x == ("__name__" : Str))

noncomputable def relab (ks : List (Str × NameKind)) (names : List (Str × NameKind)) : List (Str × NameKind) :=
  names.map fun p => if (p.2 == NameKind.free && ks.lookup p.1 == some NameKind.cell) then (p.1, NameKind.cell) else (p.1, p.2)

noncomputable def compOkB (ks : List (Str × NameKind)) (ns : List Str) (scope : Scope) (x : Str) (caps : List Nat) : Bool :=
  scope.names.all (fun y => !(y.2 == .cell)) && scope.kind == .function && scope.names.all (fun y => !(y.2 == .local) || scope.names.lookup y.1 == some .local) && scope.names.lookup x == some .local &&
  scope.names.all (fun y => !(y.2 == .free) || ks.lookup y.1 == some .cell) && caps.all (fun i => match ns[i]? with | some y => scope.names.lookup y == some .free | none => true)

/-- what is looked at of an expression -/
structure EH where
  cst : Const → Bool := fun _ => false
  name : Str → Bool := fun _ => false
  bin : Expr → Operator → Expr → Bool := fun _ _ _ => false
  un : UnaryOp → Expr → Bool := fun _ _ => false
  cmp : Expr → List CmpOp → List Expr → Bool := fun _ _ _ => false
  bop : BoolOp → List Expr → Bool := fun _ _ => false
  ife : Expr → Expr → Expr → Bool := fun _ _ _ => false
  list : List Expr → Bool := fun _ => false
  tup : List Expr → Nat → Pos → Bool := fun _ _ _ => false
  sub : Expr → Expr → Bool := fun _ _ => false
  slice : Option Expr → Option Expr → Option Expr → Bool := fun _ _ _ => false
  call : Expr → List Expr → List Keyword → Pos → Bool := fun _ _ _ _ => false
  attr : Expr → Str → Pos → Bool := fun _ _ _ => false
  comp : Expr → List Comprehension → Scope → Bool := fun _ _ _ => false
  set : List Expr → Nat → Bool := fun _ _ => false
noncomputable def onE (h : EH) : Expr → Bool
  | .Constant c _ _ => h.cst c
  | .Name x _ => h.name x
  | .BinOp l o r _ => h.bin l o r
  | .UnaryOp o x _ => h.un o x
  | .Compare l o r _ => h.cmp l o r
  | .BoolOp o l _ => h.bop o l
  | .IfExp t a b _ => h.ife t a b
  | .List l _ => h.list l
  | .Tuple l k p => h.tup l k p
  | .Subscript o i _ => h.sub o i
  | .Slice a b c _ => h.slice a b c
  | .Call f a k p => h.call f a k p
  | .Attribute o n p => h.attr o n p
  | .ListComp e g s _ => h.comp e g s
  | .Set l k _ => h.set l k
  | _ => false
noncomputable def one? {α : Type} (l : List α) (f : α → Bool) : Bool := match l with
  | [x] => f x
  | _ => false
noncomputable def nil? {α : Type} (l : List α) (b : Bool) : Bool := match l with
  | [] => b
  | _ => false
theorem one?_eq {α : Type} {l : List α} {f : α → Bool} (h : one? l f = true) : ∃ x, l = [x] ∧ f x = true := by
  rcases l with _ | ⟨x, _ | ⟨y, r⟩⟩
  · cases h
  · exact ⟨x, rfl, h⟩
  · cases h
theorem nil?_eq {α : Type} {l : List α} {b : Bool} (h : nil? l b = true) : l = [] ∧ b = true := by
  cases l with
  | nil => exact ⟨rfl, h⟩
  | cons _ _ => cases h
section
variable {ex : Expr}
theorem onE_cst {f} (h : onE { cst := f } ex = true) : ∃ c k p, ex = .Constant c k p ∧ f c = true := by
  cases ex with
  | Constant c k p => exact ⟨c, k, p, rfl, h⟩
  | _ => exact (Bool.false_ne_true h).elim
theorem onE_name {f} (h : onE { name := f } ex = true) : ∃ x p, ex = .Name x p ∧ f x = true := by
  cases ex with
  | Name x p => exact ⟨x, p, rfl, h⟩
  | _ => exact (Bool.false_ne_true h).elim
theorem onE_bin {f} (h : onE { bin := f } ex = true) : ∃ l o r p, ex = .BinOp l o r p ∧ f l o r = true := by
  cases ex with
  | BinOp l o r p => exact ⟨l, o, r, p, rfl, h⟩
  | _ => exact (Bool.false_ne_true h).elim
theorem onE_un {f} (h : onE { un := f } ex = true) : ∃ o x p, ex = .UnaryOp o x p ∧ f o x = true := by
  cases ex with
  | UnaryOp o x p => exact ⟨o, x, p, rfl, h⟩
  | _ => exact (Bool.false_ne_true h).elim
theorem onE_cmp {f} (h : onE { cmp := f } ex = true) : ∃ l o r p, ex = .Compare l o r p ∧ f l o r = true := by
  cases ex with
  | Compare l o r p => exact ⟨l, o, r, p, rfl, h⟩
  | _ => exact (Bool.false_ne_true h).elim
theorem onE_bop {f} (h : onE { bop := f } ex = true) : ∃ o l p, ex = .BoolOp o l p ∧ f o l = true := by
  cases ex with
  | BoolOp o l p => exact ⟨o, l, p, rfl, h⟩
  | _ => exact (Bool.false_ne_true h).elim
theorem onE_ife {f} (h : onE { ife := f } ex = true) : ∃ t a b p, ex = .IfExp t a b p ∧ f t a b = true := by
  cases ex with
  | IfExp t a b p => exact ⟨t, a, b, p, rfl, h⟩
  | _ => exact (Bool.false_ne_true h).elim
theorem onE_list {f} (h : onE { list := f } ex = true) : ∃ l p, ex = .List l p ∧ f l = true := by
  cases ex with
  | List l p => exact ⟨l, p, rfl, h⟩
  | _ => exact (Bool.false_ne_true h).elim
theorem onE_tup {f} (h : onE { tup := f } ex = true) : ∃ l k p, ex = .Tuple l k p ∧ f l k p = true := by
  cases ex with
  | Tuple l k p => exact ⟨l, k, p, rfl, h⟩
  | _ => exact (Bool.false_ne_true h).elim
theorem onE_sub {f} (h : onE { sub := f } ex = true) : ∃ o i p, ex = .Subscript o i p ∧ f o i = true := by
  cases ex with
  | Subscript o i p => exact ⟨o, i, p, rfl, h⟩
  | _ => exact (Bool.false_ne_true h).elim
theorem onE_slice {f} (h : onE { slice := f } ex = true) : ∃ a b c p, ex = .Slice a b c p ∧ f a b c = true := by
  cases ex with
  | Slice a b c p => exact ⟨a, b, c, p, rfl, h⟩
  | _ => exact (Bool.false_ne_true h).elim
theorem onE_call {f} (h : onE { call := f } ex = true) : ∃ g a k p, ex = .Call g a k p ∧ f g a k p = true := by
  cases ex with
  | Call g a k p => exact ⟨g, a, k, p, rfl, h⟩
  | _ => exact (Bool.false_ne_true h).elim
theorem onE_attr {f} (h : onE { attr := f } ex = true) : ∃ o n p, ex = .Attribute o n p ∧ f o n p = true := by
  cases ex with
  | Attribute o n p => exact ⟨o, n, p, rfl, h⟩
  | _ => exact (Bool.false_ne_true h).elim
theorem onE_comp {f} (h : onE { comp := f } ex = true) : ∃ e g s p, ex = .ListComp e g s p ∧ f e g s = true := by
  cases ex with
  | ListComp e g s p => exact ⟨e, g, s, p, rfl, h⟩
  | _ => exact (Bool.false_ne_true h).elim
theorem onE_set {f} (h : onE { set := f } ex = true) : ∃ l k p, ex = .Set l k p ∧ f l k = true := by
  cases ex with
  | Set l k p => exact ⟨l, k, p, rfl, h⟩
  | _ => exact (Bool.false_ne_true h).elim
/-- a call of a name, no keywords -/
noncomputable def onNC (ex : Expr) (f : Str → List Expr → Bool) : Bool := onE { call := fun g es ks _ => onE { name := fun x => nil? ks (f x es) } g } ex
theorem onNC_eq {f} (h : onNC ex f = true) : ∃ x px es p, ex = .Call (.Name x px) es [] p ∧ f x es = true := by
  obtain ⟨g, es, ks, p, rfl, h⟩ := onE_call h
  obtain ⟨x, px, rfl, h⟩ := onE_name h
  obtain ⟨rfl, h⟩ := nil?_eq h
  exact ⟨x, px, es, p, rfl, h⟩
/-- a method's call, no keywords -/
noncomputable def onMC (ex : Expr) (f : Expr → Str → Pos → List Expr → Pos → Bool) : Bool := onE { call := fun g es ks p => onE { attr := fun o n ap => nil? ks (f o n ap es p) } g } ex
theorem onMC_eq {f} (h : onMC ex f = true) : ∃ o n ap es p, ex = .Call (.Attribute o n ap) es [] p ∧ f o n ap es p = true := by
  obtain ⟨g, es, ks, p, rfl, h⟩ := onE_call h
  obtain ⟨o, n, ap, rfl, h⟩ := onE_attr h
  obtain ⟨rfl, h⟩ := nil?_eq h
  exact ⟨o, n, ap, es, p, rfl, h⟩
/-- a comparison of two -/
noncomputable def onC1 (ex : Expr) (f : Expr → CmpOp → Expr → Bool) : Bool := onE { cmp := fun l os rs => one? os fun o => one? rs fun r => f l o r } ex
theorem onC1_eq {f} (h : onC1 ex f = true) : ∃ l o r p, ex = .Compare l [o] [r] p ∧ f l o r = true := by
  obtain ⟨l, os, rs, p, rfl, h⟩ := onE_cmp h
  obtain ⟨o, rfl, h⟩ := one?_eq h
  obtain ⟨r, rfl, h⟩ := one?_eq h
  exact ⟨l, o, r, p, rfl, h⟩
end

/-- a comprehension over one row -/
noncomputable def onLC (ex : Expr) (f : Expr → Str → Expr → List Expr → Scope → Bool) : Bool := onE { comp := fun e gs sc => one? gs fun g => onE { name := fun x => g.is_async == 0 && f e x g.iter g.ifs sc } g.target } ex
theorem onLC_eq {ex : Expr} {f} (h : onLC ex f = true) : ∃ e x px it ifs sc p, ex = .ListComp e [⟨.Name x px, it, ifs, 0⟩] sc p ∧ f e x it ifs sc = true := by
  obtain ⟨e, gs, sc, p, rfl, h⟩ := onE_comp h
  obtain ⟨⟨tg, it, ifs, as⟩, rfl, h⟩ := one?_eq h
  obtain ⟨x, px, e2, h⟩ := onE_name h
  rw [Bool.and_eq_true] at h
  obtain ⟨h1, h⟩ := h
  have h1 := eq_of_beq h1
  simp only at h1 e2
  subst h1; subst e2
  exact ⟨e, x, px, it, ifs, sc, p, rfl, h⟩
/-- a plain thing ahead of a dot -/
noncomputable def baseOk (ex : Expr) : Bool := onE { name := fun _ => true, cst := fun _ => true, sub := fun _ _ => true, call := fun g es ks _ => onE { name := fun _ => one? es fun _ => nil? ks true } g } ex
theorem baseOk_eq {o : Expr} (h : baseOk o = true) (n : Str) (env : Env) (w : Sem Value) : attributeBase o n env w = w := by
  cases o with
  | Constant c k p => rfl
  | Name x p => rfl
  | Subscript a b p => rfl
  | Call g es ks p =>
    obtain ⟨x, px, rfl, h⟩ := onE_name (show onE _ g = true from h)
    obtain ⟨e, rfl, h⟩ := one?_eq h
    obtain ⟨rfl, _⟩ := nil?_eq h
    rfl
  | _ => exact (Bool.false_ne_true h).elim
noncomputable def isSetd : PE → Bool
  | .setd _ => true
  | _ => false
noncomputable def isNone' : PE → Bool
  | .const .none => true
  | _ => false
section
variable (frees : List Str) (fname : Nat → Str)
mutual
noncomputable def encE (ks : List (Str × NameKind)) (ns : List Str) : PE → Expr → Bool
  | .const v, ex => onE { cst := encC v } ex
  | .name i, ex => onE { name := fun x => ns[i]? == some x && !(x == ("__debug__" : Str)) } ex
  | .glob b, ex => onE { name := fun x => b.isTy && x == Str.ofString b.name && isGlob ks x && frees.contains x } ex
  | .bin op l r, ex => onE { bin := fun l' op' r' => op == op' && encE ks ns l l' && encE ks ns r r' } ex
  | .un op x, ex => onE { un := fun op' x' => op == op' && encE ks ns x x' } ex
  | .cmp op l r, ex => onC1 ex fun l' op' r' => op == op' && encE ks ns l l' && encE ks ns r r' && !(behindInMarks op r')
  | .bop op xs, ex => onE { bop := fun op' xs' => op == op' && encEs ks ns xs xs' } ex
  | .ife t a b, ex => onE { ife := fun t' a' b' => encE ks ns t t' && encE ks ns a a' && encE ks ns b b' } ex
  | .list xs, ex => onE { list := fun es => encEs ks ns xs es } ex
  | .tup xs, ex => onE { tup := fun es _ _ => encEs ks ns xs es } ex
  | .sub o i, ex => onE { sub := fun o' i' => encE ks ns o o' && encE ks ns i i' } ex
  | .slice o a b s, ex => onE { sub := fun o' sl => onE { slice := fun a' b' s' => encE ks ns o o' && (match a' with | some e => encE ks ns a e | none => isNone' a) && (match b' with | some e => encE ks ns b e | none => isNone' b) && (match s' with | some e => encE ks ns s e | none => isNone' s) } sl } ex
  | .call f xs, ex => onNC ex fun x es => x == fname f && isGlob ks x && encEs ks ns xs es
  | .bcall f xs, ex => onNC ex fun x es => x == Str.ofString f.name && isGlob ks x && frees.contains x && encEs ks ns xs es
  | .newl xs, ex => onE { list := fun es => encEs ks ns xs es } ex
  | .emeth o m xs, ex => onMC ex fun o' n apos es pos => n == Str.ofString m.name && baseOk o' && apos.endLine == pos.line && decide (es.length < 20) && encE ks ns o o' && encEs ks ns xs es
  | .comp caps elt src conds, ex => onLC ex fun e' x it ifs scope => encE ks ns src it && !(isSetd src) && compOkB ks ns scope x caps && encE (relab ks scope.names) (ns ++ [x]) elt e' && encEs (relab ks scope.names) (ns ++ [x]) conds ifs
  | .setd x, ex => onE { set := fun es k => one? es fun e => k == 0 && encE ks ns x e } ex
noncomputable def encEs (ks : List (Str × NameKind)) (ns : List Str) : PEs → List Expr → Bool
  | .nil, es => (match es with | [] => true | _ => false)
  | .cons p ps, es => (match es with | e :: r => encE ks ns p e && encEs ks ns ps r | _ => false)
end
end
theorem encC_cases {v : AV} {c : Const} (h : encC v c = true) : (∃ i, v = .int i ∧ c = .int i) ∨ (∃ b, v = .bool b ∧ c = .bool b) ∨ (v = .none ∧ c = .none) ∨ ∃ s, v = .str s ∧ c = .str s := by
  unfold encC at h
  split at h
  · exact .inl ⟨_, rfl, by rw [eq_of_beq h]⟩
  · exact .inr (.inl ⟨_, rfl, by rw [eq_of_beq h]⟩)
  · exact .inr (.inr (.inl ⟨rfl, rfl⟩))
  · exact .inr (.inr (.inr ⟨_, rfl, by rw [eq_of_beq h]⟩))
  · cases h
theorem isNone'_eq {p : PE} (h : isNone' p = true) : p = .const .none := by
  unfold isNone' at h
  split at h
  · rfl
  · cases h

theorem compOk_of {ks : List (Str × NameKind)} {ns : List Str} {scope : Scope} {x : Str} {caps : List Nat} {env : Env} (hks : env.scope.names = ks) (h : compOkB ks ns scope x caps = true) : CompOk ns env scope x caps := by
  simp only [compOkB, Bool.and_eq_true, List.all_eq_true, Bool.not_eq_true', beq_eq_false_iff_ne, beq_iff_eq, Bool.or_eq_true] at h
  obtain ⟨⟨⟨⟨⟨h1, h2⟩, h3⟩, h4⟩, h5⟩, h6⟩ := h
  refine ⟨h1, h2, fun y hy e => (h3 y hy).resolve_left fun n => n e, h4, fun y hy => ?_, fun i hi y hy => ?_⟩
  · have := (h5 _ hy).resolve_left fun n => n rfl
    show env.scope.names.lookup y = some .cell
    rw [hks]; exact this
  · have := h6 i hi
    rw [hy] at this
    exact beq_iff_eq.mp this

theorem relab_eq {ks : List (Str × NameKind)} {scope : Scope} {env : Env} (hks : env.scope.names = ks) (hk : env.scope.kind = .function) : (relabel scope env).names = relab ks scope.names := by
  unfold relabel relab
  simp only [hk]
  refine List.map_congr_left fun p _ => ?_
  obtain ⟨n, k⟩ := p
  have : env.kindOf n = ks.lookup n := by rw [← hks]; rfl
  simp [this]

end Mine
end
section
open PySem PySem.W PyProof.Rows
namespace Mine

theorem Fm.ss {c : Cx} {A : Around} {ns : List Str} {env : Env} {st : Fs} {fe : FE} {H H' : Hd} {s s' : Shared} {σ' : Store} (F : Fm c (FrA A) ns env st fe H s.heap) (X : Ss A st.lo st.σ H s σ' H' s') : Fm c (FrA A) ns env (st.at σ') fe H' s'.heap := by
  have wr : ∀ b, Wr st.σ H st.lo b → ∃ o, s.heap.get? b = some o ∧ (∀ es ep, o.data ≠ .dict es ep) ∧ (∀ v, o.data ≠ .cell v) := fun b ⟨n, mo, _, e1, e2⟩ => by
    obtain ⟨a, e3, r⟩ := F.sto.at' n mo e1
    rw [e2] at e3; cases e3
    obtain ⟨o, e, d1, d2, _⟩ := r.data
    exact ⟨o, e, d1, d2⟩
  have nsk : ∀ {a m}, s.heap.Ns a m → s'.heap.Ns a m := fun {a m} n => by
    obtain ⟨o, es, ep, e, d, r⟩ := n
    have nw : ¬ Wr st.σ H st.lo a := fun w => by
      obtain ⟨o', e', d', _⟩ := wr a w
      rw [e] at e'; cases e'
      exact d' _ _ d
    obtain ⟨sl, q⟩ := (X.kv a o nw e).2
    exact ⟨_, es, ep, q, d, r⟩
  have clk : ∀ {a v}, s.heap.IsCell a v → s'.heap.IsCell a v := fun {a v} n => by
    obtain ⟨o, e, d⟩ := n
    have nw : ¬ Wr st.σ H st.lo a := fun w => by
      obtain ⟨o', e', _, d'⟩ := wr a w
      rw [e] at e'; cases e'
      exact d' _ d
    obtain ⟨sl, q⟩ := (X.kv a o nw e).2
    exact ⟨_, q, d⟩
  have nvk : ∀ {x v}, NV s.heap env x v → NV s'.heap env x v := fun {x v} n => by
    rcases n with ⟨k1, m, n, e⟩ | ⟨k1, cc, e, n⟩
    · exact .inl ⟨k1, m, nsk n, e⟩
    · exact .inr ⟨k1, cc, e, clk n⟩
  have ownk : ∀ i a vs, H.o i = some a → IsL s.heap a vs → IsL s'.heap a vs := fun i a vs e l => l.at fun o e' => (X.kv a o (fun ⟨n, _, _, _, e2⟩ => (F.own i a e).2.2.1 n e2) e').2
  have fes : ∀ b o, fe.h.get? b = some o → ∃ o', s.heap.get? b = some o' := fun b o e => F.keep.nw (fun b w => F.hlt b (F.hle b (F.wsub b w))) e
  exact {
    keep := fun b o n e => by
      obtain ⟨p1, sl, p2⟩ := F.keep b o n e
      have nw : ¬ Wr st.σ H st.lo b := fun ⟨m, mo, l1, e1, e2⟩ => by
        rcases Nat.lt_or_ge m st.n0 with hl | hl
        · exact n (F.mw m b mo hl l1 e1 e2)
        · rw [F.mnew m b hl e2] at e; cases e
      obtain ⟨q1, sl', q2⟩ := X.kv b _ nw p2
      exact ⟨fun f => (X.kv b o nw (p1 f)).1 f, sl', q2⟩
    wsub := F.wsub
    base := F.base
    baseF := F.baseF
    basew := F.basew
    hle := fun b q => X.hp b (F.hle b q)
    mle := fun n a e => X.mx n a (F.mle n a e)
    mold := fun n a l e => by
      rcases X.mn n a e with e | ⟨z, _⟩
      · exact F.mold n a l e
      · exact absurd (Nat.lt_of_lt_of_le l F.n0le) (Nat.not_lt.mpr z)
    mnew := fun n a l e => by
      rcases X.mn n a e with e | ⟨_, z⟩
      · exact F.mnew n a l e
      · cases q : fe.h.get? a with
        | none => rfl
        | some o => obtain ⟨o', e'⟩ := fes a o q; rw [z] at e'; cases e'
    mw := fun n a mo l l' q e => by
      have hl := Nat.lt_of_lt_of_le l F.n0le
      obtain ⟨mo', q'⟩ := X.rv n mo hl q
      rcases X.mn n a e with e | ⟨z, _⟩
      · exact F.mw n a mo' l l' q' e
      · exact absurd hl (Nat.not_lt.mpr z)
    hlt := X.live
    felt := F.felt
    wlt := F.wlt
    kind := F.kind
    glob := F.glob
    bi := F.bi
    code := F.code
    ns := let ⟨m, n⟩ := F.ns; ⟨m, nsk n⟩
    hl := X.hp _ F.hl
    lnew := F.lnew
    hc := fun x cc a b => ⟨X.hp _ (F.hc x cc a b).1, (F.hc x cc a b).2⟩
    cl := fun x q => let ⟨cc, v, e, n⟩ := F.cl x q; ⟨cc, v, e, clk n⟩
    capart := F.capart
    vals := fun i x t a b => let ⟨v, n, r⟩ := F.vals i x t a b; ⟨v, nvk n, r.mono (X.vis F.sto) (fun a e => by rw [X.o]; exact e) fun a vs e l => ownk i a vs e l⟩
    own := fun i a e => by
      rw [X.o] at e
      obtain ⟨p, q, r, vs, l⟩ := F.own i a e
      refine ⟨X.hp a p, q, fun n z => ?_, vs, ownk i a vs e l⟩
      rcases X.mn n a z with z | ⟨_, z⟩
      · exact r n z
      · obtain ⟨o, _, e', _⟩ := l; rw [z] at e'; cases e'
    oinj := fun i j a => by rw [X.o]; exact F.oinj i j a
    sto := X.sto
    mh0 := fun n a e => by
      rcases X.mn n a e with e | ⟨_, z⟩
      · exact F.mh0 n a e
      · cases q : c.h0.get? a with
        | none => rfl
        | some o => obtain ⟨o', e'⟩ := fes a o (F.base a o q); rw [z] at e'; cases e'
    n0le := Nat.le_trans F.n0le X.len }

theorem RepO.derefS {c : Cx} {Fr : Addr → Prop} {ns : List Str} {env : Env} {st : Fs} {fe : FE} {H : Hd} {h : Heap} (F : Fm c Fr ns env st fe H h) (hlen : st.ρ.length = ns.length) {w : Value} : ∀ {v : OV}, RepW H (vis h H) w v → RepO h H w (derefS st.ρ st.σ v)
  | .av x, r => RepO.deref F.sto r
  | .own i, ⟨a, e, q⟩ => by
    unfold Mine.derefS
    dsimp only
    split
    · rename_i xs hs
      have hi : i < ns.length := by
        rcases Nat.lt_or_ge i st.ρ.length with h | h
        · omega
        · rw [List.getElem?_eq_none h] at hs; cases hs
      obtain ⟨v, n, z, a', vs, e', o', l, r⟩ := F.vals i _ _ (List.getElem?_eq_getElem hi) hs
      rw [e] at o'; cases o'
      exact ⟨z, a, vs, q, l, r⟩
    · simp [RepO, Rep]
theorem RepOL.derefS {c : Cx} {Fr : Addr → Prop} {ns : List Str} {env : Env} {st : Fs} {fe : FE} {H : Hd} {h : Heap} (F : Fm c Fr ns env st fe H h) (hlen : st.ρ.length = ns.length) : ∀ {ws : List Value} {vs : List OV}, RepWL H (vis h H) ws vs → RepOL h H ws (vs.map (Mine.derefS st.ρ st.σ))
  | [], [], _ => trivial
  | [], _ :: _, r => r.elim
  | _ :: _, [], r => r.elim
  | _ :: _, _ :: _, r => ⟨RepO.derefS F hlen r.1, RepOL.derefS F hlen r.2⟩
theorem plains_rep {H : Hd} {R : Vw} : ∀ {vs : List OV} {ws : List Value} {xs : List AV}, RepWL H R ws vs → plains vs = some xs → RepL R ws xs
  | [], [], xs, _, h => by simp only [plains, Option.some.injEq] at h; subst h; simp [RepL]
  | [], _ :: _, _, r, _ => r.elim
  | _ :: _, [], _, r, _ => r.elim
  | .av x :: vs, w :: ws, xs, r, h => by
    simp only [plains, Option.map_eq_some_iff] at h
    obtain ⟨ys, h1, rfl⟩ := h
    simp only [RepL]
    exact ⟨r.1, plains_rep r.2 h1⟩
  | .own _ :: _, _ :: _, _, _, h => by simp [plains] at h

/-- an expression comes to what is told of it -/
structure PrOk (c : Cx) (q : Bool) (A : Around) (lo : Nat) (σ : Store) (H : Hd) (ex : Expr) (env : Env) (p : PR) (s : Shared) : Prop where
  v : Ev c q A lo σ H (eval ex env) p.v s
  t : EvB c A lo σ H (isTrue ex env (eval ex env)) p.t s

section
variable {c : Cx} {q : Bool} {k : Nat} {A : Around} {lo : Nat} {σ : Store} {H : Hd} {s : Shared}

theorem Ev.bindK {t : Sem Value} {r : ER} {f : OV → Store → ER} {Q E Q' : Value → Shared → Prop} (X : Ev c q A lo σ H t r s) (P : PostE q A lo σ H (r.bind f) s Q E)
    (h : ∀ v σ₁, r = .ok v σ₁ → ∀ w H₁ s₁, Ss A lo σ H s σ₁ H₁ s₁ → RepW H₁ (vis s₁.heap H₁) w v → PostE q A lo σ₁ H₁ (f v σ₁) s₁ Q E → Q' w s₁) : wpAny c.M A t Q' E s := by
  cases r with
  | ok v σ₁ => exact X _ _ fun w H₁ s₁ x r => h v σ₁ rfl w H₁ s₁ x r (P.ss x)
  | exc x σ₁ => exact X _ _ P
  | stuck => exact P.elim
theorem Ev.bindAK {t : Sem Value} {r : ER} {f : AV → Store → ER} {Q E Q' : Value → Shared → Prop} (X : Ev c q A lo σ H t r s) (P : PostE q A lo σ H (r.bindA f) s Q E)
    (h : ∀ v σ₁, r = .ok (.av v) σ₁ → ∀ w H₁ s₁, Ss A lo σ H s σ₁ H₁ s₁ → Rep (vis s₁.heap H₁) w v → PostE q A lo σ₁ H₁ (f v σ₁) s₁ Q E → Q' w s₁) : wpAny c.M A t Q' E s := by
  cases r with
  | ok v σ₁ =>
    cases v with
    | av v => exact X _ _ fun w H₁ s₁ x r => h v σ₁ rfl w H₁ s₁ x r (PostE.ss (r := f v σ₁) P x)
    | own i => exact P.elim
  | exc x σ₁ => exact X _ _ P
  | stuck => exact P.elim
theorem EvL.onK {t : Sem (List Value)} {r : Option (List OV × Store)} {f : List OV → Store → ER} {Q E : Value → Shared → Prop} {Q' : List Value → Shared → Prop} (X : EvL c A lo σ H t r s) (P : PostE q A lo σ H (onL r f) s Q E)
    (h : ∀ l σ₁, r = some (l, σ₁) → ∀ ws H₁ s₁, Ss A lo σ H s σ₁ H₁ s₁ → RepWL H₁ (vis s₁.heap H₁) ws l → PostE q A lo σ₁ H₁ (f l σ₁) s₁ Q E → Q' ws s₁) : wpAny c.M A t Q' E s := by
  cases r with
  | none => exact P.elim
  | some p =>
    obtain ⟨l, σ₁⟩ := p
    exact X l σ₁ rfl _ _ fun ws H₁ s₁ x r => h l σ₁ rfl ws H₁ s₁ x r (PostE.ss (r := f l σ₁) P x)
theorem EvL.onPK {t : Sem (List Value)} {r : Option (List OV × Store)} {f : List AV → Store → ER} {Q E : Value → Shared → Prop} {Q' : List Value → Shared → Prop} (X : EvL c A lo σ H t r s) (P : PostE q A lo σ H (onP r f) s Q E)
    (h : ∀ l σ₁ ol, r = some (ol, σ₁) → plains ol = some l → ∀ ws H₁ s₁, Ss A lo σ H s σ₁ H₁ s₁ → RepL (vis s₁.heap H₁) ws l → PostE q A lo σ₁ H₁ (f l σ₁) s₁ Q E → Q' ws s₁) : wpAny c.M A t Q' E s := by
  refine X.onK P fun ol σ₁ e ws H₁ s₁ x rr P' => ?_
  cases hp : plains ol with
  | none => rw [hp] at P'; exact P'.elim
  | some l => rw [hp] at P'; exact h l σ₁ ol e hp ws H₁ s₁ x (plains_rep rr hp) P'
theorem starEach_cons {env : Env} {e : Expr} {es : List Expr} (h : ∀ x z, e ≠ .Starred x z) : starEach (e :: es) env = (false, eval e env) :: starEach es env := by
  cases e <;> first | rfl | exact absurd rfl (h _ _)
/-- a pure end -/
theorem PostE.res {r : Res} {Q E : Value → Shared → Prop} (P : PostE q A lo σ H (ofRes r σ) s Q E) (S : Sto σ H s.heap) (L : Live H s.heap) : Post q A H r s Q E := by
  cases r with
  | ok v => exact fun w s' k r => P w H s' (.of_kp k S L) r
  | exc x => exact ⟨P.1, fun e s' X => P.2 e H s s' (.of_kp (Kp.refl _ _) S L) X⟩
  | stuck => exact P
end

section
variable {c : Cx} {O : OpsF} (OK : OpsOk c O) {q : Bool} {k : Nat} {A : Around} {H : Hd} {env : Env} {s : Shared} {ns : List Str} {st : Fs} {fe : FE}
include OK
theorem isT_value {ex : Expr} {r : ER} (hm : Rm c q (k + 1) A s.heap) (F : Fm c (FrA A) ns env st fe H s.heap) (hlen : st.ρ.length = ns.length) (X : Ev c q A st.lo st.σ H (eval ex env) r s)
    (he : isTrue ex env (eval ex env) = (do let v ← eval ex env; standAt ex.pos; holding [v] (truthy v))) : EvB c A st.lo st.σ H (isTrue ex env (eval ex env)) (r.truth O.truth st.ρ) s := fun b σ' ht Q E P => by
  cases r with
  | exc _ _ => cases ht
  | stuck => cases ht
  | ok v σ₁ =>
    simp only [ER.truth, Option.map_eq_some_iff, Prod.mk.injEq] at ht
    obtain ⟨b', ht, rfl, rfl⟩ := ht
    refine wpAny_isTrue_value (X _ _ fun w H₁ s₁ x r₁ => ?_) he
    have F₁ := F.ss x
    exact OK.truth (hm.nf x.nf) F₁.hlt (RepO.derefS F₁ hlen r₁) ht _ _ fun s₂ k₂ => P H₁ s₂ (x.trans (.of_kp k₂ F₁.sto F₁.hlt))
theorem prOk_of {ex : Expr} {r : ER} (hm : Rm c q (k + 1) A s.heap) (F : Fm c (FrA A) ns env st fe H s.heap) (hlen : st.ρ.length = ns.length) (X : Ev c q A st.lo st.σ H (eval ex env) r s)
    (he : isTrue ex env (eval ex env) = (do let v ← eval ex env; standAt ex.pos; holding [v] (truthy v))) : PrOk c q A st.lo st.σ H ex env (.of O.truth st.ρ r) s := ⟨X, isT_value OK hm F hlen X he⟩
end
end Mine
end
section
open PySem PySem.W PyProof.Rows
namespace Mine

/-- more is hidden -/
theorem Fm.hide {c : Cx} {Fr : Addr → Prop} {ns : List Str} {env : Env} {st : Fs} {fe : FE} {H H₂ : Hd} {h h₂ : Heap} (F : Fm c Fr ns env st fe H h) (kk : Kh Fr h h₂) (hH : ∀ b, H.p b → H₂.p b) (hN : ∀ b, H₂.p b → H.p b ∨ h.get? b = none) (hM : H₂.m = H.m) (hO : H₂.o = H.o) (hL : Live H₂ h₂) : Fm c Fr ns env st fe H₂ h₂ :=
  let G := F.step kk
  { keep := G.keep, wsub := G.wsub, base := G.base, baseF := G.baseF, basew := G.basew, hle := fun b z => hH b (F.hle b z)
    mle := fun n a e => by rw [hM]; exact F.mle n a e
    mold := fun n a l e => F.mold n a l (by rw [← hM]; exact e)
    mnew := fun n a l e => F.mnew n a l (by rw [← hM]; exact e)
    mw := fun n a mo l l' q e => F.mw n a mo l l' q (by rw [← hM]; exact e)
    hlt := hL, felt := G.felt, wlt := G.wlt, kind := G.kind, glob := G.glob, bi := G.bi, code := G.code, ns := G.ns, hl := hH _ G.hl, lnew := G.lnew
    hc := fun x cc y z => ⟨hH _ (G.hc x cc y z).1, (G.hc x cc y z).2⟩, cl := G.cl, capart := G.capart
    vals := fun i x t a b => let ⟨v, n, r⟩ := F.vals i x t a b; ⟨v, n.kh kk, r.mono (vis_new kk hN fun n a e => by rw [hM]; exact e) (fun a e => by rw [hO]; exact e) fun a vs _ l => kk.isL l⟩
    own := fun i a e => by
      rw [hO] at e
      obtain ⟨p, q, r, vs, l⟩ := F.own i a e
      exact ⟨hH a p, q, fun n => by rw [hM]; exact r n, vs, kk.isL l⟩
    oinj := fun i j a => by rw [hO]; exact F.oinj i j a
    sto := F.sto.new kk hH hN hM
    mh0 := fun n a e => F.mh0 n a (by rw [← hM]; exact e)
    n0le := F.n0le }
theorem rep_fresh_list {H : Hd} {s : Shared} {vs : List Value} {xs : List AV} (hL : Live H s.heap) (hz : xs.length ≤ 1048576) (r : RepL (vis s.heap H) vs xs) :
    Rep (vis (s.heap.push { cls := .type "list", data := .seq vs.toArray }) H) (.ref s.heap.objs.size) (.lst xs) := by
  simp only [Rep]
  exact ⟨hz, _, vs, _, rfl, ⟨hL.fresh, _, Heap.get?_push_size _ rfl, rfl, rfl, rfl, .inl rfl, fun _ => rfl⟩, RepL.mono (Kh.of_keeps (F := fun _ => False) fun b o e => Heap.get?_push_of_some _ e).vis r⟩
theorem rep_fresh_tup {H : Hd} {s : Shared} {vs : List Value} {xs : List AV} (hL : Live H s.heap) (hz : xs.length ≤ 1048576) (r : RepL (vis s.heap H) vs xs) :
    Rep (vis (s.heap.push { cls := .type "tuple", data := .seq vs.toArray }) H) (.ref s.heap.objs.size) (.tup xs) := by
  simp only [Rep]
  exact ⟨hz, _, vs, _, rfl, ⟨hL.fresh, _, Heap.get?_push_size _ rfl, rfl, rfl, rfl, .inr (.inl rfl), fun _ => rfl⟩, RepL.mono (Kh.of_keeps (F := fun _ => False) fun b o e => Heap.get?_push_of_some _ e).vis r⟩
theorem Kp.push {A : Around} {s : Shared} (o : Obj) : Kp A s { s with heap := s.heap.push o } := ⟨_, _, rfl, Kh.of_keeps fun _ _ e => Heap.get?_push_of_some _ e⟩
theorem line_ok {n : Nat} (h : n ≤ 1048576) : n ≤ sizeLine := by rw [show sizeLine = 16777216 from by decide]; omega

section
variable {c : Cx} {O : OpsF} (OK : OpsOk c O) {q : Bool} {k : Nat} {A : Around} {H : Hd} {env : Env} {ns : List Str} {st : Fs} {fe : FE} {s : Shared}

theorem Fm.base' {h : Heap} (F : Fm c (FrA A) ns env st fe H h) : c.h0.StaysIn h := fun b o e => ((F.keep b o (fun f => by rw [F.basew b f] at e; cases e) (F.base b o e)).1 (.inl fun f => by rw [F.baseF b f] at e; cases e))
theorem stays_ns {a b : Heap} (k : a.StaysIn b) {d : Addr} {m : Str → Option Value} (n : a.Ns d m) : b.Ns d m := let ⟨o, es, ep, e, r⟩ := n; ⟨o, es, ep, k _ _ e, r⟩

theorem ld_glob {x : Str} {pos : Pos} {v : Value} {Q E : Value → Shared → Prop} (F : Fm c (FrA A) ns env st fe H s.heap) (hk : env.kindOf x = some .globalImplicit) (hd : (x == ("__debug__" : Str)) = false) (hv : c.mg x = some v) (h : Q v s) :
    wpAny c.M A (eval (.Name x pos) env) Q E s :=
  Calls.Name_function_global F.kind hk (Calls.loadGlobal_global (by rw [F.glob]; exact stays_ns F.base' c.g) hv h) hd
theorem ld_boot {x : Str} {pos : Pos} {v : Value} {Q E : Value → Shared → Prop} (F : Fm c (FrA A) ns env st fe H s.heap) (hk : env.kindOf x = some .globalImplicit) (hd : (x == ("__debug__" : Str)) = false) (hn : x ≠ "__name__") (hf : c.mg x = none) (hv : bootBuiltins x = some v) (h : Q v s) :
    wpAny c.M A (eval (.Name x pos) env) Q E s :=
  Calls.Name_function_global F.kind hk (Calls.loadGlobal_builtin (by rw [F.glob]; exact stays_ns F.base' c.g) hf (by rw [F.bi]; exact stays_ns F.base' c.b) ((c.builtins x hn).trans hv) h) hd

include OK
theorem ev_listcomp {elt iter : Expr} {x : Str} {px pos : Pos} {ifs : List Expr} {scope : Scope} {caps : List Nat} {r : ER} {f : Store → AV → Option (Option AV)} (hq : q = true) (hm : Rm c q (k + 1) A s.heap) (F : Fm c (FrA A) ns env st fe H s.heap) (hlen : st.ρ.length = ns.length)
    (K : CompOk ns env scope x caps) (hs : ∀ x, foldedSetIterable iter env x = pure x) (X : Ev c q A st.lo st.σ H (eval iter env) r s) (T : ∀ σ₁, TurnOk c q (k + 1) A ns env (st.at σ₁) fe scope x caps elt ifs (f σ₁)) :
    Ev c q A st.lo st.σ H (eval (.ListComp elt [⟨.Name x px, iter, ifs, 0⟩] scope pos) env) (r.bind fun a σ₁ => onItems (O.items (derefS st.ρ σ₁ a)) fun l => onItems (mapF (f σ₁) l) fun ys => .ok (.av (.lst ys)) σ₁) s := fun Q E P => by
  obtain ⟨cl, hclos, hcl1, hcl2⟩ := closureFor_ok (env := env) (scope := scope) fun y hy => by
    obtain ⟨cc, _, e, _⟩ := F.cl y (K.free y hy)
    rw [e]; rfl
  rw [eval_ListComp]
  refine wpAny_comprehension_free (use := none) rfl hs hclos K.kind K.loc (X.bindK P fun a σ₁ hr xv H₁ s₁ x₁ r₁ P₁ => ?_)
  have F₁ := F.ss x₁
  have hm₁ := hm.nf x₁.nf
  cases hit : O.items (derefS st.ρ σ₁ a) with
  | none => rw [hit] at P₁; exact P₁.elim
  | some l =>
  rw [hit] at P₁
  simp only [onItems] at P₁
  cases hf : mapF (f σ₁) l with
  | none => rw [hf] at P₁; exact P₁.elim
  | some ys =>
  rw [hf] at P₁
  refine OK.items hm₁ hq F₁.hlt (RepO.derefS F₁ hlen r₁) hit _ _ fun I fp PP St h' tk hk hI hfI hl _ hsz W hst hP => ?_
  refine comp_core (RR := fun acc C => compPost c.M A E none Q acc C) (s₁ := s₁) (st := st.at σ₁) hm₁ F₁ hlen K hcl1 hcl2 ⟨_, _, rfl⟩ hk hI hl hfI W hst hsz hP hf (T σ₁) ?_
  intro D C h'' tk' m' vs hD hC hDC hn hl hr hkv
  refine ⟨m', hn, fun h₃ hs₃ => P₁ _ H₁ _ (.of_kp ⟨h₃, tk', rfl, ?_⟩ F₁.sto F₁.hlt) ?_⟩
  · have k1 : Kh (FrA A) s₁.heap h'' := (Kh.of_keeps hk).trans' hkv fun b o e z => by rw [z, hI] at e; cases e
    refine k1.trans' (Kv.of_sameBut (W := fun b => b = C) hs₃ rfl) fun b o e z => ?_
    have := hk b o e
    rw [z, hC] at this; cases this
  · simp only [RepW, Rep]
    have hl₃ : IsL h₃ D vs := hl.at' fun o e => hs₃.extBut D o hDC e
    obtain ⟨o, n, e, c1, d1, f1⟩ := hl₃
    refine ⟨Nat.le_trans (mapF_length hf) hsz, D, vs, n, rfl, ⟨fun z => ?_, o, e, c1, d1, f1, .inl rfl, fun ⟨_, z⟩ => by cases z⟩, ?_⟩
    · obtain ⟨o', e'⟩ := F₁.hlt D z
      have := hk D o' e'
      rw [hD] at this; cases this
    · have r2 := RepL.mono ((Kv.of_sameBut (F := FrA A) (W := fun b => b = C) hs₃ rfl).vis (H := H₁.add fun b => b = C ∨ b = D ∨ b = I) fun b z => .inr (.inl z)) hr
      exact RepL.mono (vis_hide (H := H₁) (H' := H₁.add fun b => b = C ∨ b = D ∨ b = I) (fun b z => .inl z) fun n a e => e) r2
end
/-- behind a thing made anew, hidden while the rest is reckoned, and filled -/
theorem fresh_ss {c : Cx} {A : Around} {ns : List Str} {env : Env} {st : Fs} {fe : FE} {H H₁ : Hd} {s s₁ s₂ : Shared} {hp : Heap} {a : Addr} {σ₁ : Store} (F : Fm c (FrA A) ns env st fe H s.heap) (k0 : Kp A s { s with heap := hp }) (hnew : s.heap.get? a = none) (ea : ∃ o, hp.get? a = some o)
    (x₁ : Ss A st.lo st.σ (H.add fun b => b = a) { s with heap := hp } σ₁ H₁ s₁) (hr : ∃ h' tk, s₂ = { s₁ with heap := h', toks := tk }) (hs : ∀ b o, b ≠ a → s₁.heap.get? b = some o → s₂.heap.get? b = some o) : Ss A st.lo st.σ H s σ₁ ⟨fun b => H₁.p b ∧ b ≠ a, H₁.m, H₁.o⟩ s₂ := by
  have hnH : ¬ H.p a := fun z => by
    obtain ⟨o', e'⟩ := F.hlt _ z
    rw [hnew] at e'; cases e'
  have nea : ∀ {b o}, s.heap.get? b = some o → b ≠ a := fun {b o} e z => by rw [z, hnew] at e; cases e
  have live1 : ∀ n b mo, σ₁[n]? = some (some mo) → H₁.m n = some b → b ≠ a := fun n b mo e1 e2 z => by
    subst z
    rcases x₁.mn n b e2 with e | ⟨_, e⟩
    · obtain ⟨mo', e3⟩ := x₁.rv n mo (x₁.hm0 n b e) e1
      exact hnH (F.sto.hid n b mo' e3 e)
    · obtain ⟨o, e'⟩ := ea
      have e : hp.get? b = none := e
      rw [e'] at e; cases e
  have le : (vis s₁.heap H₁).Le (vis s₂.heap ⟨fun b => H₁.p b ∧ b ≠ a, H₁.m, H₁.o⟩) := ⟨by
    rintro x c d ⟨n, o, e, r⟩
    refine ⟨fun z => n z.1, o, hs x o (fun z => n (z ▸ x₁.hp a (.inr rfl))) e, r⟩, fun _ _ e => e⟩
  have kv2 : Kv (FrA A) (fun b => b = a) s₁.heap s₂.heap := Kv.of_but (fun b o n e => hs b o n e) rfl
  exact {
    rest := by
      obtain ⟨h', tk, rfl⟩ := hr
      obtain ⟨h'', tk', rfl⟩ := x₁.rest
      exact ⟨h', tk, rfl⟩
    kv := fun b o n e => by
      have nb := nea e
      obtain ⟨p1, sl, p2⟩ := k0.kh b o e
      obtain ⟨q1, sl', q2⟩ := x₁.kv b _ n p2
      exact ⟨fun f => hs b _ nb ((x₁.kv b o n (p1 f)).1 f), sl', hs b _ nb q2⟩
    lv := fun b o e => by
      obtain ⟨_, sl, p2⟩ := k0.kh b o e
      obtain ⟨o', e'⟩ := x₁.lv b _ p2
      exact ⟨o', hs b o' (nea e) e'⟩
    nf := fun b o e nf => by
      obtain ⟨o', e', n'⟩ := (k0.kh.nf.trans x₁.nf) b o e nf
      exact ⟨o', hs b o' (nea e) e', n'⟩
    hp := fun b z => ⟨x₁.hp b (.inl z), fun y => hnH (y ▸ z)⟩
    hid := fun b z => by
      rcases x₁.hid b z.1 with y | y
      · exact .inl (y.resolve_right z.2)
      · exact .inr (none_back k0.kh y)
    mx := fun n b e => x₁.mx n b e
    mn := fun n b e => (x₁.mn n b e).imp id fun ⟨y, z⟩ => ⟨y, none_back k0.kh z⟩
    o := x₁.o
    sto := ⟨fun n mo e => by
        obtain ⟨b, e1, r⟩ := x₁.sto.at' n mo e
        exact ⟨b, e1, r.kv kv2 (live1 n b mo e e1) le⟩, x₁.sto.inj, x₁.sto.lt, fun n b mo e e1 => ⟨x₁.sto.hid n b mo e e1, live1 n b mo e e1⟩, fun n b e => by
        obtain ⟨o, e'⟩ := x₁.sto.al n b e
        refine ⟨o, hs b o (fun z => ?_) e'⟩
        subst z
        rcases x₁.mn n b e with e | ⟨_, e⟩
        · obtain ⟨o', e''⟩ := F.sto.al n b e
          rw [hnew] at e''; cases e''
        · obtain ⟨o', e''⟩ := ea
          have e : hp.get? b = none := e
          (rw [e''] at e; cases e), x₁.sto.tot⟩
    live := fun b z => by
      obtain ⟨o, e⟩ := x₁.live b z.1
      exact ⟨o, hs b o z.2 e⟩
    len := x₁.len
    rv := x₁.rv
    hm0 := fun n b e => x₁.hm0 n b e }

/-- a set of one int -/
theorem setEs_of {prog : Program} {w : World} {h : Heap} {a : Addr} {S : Int → Bool} {n : Nat} {i : Int} (x : h.SetOf (PySem.intKind prog w) a S n) (hS : ∀ k, S k = true ↔ k = i) (hn : n = 1) : ∃ o es ep t, h.get? a = some o ∧ o.cls = .type "set" ∧ o.dict = none ∧ o.slots = #[] ∧ o.data = .set es ep t ∧ SetEs es t [i] := by
  obtain ⟨o, es, ep, t, ho, ⟨h1, h2, h3⟩, hd, hel, hmem, hb, hf, hn'⟩ := x
  have isI : ∀ {k : Int} {v : Value}, Value.isInt k v = true → ∃ tk, v = .int k tk := fun h => Value.isInt_shape h
  have hall : ∀ e ∈ es.toList, ∃ j tk, e = (hashInt j, Value.int j tk) := fun e he => by
    obtain ⟨⟨k, hk, hh⟩, _⟩ := hel e he
    obtain ⟨tk, hv⟩ := isI hk
    obtain ⟨e1, e2⟩ := e
    simp only at hh hv
    exact ⟨k, tk, by rw [hh, hv]; rfl⟩
  refine ⟨o, es, ep, t, ho, h1, h2, h3, hd, by simp, hall, ?_, fun j => ?_, hb, hf⟩
  · rw [List.length_map, Array.length_toList, hn', hn]; rfl
  · rw [List.mem_singleton]
    constructor
    · rintro rfl
      obtain ⟨e, he, hi⟩ := (hmem j).mp ((hS j).mpr rfl)
      obtain ⟨j', tk, rfl⟩ := hall e he
      have : j' = j := by
        obtain ⟨tk', hv⟩ := isI (k := j) (v := Value.int j' tk) hi
        cases hv; rfl
      subst this
      exact ⟨tk, he⟩
    · rintro ⟨tk, he⟩
      exact (hS j).mp ((hmem j).mpr ⟨_, he, by simp [PySem.intKind, Value.isInt]⟩)

section
variable {c : Cx} {q : Bool} {k : Nat} {A : Around} {H : Hd} {env : Env} {ns : List Str} {st : Fs} {fe : FE} {s : Shared}
theorem ev_setd {x : Expr} {pos : Pos} {r : ER} (hm : Rm c q (k + 1) A s.heap) (F : Fm c (FrA A) ns env st fe H s.heap) (hx : ∀ y z, x ≠ .Starred y z) (X : ∀ s' H', Kp A s s' → Fm c (FrA A) ns env st fe H' s'.heap → Ev c q A st.lo st.σ H' (eval x env) r s') :
    Ev c q A st.lo st.σ H (eval (.Set [x] 0 pos) env) (r.bindA fun a σ₁ => match a with | .int i => .ok (.av (.set false [i])) σ₁ | _ => .stuck) s := fun Q E P => by
  rw [arm_eval_Set]
  refine wpAny_bind (wpAny_standAt ?_)
  have main : ∀ (Q' : Bool → Shared → Prop), (∀ b, Q' b s) → wpAny c.M A (inMainModule env) Q' E s := fun Q' h => by
    obtain ⟨cd, o, vs, e, ho, hd⟩ := F.code
    unfold inMainModule
    rw [e]
    split
    · exact wpAny_pure (h _)
    · refine wpAny_bind (wpAny_fieldsOf (F.base' cd o ho) hd ?_)
      split
      · exact wpAny_bind (wpAny_askSetting (wpAny_pure (h _)))
      · exact wpAny_pure (h _)
  refine wpAny_bind (main _ fun b => ?_)
  have hst : starEach [x] env = [(false, eval x env)] := by rw [starEach_cons hx]; rfl
  rw [hst]
  have road : displayRoad 0 [x] = .oneByOne := by simp [displayRoad]
  rw [road]
  refine kds_core (ts := [do let v ← eval x env; standAt pos; pure v]) (by decide) (by rfl) (by simp) (by rfl) fun led => ?_
  have k0 : Kp A s { s with heap := s.heap.push { cls := .type "set", dict := none, data := .set #[] 0 (.fresh 0 0 led) } } := Kp.push _
  have hnew : s.heap.get? s.heap.objs.size = none := Heap.get?_none_of_le (Nat.le_refl _)
  generalize ha : s.heap.objs.size = a at hnew ⊢
  have hnF : ¬ FrA A a := by
    rintro ⟨l, hl, hb⟩
    obtain ⟨l', hl', ff⟩ := hm.frames
    rw [hl] at hl'; cases hl'
    obtain ⟨_, o, e, _⟩ := ff.mem hb
    rw [hnew] at e; cases e
  have hnH : ¬ H.p a := fun z => by
    obtain ⟨o', e'⟩ := F.hlt _ z
    rw [hnew] at e'; cases e'
  have ea : (s.heap.push { cls := .type "set", dict := none, data := .set #[] 0 (.fresh 0 0 led) }).get? a = some { cls := .type "set", dict := none, data := .set #[] 0 (.fresh 0 0 led) } := by rw [← ha]; exact Heap.get?_push_size _ rfl
  have S0 : (s.heap.push { cls := .type "set", dict := none, data := .set #[] 0 (.fresh 0 0 led) }).SetOf (PySem.intKind c.prog c.w) a (fun _ => false) 0 :=
    ⟨_, #[], 0, _, ea, ⟨rfl, rfl, rfl⟩, rfl, fun e he => by simp at he, fun k => by simp, by decide, by rfl, rfl⟩
  generalize hs0 : s.heap.push { cls := .type "set", dict := none, data := .set #[] 0 (.fresh 0 0 led) } = hp at k0 ea S0 ⊢
  have dead0 : ∀ b, hp.get? b = none → s.heap.get? b = none := fun b e => none_back k0.kh e
  have F0 : Fm c (FrA A) ns env st fe (H.add fun b => b = a) hp := F.hide k0.kh (fun b z => .inl z) (fun b z => z.imp id fun (z : b = a) => z ▸ hnew) rfl rfl fun b z => by
    rcases z with z | z
    · obtain ⟨o, e⟩ := F.hlt b z
      obtain ⟨sl, e'⟩ := (k0.kh b o e).2
      exact ⟨_, e'⟩
    · exact ⟨_, z ▸ ea⟩
  have P0 : ∀ {r : ER}, PostE q A st.lo st.σ H r s Q E → PostE q A st.lo st.σ H r s Q E := id
  show wpAny c.M A ((eval x env >>= fun v => standAt pos >>= fun _ => pure v) >>= fun v => holding [v] (evalAll []) >>= fun r => pure (v :: r)) _ _ _
  refine wpAny_bind (wpAny_bind ?_)
  have X0 := X { s with heap := hp } (H.add fun b => b = a) k0 F0
  -- an exception
  cases hr : r with
  | stuck => rw [hr] at P; exact P.elim
  | exc z σ₁ =>
    rw [hr] at P X0
    refine X0 _ _ ⟨P.1, fun e H' sr s' x₁ Y => P.2 e ⟨fun b => H'.p b ∧ b ≠ a, H'.m, H'.o⟩ sr s' ?_ Y⟩
    exact fresh_ss F k0 hnew ⟨_, ea⟩ x₁ ⟨_, _, rfl⟩ fun b o _ e => e
  | ok v σ₁ =>
  rw [hr] at P X0
  cases v with
  | own i => exact P.elim
  | av av =>
  refine X0 _ _ fun v H₁ s₁ x₁ r₁ => wpAny_bind (wpAny_standAt (wpAny_pure ?_))
  refine wpAny_bind (wpAny_holding (wpAny_pure (wpAny_pure ?_)))
  simp only [ER.bindA] at P
  split at P
  case h_2 => exact P.elim
  rename_i i
  simp only [RepW, Rep] at r₁
  obtain ⟨t, rfl⟩ := r₁
  refine kds_fill_cons ?_
  have hnW : ¬ Wr st.σ (H.add fun b => b = a) st.lo a := fun ⟨n, mo, _, e1, e2⟩ => hnH (F.sto.hid n _ mo e1 e2)
  have S1 : s₁.heap.SetOf (PySem.intKind c.prog c.w) a (fun _ => false) 0 := by
    obtain ⟨o, es, ep, t, ho, r⟩ := S0
    exact ⟨o, es, ep, t, (x₁.kv _ o hnW ho).1 (.inl hnF), r⟩
  unfold setAdd
  refine wpAny_holding (wpAny_bind ((PySem.intKind c.prog c.w).pyHash (k := i) (by simp [PySem.intKind, Value.isInt]) ?_))
  refine wpAny_setAddHashed_of (knd := PySem.intKind c.prog c.w) (k := i) (by simp [PySem.intKind, Value.isInt]) (by rfl) S1 (by decide) fun h₂ hsb S2 => ?_
  refine kds_fill_nil (by decide) ?_
  obtain ⟨o, es, ep, t', ho, h1, h2, h3, hd, hes⟩ := setEs_of S2 (i := i) (fun k => by simp) (by simp)
  refine P _ ⟨fun b => H₁.p b ∧ b ≠ a, H₁.m, H₁.o⟩ _ (fresh_ss F k0 hnew ⟨_, ea⟩ x₁ ⟨_, _, rfl⟩ fun b o nb e => (hsb.2 b nb).trans e) ?_
  simp only [RepW, Rep]
  exact ⟨_, es, ep, t', rfl, ⟨fun z => z.2 rfl, o, ho, h1, hd, h2, .inr (.inr (.inr (.inl rfl))), fun _ => h3⟩, hes⟩
end
end Mine
end
section
open PySem PySem.W PyProof.Rows
namespace Mine

theorem encE_notStar {frees : List Str} {fname : Nat → Str} {ks : List (Str × NameKind)} {ns : List Str} {p : PE} {ex : Expr} (h : encE frees fname ks ns p ex = true) : ∀ x z, ex ≠ .Starred x z := by
  rintro x z rfl
  cases p <;> exact Bool.false_ne_true h
theorem encE_notSet {frees : List Str} {fname : Nat → Str} {ks : List (Str × NameKind)} {ns : List Str} {p : PE} {ex : Expr} (h : encE frees fname ks ns p ex = true) (hs : isSetd p = false) (env : Env) : ∀ x, foldedSetIterable ex env x = pure x := by
  intro x
  cases ex <;> first | rfl | (cases p <;> first | exact (Bool.false_ne_true h).elim | exact (Bool.false_ne_true hs.symm).elim)
theorem encE_notSlice {frees : List Str} {fname : Nat → Str} {ks : List (Str × NameKind)} {ns : List Str} {p : PE} {ex : Expr} (h : encE frees fname ks ns p ex = true) : ∀ a b z w, ex ≠ .Slice a b z w := by
  rintro a b z w rfl
  cases p <;> exact Bool.false_ne_true h
theorem subscripted_plain {ex : Expr} (h : ∀ a b z w, ex ≠ .Slice a b z w) (o i : Value) : subscripted ex false o i = operate [o, i] (getItem o i) := by
  cases ex <;> first | rfl | exact absurd rfl (h _ _ _ _)
theorem isGlob_of {ks : List (Str × NameKind)} {x : Str} {env : Env} (hks : env.scope.names = ks) (h : isGlob ks x = true) : env.kindOf x = some .globalImplicit ∧ (x == ("__debug__" : Str)) = false ∧ x ≠ "__name__" := by
  simp only [isGlob, Bool.and_eq_true, Bool.not_eq_true', beq_iff_eq] at h
  refine ⟨?_, h.1.2, by simpa using h.2⟩
  show env.scope.names.lookup x = _
  rw [hks]; exact h.1.1

theorem Rm.down {c : Cx} {q : Bool} {k : Nat} {A : Around} {h : Heap} (X : Rm c q (k + 1) A h) : Rm c q k A h := ⟨by have := X.depth; omega, by have := X.units; omega, X.hand, X.frames⟩
theorem pes_nil {frees : List Str} {fname : Nat → Str} {ks : List (Str × NameKind)} {ns : List Str} {ps : PEs} (h : encEs frees fname ks ns ps [] = true) : ps = .nil := by
  cases ps with
  | nil => rfl
  | cons _ _ => simp [encEs] at h
theorem encEs_head {frees : List Str} {fname : Nat → Str} {ks : List (Str × NameKind)} {ns : List Str} {ps : PEs} {e : Expr} {es : List Expr} (h : encEs frees fname ks ns ps (e :: es) = true) : ∀ x z, e ≠ .Starred x z := by
  cases ps with
  | nil => simp [encEs] at h
  | cons p ps => simp only [encEs, Bool.and_eq_true] at h; exact encE_notStar h.1
theorem star_plain {frees : List Str} {fname : Nat → Str} {ks : List (Str × NameKind)} {ns : List Str} {pos : Pos} {env : Env} : ∀ {ps : PEs} {es : List Expr}, encEs frees fname ks ns ps es = true → (backTo pos (starEach es env)).any (·.1) = false
  | _, [], _ => rfl
  | .nil, _ :: _, h => by simp [encEs] at h
  | .cons p ps, e :: es, h => by
    have h' := h
    simp only [encEs, Bool.and_eq_true] at h
    rw [starEach_cons (encEs_head h')]
    show (false || (backTo pos (starEach es env)).any (·.1)) = false
    rw [star_plain h.2]; rfl

/-- a thing that can turn is taken up -/
noncomputable def Hd.put (H : Hd) (n : Nat) (a : Addr) : Hd := ⟨fun b => H.p b ∨ b = a, fun i => if i = n then some a else H.m i, H.o⟩
theorem vis_put {Fr : Addr → Prop} {H : Hd} {h h' : Heap} {n : Nat} {a : Addr} (k : Kh Fr h h') (hnew : h.get? a = none) (hn : H.m n = none) : (vis h H).Le (vis h' (H.put n a)) :=
  vis_new k (fun b z => z.imp id fun (z : b = a) => z ▸ hnew) fun i b e => by
    show (if i = n then some a else H.m i) = some b
    rw [if_neg (fun z => by rw [z, hn] at e; cases e)]; exact e
theorem adopt_ss {A : Around} {lo : Nat} {σ : Store} {H : Hd} {s s' : Shared} {a : Addr} {mo : MO} (S : Sto σ H s.heap) (L : Live H s.heap) (k : Kp A s s') (hnew : s.heap.get? a = none) (r : RepM s'.heap (vis s'.heap (H.put σ.length a)) a mo) :
    Ss A lo σ H s (σ ++ [some mo]) (H.put σ.length a) s' := by
  have hn : H.m σ.length = none := by
    cases e : H.m σ.length with
    | none => rfl
    | some b => have := S.lt _ _ e; omega
  have le := vis_put (H := H) (n := σ.length) k.kh hnew hn
  have mget : ∀ i b, (H.put σ.length a).m i = some b → (i = σ.length ∧ b = a) ∨ (i ≠ σ.length ∧ H.m i = some b) := fun i b e => by
    have e : (if i = σ.length then some a else H.m i) = some b := e
    split at e
    · cases e; exact .inl ⟨by assumption, rfl⟩
    · exact .inr ⟨by assumption, e⟩
  have mold : ∀ i b, H.m i = some b → (H.put σ.length a).m i = some b := fun i b e => le.m i b e
  have olda : ∀ i b mo, σ[i]? = some (some mo) → H.m i = some b → b ≠ a := fun i b mo e1 e2 z => by
    subst z
    obtain ⟨o, e⟩ := L b (S.hid i b mo e1 e2)
    rw [hnew] at e; cases e
  obtain ⟨oa, ea, _⟩ := r.data
  exact {
    rest := let ⟨h, t, e, _⟩ := k; ⟨h, t, e⟩
    kv := k.kh.kv
    lv := fun b o e => let ⟨_, q⟩ := (k.kh b o e).2; ⟨_, q⟩
    nf := k.kh.nf
    hp := fun b z => .inl z
    hid := fun b z => z.imp id fun (z : b = a) => z ▸ hnew
    mx := mold
    mn := fun i b e => by
      rcases mget i b e with ⟨rfl, rfl⟩ | ⟨_, e⟩
      · exact .inr ⟨Nat.le_refl _, hnew⟩
      · exact .inl e
    o := rfl
    sto := ⟨fun i mo' e => by
        rcases Nat.lt_or_ge i σ.length with hl | hl
        · rw [List.getElem?_append_left hl] at e
          obtain ⟨b, e1, r1⟩ := S.at' i mo' e
          exact ⟨b, mold i b e1, r1.kv (k.kh.kv (W := fun _ => False)) id le⟩
        · rw [List.getElem?_append_right hl] at e
          have hi : i = σ.length := by
            rcases Nat.lt_or_ge (i - σ.length) 1 with h | h
            · omega
            · rw [List.getElem?_eq_none (by simpa using h)] at e; cases e
          subst hi
          simp at e
          subst e
          exact ⟨a, if_pos rfl, r⟩, fun i j b e1 e2 => by
        rcases mget i b e1 with ⟨rfl, rfl⟩ | ⟨n1, f1⟩ <;> rcases mget j b e2 with ⟨rfl, e3⟩ | ⟨n2, f2⟩
        · rfl
        · obtain ⟨o, e⟩ := S.al j b f2; rw [hnew] at e; cases e
        · obtain ⟨o, e⟩ := S.al i b f1; rw [e3, hnew] at e; cases e
        · exact S.inj i j b f1 f2, fun i b e => by
        rw [List.length_append]
        rcases mget i b e with ⟨rfl, _⟩ | ⟨_, e⟩
        · simp
        · have := S.lt i b e; simp; omega, fun i b mo' e e1 => by
        rcases mget i b e1 with ⟨_, rfl⟩ | ⟨n1, e1⟩
        · exact .inr rfl
        · have hl := S.lt i b e1
          rw [List.getElem?_append_left hl] at e
          exact .inl (S.hid i b mo' e e1), fun i b e => by
        rcases mget i b e with ⟨_, rfl⟩ | ⟨_, e⟩
        · exact ⟨oa, ea⟩
        · obtain ⟨o, e'⟩ := S.al i b e
          obtain ⟨sl, e''⟩ := (k.kh b o e').2
          exact ⟨_, e''⟩, fun i b e => by
        rcases mget i b e with ⟨rfl, _⟩ | ⟨_, e⟩
        · exact ⟨mo, by simp⟩
        · obtain ⟨mo', e'⟩ := S.tot i b e
          exact ⟨mo', by rw [List.getElem?_append_left (S.lt i b e)]; exact e'⟩⟩
    live := fun b z => by
      rcases z with z | z
      · exact L.kp k b z
      · exact ⟨oa, z ▸ ea⟩
    len := by simp
    rv := fun i mo' hl e => by rw [List.getElem?_append_left hl] at e; exact ⟨mo', e⟩
    hm0 := S.lt }

end Mine
end
section
open PySem PySem.W PyProof.Rows
set_option maxHeartbeats 2000000
set_option linter.unusedVariables false
set_option linter.unusedSectionVars false
namespace Mine

theorem star_all {frees : List Str} {fname : Nat → Str} {ks : List (Str × NameKind)} {ns : List Str} {pos : Pos} {env : Env} {ps : PEs} {es : List Expr} (h : encEs frees fname ks ns ps es = true) (hl : es.length < 20) :
    ((backTo pos (starEach es env)).all (fun x => !x.1) && (backToKw pos (keywordEach [] env)).all (fun x => x.1.isSome) && decide (es.length + ([] : List Keyword).length + (if ([] : List Keyword).isEmpty then 0 else 1) < 30)) = true := by
  have h1 := star_plain (pos := pos) (env := env) h
  have h2 : (backTo pos (starEach es env)).all (fun x => !x.1) = true := by
    rw [List.all_eq_true]
    intro x hx
    rw [List.any_eq_false] at h1
    have := h1 x hx
    simpa using this
  rw [h2]
  simp [keywordEach, backToKw]
  omega

theorem emeth_plain : PlainAttrs "list" := PySem.F.plainAttrs_list
theorem emeth_slot : ∀ (m : EMI), Slot "list" (Str.ofString m.name) ("list." ++ m.name)
  | .append => slot_list_append
  | .pop => PySem.F.slot_list_pop
theorem emeth_type : ∀ (m : EMI), typeOf (.builtin ("list." ++ m.name)) = pure (.type "method_descriptor")
  | .append => by with_unfolding_all rfl
  | .pop => PySem.F.type_list_pop
theorem comp_turn {c : Cx} {O : OpsF} {cal : Cal} {k : Nat} {elt : PE} {conds : PEs} {q : Bool} {ns : List Str} {st : Fs} {env : Env} {A : Around} {fe : FE} {scope : Scope} {x : Str} {caps : List Nat} {e' : Expr} {ifs : List Expr} {ks' : List (Str × NameKind)} (hk : (relabel scope env).names = ks') (hlen : st.ρ.length = ns.length)
    (Ie : ∀ {cenv : Env} {s : Shared} {H : Hd} {st' : Fs}, cenv.scope.names = ks' → Rm c q (k + 1) A s.heap → Fm c (FrA A) (ns ++ [x]) cenv st' fe H s.heap → st'.ρ.length = (ns ++ [x]).length → PrOk c q A st'.lo st'.σ H e' cenv (pe O cal q st' elt) s)
    (Ic : ∀ {cenv : Env} {s : Shared} {H : Hd} {st' : Fs}, cenv.scope.names = ks' → Rm c q (k + 1) A s.heap → Fm c (FrA A) (ns ++ [x]) cenv st' fe H s.heap → st'.ρ.length = (ns ++ [x]).length → EvB c A st'.lo st'.σ H (testsOf ifs cenv) (pall O cal q st' .And conds) s) :
    TurnOk c q (k + 1) A ns env st fe scope x caps e' ifs (fun x => compF st.σ.length (pall O cal q (st.inner caps x) .And conds) (pe O cal q (st.inner caps x) elt).v) := by
  intro item s₃ H₃ cenv hsc hm₃ F₃
  have hks' : cenv.scope.names = ks' := by rw [hsc]; exact hk
  have hlen' : (st.inner caps item).ρ.length = (ns ++ [x]).length := by simp [Fs.inner, mask_length, hlen]
  refine ⟨fun y hy => ?_, fun hn => ?_⟩
  · unfold compF at hy
    dsimp only at hy
    split at hy
    · rename_i σt ht
      have T := Ic hks' hm₃ F₃ hlen'
      rw [ht] at T
      refine ⟨T.pure (Nat.le_refl _), fun s₄ k₄ => ?_⟩
      have Y := (Ie hks' (hm₃.kp k₄) (F₃.kp k₄) hlen').v
      unfold elemF at hy
      split at hy
      · rename_i v σ' hv
        split at hy
        · rename_i hl
          simp only [Option.map_some, Option.some.injEq] at hy
          subst hy
          rw [hv] at Y
          exact Y.pure (Nat.le_refl _) hl
        · cases hy
      · cases hy
    · cases hy
    · cases hy
  · unfold compF at hn
    dsimp only at hn
    split at hn
    · simp only [Option.map_eq_some_iff] at hn
      obtain ⟨_, _, hn⟩ := hn
      cases hn
    · rename_i σt ht
      have T := Ic hks' hm₃ F₃ hlen'
      rw [ht] at T
      exact T.pure (Nat.le_refl _)
    · cases hn

section
variable {c : Cx} {O : OpsF} (OK : OpsOk c O) {k : Nat} {cal : Cal} {fname : Nat → Str} (CO : CallsOk c k cal fname) {frees : List Str} (hfree : ∀ x ∈ frees, c.mg x = none)
include OK CO hfree

mutual
theorem pe_sound : ∀ (e : PE) {q : Bool} {ks : List (Str × NameKind)} {ns : List Str} {st : Fs} {ex : Expr} {env : Env} {A : Around} {s : Shared} {fe : FE} {H : Hd},
    encE frees fname ks ns e ex = true → env.scope.names = ks → Rm c q (k + 1) A s.heap → Fm c (FrA A) ns env st fe H s.heap → st.ρ.length = ns.length → PrOk c q A st.lo st.σ H ex env (pe O cal q st e) s
  | .const v, q, ks, ns, st, ex, env, A, s, fe, H, he, hks, hm, F, hlen => by
    simp only [encE] at he
    obtain ⟨c', kk, pos, rfl, hz⟩ := onE_cst he
    replace he := hz; clear hz
    simp only [pe]
    refine prOk_of OK hm F hlen ?_ rfl
    have T : Tr c q A H (eval (.Constant c' kk pos) env) (.ok v) s := by
      rcases encC_cases he with ⟨i, rfl, rfl⟩ | ⟨b, rfl, rfl⟩ | ⟨rfl, rfl⟩ | ⟨x, rfl, rfl⟩
      · exact tr_const_int
      · exact tr_const_bool
      · exact tr_const_none
      · exact tr_const_str
    exact Ev.of_tr F.sto F.hlt T
  | .name i, q, ks, ns, st, ex, env, A, s, fe, H, he, hks, hm, F, hlen => by
    simp only [encE] at he
    obtain ⟨x, pos, rfl, hz⟩ := onE_name he
    replace he := hz; clear hz
    simp only [Bool.and_eq_true, beq_iff_eq, Bool.not_eq_true'] at he
    simp only [pe]
    refine prOk_of OK hm F hlen ?_ rfl
    unfold slotV
    split
    · rename_i v hv
      obtain ⟨w, n, r⟩ := F.vals i x _ he.1 hv
      exact fun Q E P => wpAny_Name (n.load F.kind (P _ H s (.of_kp (Kp.refl _ _) F.sto F.hlt) r)) he.2
    · rename_i xs hv
      obtain ⟨w, n, z, a, vs, e, o, _⟩ := F.vals i x _ he.1 hv
      exact fun Q E P => wpAny_Name (n.load F.kind (P _ H s (.of_kp (Kp.refl _ _) F.sto F.hlt) ⟨a, o, e⟩)) he.2
    · exact Ev.stuck
  | .glob b, q, ks, ns, st, ex, env, A, s, fe, H, he, hks, hm, F, hlen => by
    simp only [encE] at he
    obtain ⟨x, pos, rfl, hz⟩ := onE_name he
    replace he := hz; clear hz
    simp only [Bool.and_eq_true, beq_iff_eq, List.contains_iff_mem] at he
    obtain ⟨⟨⟨h1, h2⟩, h3⟩, h4⟩ := he
    obtain ⟨g1, g2, g3⟩ := isGlob_of hks h3
    simp only [pe]
    refine prOk_of OK hm F hlen ?_ rfl
    exact fun Q E P => ld_boot F g1 g2 g3 (hfree x h4) (by rw [h2]; exact BI.boot_ty h1) (P _ H s (.of_kp (Kp.refl _ _) F.sto F.hlt) (by simp [RepW, Rep]))
  | .bin op l r, q, ks, ns, st, ex, env, A, s, fe, H, he, hks, hm, F, hlen => by
    simp only [encE] at he
    obtain ⟨l', op', r', pos, rfl, hz⟩ := onE_bin he
    replace he := hz; clear hz
    simp only [Bool.and_eq_true, beq_iff_eq] at he
    obtain ⟨⟨rfl, h1⟩, h2⟩ := he
    simp only [pe]
    refine prOk_of OK hm F hlen ?_ rfl
    intro Q E P
    refine wpAny_BinOp ((pe_sound l h1 hks hm F hlen).v.bindK P fun a σ₁ _ va H₁ s₁ x₁ r₁ P₁ => ?_)
    have F₁ := F.ss x₁
    refine (pe_sound r h2 hks (hm.nf x₁.nf) F₁ hlen).v.bindK P₁ fun b σ₂ _ vb H₂ s₂ x₂ r₂ P₂ => ?_
    have F₂ := F₁.ss x₂
    exact OK.bin ((hm.nf x₁.nf).nf x₂.nf) F₂.hlt (RepO.derefS F₂ hlen (r₁.ss x₂ F₁.sto)) (RepO.derefS F₂ hlen r₂) _ _ (P₂.res F₂.sto F₂.hlt)
  | .un op x, q, ks, ns, st, ex, env, A, s, fe, H, he, hks, hm, F, hlen => by
    simp only [encE] at he
    obtain ⟨op', x', pos, rfl, hz⟩ := onE_un he
    replace he := hz; clear hz
    simp only [Bool.and_eq_true, beq_iff_eq] at he
    obtain ⟨rfl, h1⟩ := he
    simp only [pe]
    have I := pe_sound x h1 hks hm F hlen
    have T : Ev c q A st.lo st.σ H (eval (.UnaryOp op x' pos) env) ((pe O cal q st x).v.bind fun a σ₁ => ofRes (O.un op (derefS st.ρ σ₁ a)) σ₁) s := by
      intro Q E P
      refine wpAny_UnaryOp (I.v.bindK P fun a σ₁ _ va H₁ s₁ x₁ r₁ P₁ => ?_)
      have F₁ := F.ss x₁
      exact OK.un (hm.nf x₁.nf) F₁.hlt (RepO.derefS F₁ hlen r₁) _ _ (P₁.res F₁.sto F₁.hlt)
    refine ⟨T, ?_⟩
    cases op with
    | Not =>
      intro b σ' hb Q E P
      simp only [Option.map_eq_some_iff, Prod.mk.injEq] at hb
      obtain ⟨⟨b', σ''⟩, hb', rfl, rfl⟩ := hb
      exact wpAny_isTrue_Not (I.t b' _ hb' _ _ P)
    | Invert => exact isT_value OK hm F hlen T rfl
    | UAdd => exact isT_value OK hm F hlen T rfl
    | USub => exact isT_value OK hm F hlen T rfl
  | .cmp op l r, q, ks, ns, st, ex, env, A, s, fe, H, he, hks, hm, F, hlen => by
    simp only [encE] at he
    obtain ⟨l', op', r', pos, rfl, hz⟩ := onC1_eq he
    replace he := hz; clear hz
    all_goals
      simp only [Bool.and_eq_true, beq_iff_eq, Bool.not_eq_true'] at he
      obtain ⟨⟨⟨rfl, h1⟩, h2⟩, h3⟩ := he
      simp only [pe]
      -- from what the comparison comes to
      have fin : ∀ (R : ER), (∀ (Q Q' : Value → Shared → Prop) (E : Value → Shared → Prop), PostE q A st.lo st.σ H R s Q E → (∀ t σ' H' s', R = .ok (.av (.bool t)) σ' → Ss A st.lo st.σ H s σ' H' s' → Q' (.bool t) s') → wpAny c.M A (eval l' env) (fun va s₁ => wpAny c.M A (eval r' env) (fun vb s₂ => wpAny c.M A (compareOp op va vb) Q' E s₂) E s₁) E s) →
          PrOk c q A st.lo st.σ H (.Compare l' [op] [r'] pos) env (.of O.truth st.ρ R) s := fun R core => by
        have T : Ev c q A st.lo st.σ H (eval (.Compare l' [op] [r'] pos) env) R s := fun Q E P => wpAny_Compare1 (core Q Q E P fun t σ' H' s' e x => by subst e; exact P _ H' s' x (by simp [RepW, Rep])) h3
        refine ⟨T, fun b σ' hb Q E P => ?_⟩
        cases R with
        | exc _ _ => cases hb
        | stuck => cases hb
        | ok v σ₁ =>
          simp only [PR.of, ER.truth, Option.map_eq_some_iff, Prod.mk.injEq] at hb
          obtain ⟨b', hb, rfl, rfl⟩ := hb
          refine wpAny_isTrue_Compare1 (core (fun _ _ => True) _ E (fun _ _ _ _ _ => trivial) fun t σ'' H' s' e x => ?_) h3
          cases e
          have F' := F.ss x
          exact OK.truth (hm.nf x.nf) F'.hlt (a := .bool t) (by simp [RepO, Rep]) hb _ _ fun s'' k'' => P H' s'' (x.trans (.of_kp k'' F'.sto F'.hlt))
      have isCase : (op = .Is ∨ op = .IsNot) → PrOk c q A st.lo st.σ H (.Compare l' [op] [r'] pos) env (.of O.truth st.ρ ((pe O cal q st l).v.bindA fun a σ₁ => (pe O cal q (st.at σ₁) r).v.bindA fun b σ₂ => ofB ((O.is_ a b).map fun z => if op = .Is then z else !z) σ₂)) s := fun hop => by
        refine fin _ fun Q Q' E P h => (pe_sound l h1 hks hm F hlen).v.bindAK P fun a σ₁ e₁ va H₁ s₁ x₁ r₁ P₁ => ?_
        have F₁ := F.ss x₁
        refine (pe_sound r h2 hks (hm.nf x₁.nf) F₁ hlen).v.bindAK P₁ fun b σ₂ e₂ vb H₂ s₂ x₂ r₂ P₂ => ?_
        have F₂ := F₁.ss x₂
        have x12 := x₁.trans x₂
        cases hc : O.is_ a b with
        | none => rw [hc] at P₂; exact P₂.elim
        | some t =>
          refine OK.is_ (hm.nf x12.nf) F₂.sto (Rep.mono (x₂.vis F₁.sto) r₁) r₂ hc hop _ _ fun v s₃ k₃ r₃ => ?_
          simp only [Rep] at r₃
          subst r₃
          exact h _ σ₂ H₂ s₃ (by simp only [e₁, ER.bindA, e₂, hc, Option.map_some, ofB]) (x12.trans (.of_kp k₃ F₂.sto F₂.hlt))
      have cmpCase : PrOk c q A st.lo st.σ H (.Compare l' [op] [r'] pos) env (.of O.truth st.ρ ((pe O cal q st l).v.bind fun a σ₁ => (pe O cal q (st.at σ₁) r).v.bind fun b σ₂ => ofB (O.cmp op (derefS st.ρ σ₂ a) (derefS st.ρ σ₂ b)) σ₂)) s := by
        refine fin _ fun Q Q' E P h => (pe_sound l h1 hks hm F hlen).v.bindK P fun a σ₁ e₁ va H₁ s₁ x₁ r₁ P₁ => ?_
        have F₁ := F.ss x₁
        refine (pe_sound r h2 hks (hm.nf x₁.nf) F₁ hlen).v.bindK P₁ fun b σ₂ e₂ vb H₂ s₂ x₂ r₂ P₂ => ?_
        have F₂ := F₁.ss x₂
        have x12 := x₁.trans x₂
        cases hc : O.cmp op (derefS st.ρ σ₂ a) (derefS st.ρ σ₂ b) with
        | none => rw [hc] at P₂; exact P₂.elim
        | some t =>
          refine OK.cmp (hm.nf x12.nf) F₂.hlt (RepO.derefS F₂ hlen (r₁.ss x₂ F₁.sto)) (RepO.derefS F₂ hlen r₂) hc _ _ fun v s₃ k₃ r₃ => ?_
          simp only [Rep] at r₃
          subst r₃
          exact h _ σ₂ H₂ s₃ (by simp only [e₁, ER.bind, e₂, hc, ofB]) (x12.trans (.of_kp k₃ F₂.sto F₂.hlt))
      cases op
      case Is => exact (by simpa using isCase (.inl rfl))
      case IsNot => exact (by simpa using isCase (.inr rfl))
      all_goals exact cmpCase
  | .bop op xs, q, ks, ns, st, ex, env, A, s, fe, H, he, hks, hm, F, hlen => by
    simp only [encE] at he
    obtain ⟨op', xs', pos, rfl, hz⟩ := onE_bop he
    replace he := hz; clear hz
    simp only [Bool.and_eq_true, beq_iff_eq] at he
    obtain ⟨rfl, h1⟩ := he
    simp only [pe]
    exact ⟨fun Q E P => pbop_sound xs h1 hks hm F hlen Q E P, fun b σ' hb Q E P => wpAny_isTrue_BoolOp (pall_sound xs h1 hks hm F hlen b σ' hb _ _ P)⟩
  | .ife t a b, q, ks, ns, st, ex, env, A, s, fe, H, he, hks, hm, F, hlen => by
    simp only [encE] at he
    obtain ⟨t', a', b', pos, rfl, hz⟩ := onE_ife he
    replace he := hz; clear hz
    simp only [Bool.and_eq_true] at he
    obtain ⟨⟨h1, h2⟩, h3⟩ := he
    simp only [pe]
    have I := pe_sound t h1 hks hm F hlen
    split
    · rename_i σ₁ ht
      exact ⟨fun Q E P => wpAny_IfExp (I.t _ _ ht _ _ fun H₁ s₁ x₁ => (pe_sound a h2 hks (hm.nf x₁.nf) (F.ss x₁) hlen).v _ _ (P.ss x₁)),
        fun z σ' hz Q E P => isTrue_IfExp (I.t _ _ ht _ _ fun H₁ s₁ x₁ => (pe_sound a h2 hks (hm.nf x₁.nf) (F.ss x₁) hlen).t z σ' hz _ _ fun H₂ s₂ x₂ => P H₂ s₂ (x₁.trans x₂))⟩
    · rename_i σ₁ ht
      exact ⟨fun Q E P => wpAny_IfExp (I.t _ _ ht _ _ fun H₁ s₁ x₁ => (pe_sound b h3 hks (hm.nf x₁.nf) (F.ss x₁) hlen).v _ _ (P.ss x₁)),
        fun z σ' hz Q E P => isTrue_IfExp (I.t _ _ ht _ _ fun H₁ s₁ x₁ => (pe_sound b h3 hks (hm.nf x₁.nf) (F.ss x₁) hlen).t z σ' hz _ _ fun H₂ s₂ x₂ => P H₂ s₂ (x₁.trans x₂))⟩
    · exact ⟨Ev.stuck, fun b σ' hb => by cases hb⟩
  | .list xs, q, ks, ns, st, ex, env, A, s, fe, H, he, hks, hm, F, hlen => by
    simp only [encE] at he
    obtain ⟨es, pos, rfl, hz⟩ := onE_list he
    replace he := hz; clear hz
    simp only [pe]
    refine prOk_of OK hm F hlen ?_ rfl
    intro Q E P
    refine wpAny_List_spliced ((pes_sound xs he hks hm F hlen).onPK P fun l σ₁ _ _ _ vs H₁ s₁ x₁ r₁ P₁ => ?_)
    split at P₁
    · rename_i hl
      have F₁ := F.ss x₁
      exact ⟨by rw [r₁.length]; exact line_ok (by omega), P₁ _ H₁ _ (.of_kp (Kp.push _) F₁.sto F₁.hlt) (rep_fresh_list F₁.hlt (by omega) r₁)⟩
    · exact P₁.elim
  | .tup xs, q, ks, ns, st, ex, env, A, s, fe, H, he, hks, hm, F, hlen => by
    simp only [encE] at he
    obtain ⟨es, kk, pos, rfl, hz⟩ := onE_tup he
    replace he := hz; clear hz
    simp only [pe]
    refine prOk_of OK hm F hlen ?_ rfl
    intro Q E P
    refine wpAny_Tuple_spliced ((pes_sound xs he hks hm F hlen).onPK P fun l σ₁ _ _ _ vs H₁ s₁ x₁ r₁ P₁ => ?_)
    split at P₁
    · rename_i hl
      have F₁ := F.ss x₁
      exact ⟨by rw [r₁.length]; exact line_ok (by omega), P₁ _ H₁ _ (.of_kp (Kp.push _) F₁.sto F₁.hlt) (rep_fresh_tup F₁.hlt (by omega) r₁)⟩
    · exact P₁.elim
  | .newl xs, q, ks, ns, st, ex, env, A, s, fe, H, he, hks, hm, F, hlen => by
    simp only [encE] at he
    obtain ⟨es, pos, rfl, hz⟩ := onE_list he
    replace he := hz; clear hz
    simp only [pe]
    refine prOk_of OK hm F hlen ?_ rfl
    intro Q E P
    refine wpAny_List_spliced ((pes_sound xs he hks hm F hlen).onPK P fun l σ₁ _ _ _ vs H₁ s₁ x₁ r₁ P₁ => ?_)
    split at P₁
    · rename_i hl
      have F₁ := F.ss x₁
      refine ⟨by rw [r₁.length]; exact line_ok (by omega), ?_⟩
      have hn : H₁.m σ₁.length = none := by
        cases e : H₁.m σ₁.length with
        | none => rfl
        | some b => have := x₁.sto.lt _ _ e; omega
      have hnew : s₁.heap.get? s₁.heap.objs.size = none := Heap.get?_none_of_le (Nat.le_refl _)
      have kp := Kp.push (A := A) (s := s₁) { cls := .type "list", data := .seq vs.toArray }
      refine P₁ _ (H₁.put σ₁.length s₁.heap.objs.size) _ (adopt_ss F₁.sto F₁.hlt kp hnew ⟨by omega, vs, ⟨_, _, Heap.get?_push_size _ rfl, rfl, rfl, rfl⟩, RepL.mono (vis_put kp.kh hnew hn) r₁⟩) ?_
      simp only [RepW, Rep]
      exact ⟨_, if_pos rfl, rfl⟩
    · exact P₁.elim
  | .sub o i, q, ks, ns, st, ex, env, A, s, fe, H, he, hks, hm, F, hlen => by
    simp only [encE] at he
    obtain ⟨o', i', pos, rfl, hz⟩ := onE_sub he
    replace he := hz; clear hz
    simp only [Bool.and_eq_true] at he
    obtain ⟨h1, h2⟩ := he
    simp only [pe]
    refine prOk_of OK hm F hlen ?_ rfl
    intro Q E P
    refine Subscript_ ((pe_sound o h1 hks hm F hlen).v.bindK P fun a σ₁ _ va H₁ s₁ x₁ r₁ P₁ => ?_)
    have F₁ := F.ss x₁
    refine (pe_sound i h2 hks (hm.nf x₁.nf) F₁ hlen).v.bindK P₁ fun b σ₂ _ vb H₂ s₂ x₂ r₂ P₂ => ?_
    have F₂ := F₁.ss x₂
    have ra := RepO.derefS F₂ hlen (r₁.ss x₂ F₁.sto)
    have hne : O.idx (derefS st.ρ σ₂ a) (derefS st.ρ σ₂ b) ≠ .stuck := fun z => by rw [z] at P₂; exact P₂
    obtain ⟨T, id, hT, hid⟩ := OK.idxT ra hne
    exact tail_any hT hid (OK.idx ((hm.nf x₁.nf).nf x₂.nf) F₂.hlt ra (RepO.derefS F₂ hlen r₂) _ _ (P₂.res F₂.sto F₂.hlt)) (subscripted_plain (encE_notSlice h2) _ _)
  | .slice o a b sp, q, ks, ns, st, ex, env, A, s, fe, H, he, hks, hm, F, hlen => by
    simp only [encE] at he
    obtain ⟨o', sl', pos, rfl, hz⟩ := onE_sub he
    replace he := hz; clear hz
    obtain ⟨a', b', s', p', rfl, hz⟩ := onE_slice he
    replace he := hz; clear hz
    simp only [Bool.and_eq_true] at he
    obtain ⟨⟨⟨h1, h2⟩, h3⟩, h4⟩ := he
    simp only [pe]
    refine prOk_of OK hm F hlen ?_ rfl
    have part : ∀ (p : PE) (x : Option Expr) (st₁ : Fs) (H₁ : Hd) (s₁ : Shared), (∀ e, encE frees fname ks ns p e = true → Ev c q A st₁.lo st₁.σ H₁ (eval e env) (pe O cal q st₁ p).v s₁) → (match x with | some e => encE frees fname ks ns p e | none => isNone' p) = true → Fm c (FrA A) ns env st₁ fe H₁ s₁.heap →
        Ev c q A st₁.lo st₁.σ H₁ (evalPart x env) (pe O cal q st₁ p).v s₁ := by
      intro p x st₁ H₁ s₁ I hx F₁ Q E P
      cases x with
      | none =>
        have hx := isNone'_eq hx
        subst hx
        simp only [pe, PR.of] at P
        exact wpAny_evalPart_none (P _ H₁ s₁ (.of_kp (Kp.refl _ _) F₁.sto F₁.hlt) (by simp [RepW, Rep]))
      | some e => exact wpAny_evalPart_some (I e hx _ _ P)
    intro Q E P
    refine Subscript_ ((pe_sound o h1 hks hm F hlen).v.bindK P fun ov σ₁ _ va H₁ s₁ x₁ r₁ P₁ => wpAny_Slice ?_)
    have F₁ := F.ss x₁
    have m₁ := hm.nf x₁.nf
    refine (part a a' (st.at σ₁) H₁ s₁ (fun e he => (pe_sound a he hks m₁ F₁ hlen).v) h2 F₁).bindAK P₁ fun av σ₂ _ wa H₂ s₂ x₂ ra P₂ => ?_
    have F₂ := F₁.ss x₂
    have m₂ := m₁.nf x₂.nf
    refine (part b b' (st.at σ₂) H₂ s₂ (fun e he => (pe_sound b he hks m₂ F₂ hlen).v) h3 F₂).bindAK P₂ fun bv σ₃ _ wb H₃ s₃ x₃ rb P₃ => ?_
    have F₃ := F₂.ss x₃
    have m₃ := m₂.nf x₃.nf
    refine (part sp s' (st.at σ₃) H₃ s₃ (fun e he => (pe_sound sp he hks m₃ F₃ hlen).v) h4 F₃).bindAK P₃ fun sv σ₄ _ ws H₄ s₄ x₄ rs P₄ => ?_
    have F₄ := F₃.ss x₄
    have k5 : Kp A s₄ { s₄ with heap := s₄.heap.push { cls := .type "slice", data := .fields #[wa, wb, ws] } } := Kp.push _
    have x₅ : Ss A st.lo σ₄ H₄ s₄ σ₄ H₄ _ := .of_kp k5 F₄.sto F₄.hlt
    have F₅ := F₄.ss x₅
    have ro := RepO.derefS F₅ hlen ((((r₁.ss x₂ F₁.sto).ss x₃ F₂.sto).ss x₄ F₃.sto).ss x₅ F₄.sto)
    have hne : O.slice (derefS st.ρ σ₄ ov) av bv sv ≠ .stuck := fun z => by rw [z] at P₄; exact P₄
    obtain ⟨T, id, hT, hid⟩ := OK.sliceT ro hne
    refine tail_any (ops := ?_) hT hid (OK.slice (((m₃.nf x₄.nf).nf x₅.nf)) F₅.hlt ro (Rep.mono (((x₃.vis F₂.sto).trans (x₄.vis F₃.sto)).trans (x₅.vis F₄.sto)) ra) (Rep.mono ((x₄.vis F₃.sto).trans (x₅.vis F₄.sto)) rb) (Rep.mono (x₅.vis F₄.sto) rs) (Heap.get?_push_size _ rfl) _ _ ((P₄.ss x₅).res F₅.sto F₅.hlt)) ?_
    · exact match s' with | none => [.ref s₄.heap.objs.size, va] | some _ => [va, .ref s₄.heap.objs.size]
    · cases s' <;> rfl
  | .call f xs, q, ks, ns, st, ex, env, A, s, fe, H, he, hks, hm, F, hlen => by
    simp only [encE] at he
    obtain ⟨x, px, es, pos, rfl, hz⟩ := onNC_eq he
    replace he := hz; clear hz
    simp only [Bool.and_eq_true, beq_iff_eq] at he
    obtain ⟨⟨h1, h2⟩, h3⟩ := he
    subst h1
    obtain ⟨g1, g2, _⟩ := isGlob_of hks h2
    simp only [pe]
    refine prOk_of OK hm F hlen ?_ rfl
    cases q with
    | false => exact Ev.stuck
    | true =>
      intro Q E P
      obtain ⟨ol, σ₁, l, hpes, hpl⟩ : ∃ ol σ₁ l, pes O cal true st xs = some (ol, σ₁) ∧ plains ol = some l := by
        cases h : pes O cal true st xs with
        | none => simp only [onP, onL, h] at P; exact P.elim
        | some p =>
          cases hl : plains p.1 with
          | none => simp only [onP, onL, h, hl] at P; exact P.elim
          | some l => exact ⟨p.1, p.2, l, rfl, hl⟩
      have hne : cal σ₁ st.lo f l ≠ .stuck := fun z => by
        simp only [onP, onL, hpes, hpl, z] at P; exact P
      obtain ⟨hc, fa, fo, fd, hg, ho, hd⟩ := CO.ok σ₁ st.lo f l hne
      refine wpAny_Call_NameR (ld_glob F g1 g2 hg ?_)
      refine Calls.callWith_function (o := fo) (fd := fd) ?_
      have fin : wpAny c.M A (spliced (backTo pos (starEach es env))) (fun vs s₁ => (s₁.heap.get? fa = some fo ∧ fo.data = .func fd) ∧ wpAny c.M A (PySem.call (.ref fa) ([] ++ vs) []) Q E s₁) E s :=
        (pes_sound xs h3 hks hm F hlen).onPK P fun l' σ₁' ol' e1 e2 vs H₁ s₁ x₁ r₁ P₁ => by
          rw [hpes] at e1; cases e1
          rw [hpl] at e2; cases e2
          have F₁ := F.ss x₁
          exact ⟨⟨F₁.base' fa fo ho, hd⟩, hc A s₁ H₁ vs fa (hm.nf x₁.nf).down F₁.base' F₁.hlt F₁.sto F₁.mh0 r₁ hg _ _ P₁⟩
      cases es with
      | nil => exact PySem.evalArgs_none (by
          have := pes_nil h3
          subst this
          simp only [pes] at hpes
          cases hpes
          simp only [plains] at hpl
          cases hpl
          simp only [onP, onL, pes, plains] at P
          exact ⟨⟨F.base' fa fo ho, hd⟩, hc A s H [] fa hm.down F.base' F.hlt F.sto F.mh0 (by simp [RepL]) hg _ _ P⟩)
      | cons e es =>
        have hst : starEach (e :: es) env = (false, eval e env) :: starEach es env := starEach_cons (encEs_head h3)
        rw [hst] at fin ⊢
        exact Calls.evalArgs_plain fin
  | .bcall f xs, q, ks, ns, st, ex, env, A, s, fe, H, he, hks, hm, F, hlen => by
    simp only [encE] at he
    obtain ⟨x, px, es, pos, rfl, hz⟩ := onNC_eq he
    replace he := hz; clear hz
    simp only [Bool.and_eq_true, beq_iff_eq, List.contains_iff_mem] at he
    obtain ⟨⟨⟨h1, h2⟩, h3⟩, h4⟩ := he
    obtain ⟨g1, g2, g3⟩ := isGlob_of hks h2
    have hb := BI.boot f
    rw [← h1] at hb
    simp only [pe]
    refine prOk_of OK hm F hlen ?_ rfl
    have hq : q = true ∨ q = false := by cases q <;> simp
    rcases hq with hq | hq
    case inr => rw [hq]; exact Ev.stuck
    intro Q E P
    have P : PostE q A st.lo st.σ H (onL (pes O cal q st xs) fun l σ₁ => ofRes (O.bcall f (l.map (derefS st.ρ σ₁))) σ₁) s Q E := by rw [hq] at P ⊢; exact P
    refine wpAny_Call_NameR (ld_boot F g1 g2 g3 (hfree x h3) hb ?_)
    have S : wpAny c.M A (spliced (backTo pos (starEach es env))) (fun vs s' => wpAny c.M A (PySem.call f.val ([] ++ vs) []) Q E s') E s :=
      (pes_sound xs h4 hks hm F hlen).onK P fun l σ₁ _ vs H₁ s₁ x₁ r₁ P₁ => by
        have F₁ := F.ss x₁
        exact OK.bcall hq (hm.nf x₁.nf) F₁.base' F₁.hlt (RepOL.derefS F₁ hlen r₁) (BI.boot f) _ _ (P₁.res F₁.sto F₁.hlt)
    have args : wpAny c.M A (evalArgs f.val true (backTo pos (starEach es env)) []) (fun a s₁ => wpAny c.M A (PySem.call f.val ([] ++ a.pos) a.kw) Q E s₁) E s := by
      cases es with
      | nil => exact PySem.evalArgs_none (by
          have := pes_nil h4
          subst this
          simp only [onL, pes, List.map_nil] at P
          exact OK.bcall hq hm F.base' F.hlt (vs := []) (xs := []) trivial (BI.boot f) _ _ (P.res F.sto F.hlt))
      | cons e es =>
        have hst : starEach (e :: es) env = (false, eval e env) :: starEach es env := starEach_cons (encEs_head h4)
        rw [hst] at S ⊢
        exact Calls.evalArgs_plain S
    have plain := star_plain (pos := pos) (env := env) h4
    unfold BI.val at args ⊢
    split at args
    · rw [if_pos (by assumption)]; exact PySem.callWith_type plain args
    · rw [if_neg (by assumption)]; exact Calls.callWith_builtin plain args
  | .emeth o m xs, q, ks, ns, st, ex, env, A, s, fe, H, he, hks, hm, F, hlen => by
    simp only [encE] at he
    obtain ⟨o', n, apos, es, pos, rfl, hz⟩ := onMC_eq he
    replace he := hz; clear hz
    simp only [Bool.and_eq_true, beq_iff_eq, decide_eq_true_eq] at he
    obtain ⟨⟨⟨⟨⟨h1, h2⟩, h3⟩, h4⟩, h5⟩, h6⟩ := he
    subst h1
    simp only [pe]
    refine prOk_of OK hm F hlen ?_ rfl
    have hq : q = true ∨ q = false := by cases q <;> simp
    rcases hq with hq | hq
    case inr => rw [hq]; exact Ev.stuck
    intro Q E P
    have P : PostE q A st.lo st.σ H ((pe O cal q st o).v.bindA fun a σ₁ => (match deref σ₁ a with
      | .lst _ => onP (pes O cal q (st.at σ₁) xs) fun l σ₂ => O.emeth m σ₂ st.lo a l
      | _ => .stuck)) s Q E := by rw [hq] at P ⊢; exact P
    refine wpAny_Call_method_lateS (baseOk_eq h2 _ _ _) (star_all h6 h4) (by simpa using h3) ((pe_sound o h5 hks hm F hlen).v.bindAK P fun a σ₁ _ va H₁ s₁ x₁ r₁ P₁ => ?_)
    have F₁ := F.ss x₁
    split at P₁
    case h_2 => exact P₁.elim
    rename_i ys hd
    have ro := RepO.deref F₁.sto r₁
    have ro' : RepO s₁.heap H₁ va (.lst ys) := by rw [← hd]; exact ro
    obtain ⟨_, ad, vsd, rfl, ⟨od, nd, ed, cd, dd, fd⟩, _⟩ := ro'
    have hTy : s₁.TypeIs (.ref ad) "list" := (IsL.isList ⟨od, nd, ed, cd, dd, fd⟩).typeIs
    refine ⟨"list", "list." ++ m.name, emeth_plain, emeth_slot m, emeth_type m, hTy, fun b e => (by cases e; exact ⟨od, ed, fd⟩), ?_⟩
    have plain := star_plain (pos := pos) (env := env) h6
    refine Calls.callWith_builtin plain ?_
    have S : wpAny c.M A (spliced (backTo pos (starEach es env))) (fun vs s' => wpAny c.M A (PySem.call (.builtin ("list." ++ m.name)) ([.ref ad] ++ vs) []) Q E s') E s₁ :=
      (pes_sound xs h6 hks (hm.nf x₁.nf) F₁ hlen).onPK P₁ fun l σ₂' ol' e1 e2 vs H₂ s₂ x₂ r₂ P₂ => by
        have F₂ := F₁.ss x₂
        exact OK.emeth hq ((hm.nf x₁.nf).nf x₂.nf) F₂.hlt F₂.sto (Rep.mono (x₂.vis F₁.sto) r₁) r₂ _ _ P₂
    cases es with
    | nil => exact PySem.evalArgs_none (by
        have := pes_nil h6
        subst this
        simp only [onP, onL, pes, plains] at P₁
        exact OK.emeth hq (hm.nf x₁.nf) F₁.hlt F₁.sto r₁ (vs := []) (by simp [RepL]) _ _ P₁)
    | cons e es =>
      have hst : starEach (e :: es) env = (false, eval e env) :: starEach es env := starEach_cons (encEs_head h6)
      rw [hst] at S ⊢
      exact Calls.evalArgs_plain S
  | .comp caps elt src conds, q, ks, ns, st, ex, env, A, s, fe, H, he, hks, hm, F, hlen => by
    simp only [encE] at he
    obtain ⟨e', x, px, it, ifs, scope, pos, rfl, hz⟩ := onLC_eq he
    replace he := hz; clear hz
    all_goals
      simp only [Bool.and_eq_true] at he
      obtain ⟨⟨⟨⟨h1, h0⟩, h2⟩, h3⟩, h4⟩ := he
      have h0 : isSetd src = false := by simpa using h0
      simp only [pe]
      refine prOk_of OK hm F hlen ?_ rfl
      cases q with
      | false => exact Ev.stuck
      | true =>
        exact ev_listcomp OK (f := fun σ₁ x => compF σ₁.length (pall O cal true ((st.at σ₁).inner caps x) .And conds) (pe O cal true ((st.at σ₁).inner caps x) elt).v) rfl hm F hlen (compOk_of hks h2) (encE_notSet h1 h0 env) (pe_sound src h1 hks hm F hlen).v fun σ₁ => comp_turn (relab_eq hks F.kind) hlen (fun a b c d => pe_sound elt h3 a b c d) (fun a b c d => ptests_sound conds h4 a b c d)
  | .setd x, q, ks, ns, st, ex, env, A, s, fe, H, he, hks, hm, F, hlen => by
    simp only [encE] at he
    obtain ⟨es', k', pos, rfl, hz⟩ := onE_set he
    replace he := hz; clear hz
    obtain ⟨e, rfl, hz⟩ := one?_eq he
    replace he := hz; clear hz
    simp only [Bool.and_eq_true, beq_iff_eq] at he
    obtain ⟨rfl, he⟩ := he
    simp only [pe]
    refine prOk_of OK hm F hlen ?_ rfl
    exact ev_setd hm F (encE_notStar he) fun s' H' k' F' => (pe_sound x he hks (hm.kp k') F' hlen).v
theorem pes_sound : ∀ (es : PEs) {q : Bool} {ks : List (Str × NameKind)} {ns : List Str} {st : Fs} {exs : List Expr} {env : Env} {A : Around} {s : Shared} {fe : FE} {H : Hd} {pos : Pos},
    encEs frees fname ks ns es exs = true → env.scope.names = ks → Rm c q (k + 1) A s.heap → Fm c (FrA A) ns env st fe H s.heap → st.ρ.length = ns.length → EvL c A st.lo st.σ H (spliced (backTo pos (starEach exs env))) (pes O cal q st es) s
  | .nil, q, ks, ns, st, exs, env, A, s, fe, H, pos, he, hks, hm, F, hlen => fun xs σ' hx Q E P => by
    cases exs with
    | nil =>
      simp only [pes] at hx
      cases hx
      exact Calls.spliced_nil (P _ H s (.of_kp (Kp.refl _ _) F.sto F.hlt) trivial)
    | cons _ _ => simp [encEs] at he
  | .cons p ps, q, ks, ns, st, exs, env, A, s, fe, H, pos, he, hks, hm, F, hlen => fun xs σ' hx Q E P => by
    cases exs with
    | nil => simp [encEs] at he
    | cons e r =>
      have he' := he
      simp only [encEs, Bool.and_eq_true] at he
      simp only [pes] at hx
      have I := (pe_sound p he.1 hks hm F hlen).v
      split at hx
      case h_2 => cases hx
      rename_i v σ₁ hv
      rw [hv] at I
      split at hx
      case h_2 => cases hx
      rename_i l σ₂ hl
      cases hx
      rw [starEach_cons (encE_notStar he.1)]
      show wpAny c.M A (spliced ((false, eval e env) :: backTo pos (starEach r env))) Q E s
      refine Calls.spliced_cons (I _ _ fun w H₁ s₁ x₁ r₁ => ?_)
      have F₁ := F.ss x₁
      exact pes_sound ps he.2 hks (hm.nf x₁.nf) F₁ hlen l _ hl _ _ fun ws H₂ s₂ x₂ r₂ => P _ H₂ s₂ (x₁.trans x₂) ⟨r₁.ss x₂ F₁.sto, r₂⟩
theorem pall_sound : ∀ (es : PEs) {q : Bool} {op : BoolOp} {ks : List (Str × NameKind)} {ns : List Str} {st : Fs} {exs : List Expr} {env : Env} {A : Around} {s : Shared} {fe : FE} {H : Hd},
    encEs frees fname ks ns es exs = true → env.scope.names = ks → Rm c q (k + 1) A s.heap → Fm c (FrA A) ns env st fe H s.heap → st.ρ.length = ns.length → EvB c A st.lo st.σ H (allTrue op exs env) (pall O cal q st op es) s
  | .nil, q, op, ks, ns, st, exs, env, A, s, fe, H, he, hks, hm, F, hlen => fun b σ' hx Q E P => by
    cases exs with
    | nil =>
      simp only [pall] at hx
      cases hx
      exact wpAny_pure (P H s (.of_kp (Kp.refl _ _) F.sto F.hlt))
    | cons _ _ => simp [encEs] at he
  | .cons p ps, q, op, ks, ns, st, exs, env, A, s, fe, H, he, hks, hm, F, hlen => fun b σ' hx Q E P => by
    cases exs with
    | nil => simp [encEs] at he
    | cons e r =>
      simp only [encEs, Bool.and_eq_true] at he
      simp only [pall] at hx
      have I := (pe_sound p he.1 hks hm F hlen).t
      cases op with
      | And =>
        refine wpAny_allTrue_And_cons ?_
        split at hx
        · rename_i σ₁ hv; cases hx; exact I _ _ hv _ _ fun H₁ s₁ x₁ => P H₁ s₁ x₁
        · rename_i h _; cases h
        · rename_i σ₁ hv; exact I _ _ hv _ _ fun H₁ s₁ x₁ => pall_sound ps he.2 hks (hm.nf x₁.nf) (F.ss x₁) hlen b σ' hx _ _ fun H₂ s₂ x₂ => P H₂ s₂ (x₁.trans x₂)
        · rename_i h _; cases h
        · cases hx
      | Or =>
        refine wpAny_allTrue_Or_cons ?_
        split at hx
        · rename_i h _; cases h
        · rename_i σ₁ hv; cases hx; exact I _ _ hv _ _ fun H₁ s₁ x₁ => P H₁ s₁ x₁
        · rename_i h _; cases h
        · rename_i σ₁ hv; exact I _ _ hv _ _ fun H₁ s₁ x₁ => pall_sound ps he.2 hks (hm.nf x₁.nf) (F.ss x₁) hlen b σ' hx _ _ fun H₂ s₂ x₂ => P H₂ s₂ (x₁.trans x₂)
        · cases hx
theorem ptests_sound : ∀ (es : PEs) {q : Bool} {ks : List (Str × NameKind)} {ns : List Str} {st : Fs} {exs : List Expr} {env : Env} {A : Around} {s : Shared} {fe : FE} {H : Hd},
    encEs frees fname ks ns es exs = true → env.scope.names = ks → Rm c q (k + 1) A s.heap → Fm c (FrA A) ns env st fe H s.heap → st.ρ.length = ns.length → EvB c A st.lo st.σ H (testsOf exs env) (pall O cal q st .And es) s
  | .nil, q, ks, ns, st, exs, env, A, s, fe, H, he, hks, hm, F, hlen => fun b σ' hx Q E P => by
    cases exs with
    | nil =>
      simp only [pall] at hx
      cases hx
      unfold testsOf
      rw [List.forIn_nil]
      exact wpAny_pure (P H s (.of_kp (Kp.refl _ _) F.sto F.hlt))
    | cons _ _ => simp [encEs] at he
  | .cons p ps, q, ks, ns, st, exs, env, A, s, fe, H, he, hks, hm, F, hlen => fun b σ' hx Q E P => by
    cases exs with
    | nil => simp [encEs] at he
    | cons e r =>
      simp only [encEs, Bool.and_eq_true] at he
      simp only [pall] at hx
      have I := (pe_sound p he.1 hks hm F hlen).t
      unfold testsOf
      rw [List.forIn_cons]
      simp only [if_true]
      split at hx
      · rename_i σ₁ hv
        cases hx
        refine wpAny_bind (wpAny_bind (I _ _ hv _ _ fun H₁ s₁ x₁ => wpAny_pure ?_))
        have skip : ∀ (l : List Expr), (forIn l false fun c r => if r = true then do let ok ← isTrue c env (eval c env); pure (ForInStep.yield ok) else pure (ForInStep.yield r) : Sem Bool) = pure false := by
          intro l
          induction l with
          | nil => rw [List.forIn_nil]
          | cons y l ih => rw [List.forIn_cons]; simpa using ih
        show wpAny c.M A (forIn r false _) _ _ _
        rw [skip]
        exact wpAny_pure (P H₁ s₁ x₁)
      · rename_i h _; cases h
      · rename_i σ₁ hv
        refine wpAny_bind (wpAny_bind (I _ _ hv _ _ fun H₁ s₁ x₁ => wpAny_pure ?_))
        exact ptests_sound ps he.2 hks (hm.nf x₁.nf) (F.ss x₁) hlen b σ' hx _ _ fun H₂ s₂ x₂ => P H₂ s₂ (x₁.trans x₂)
      · rename_i h _; cases h
      · cases hx
theorem pbop_sound : ∀ (es : PEs) {q : Bool} {op : BoolOp} {ks : List (Str × NameKind)} {ns : List Str} {st : Fs} {exs : List Expr} {env : Env} {A : Around} {s : Shared} {fe : FE} {H : Hd} {pos : Pos},
    encEs frees fname ks ns es exs = true → env.scope.names = ks → Rm c q (k + 1) A s.heap → Fm c (FrA A) ns env st fe H s.heap → st.ρ.length = ns.length → Ev c q A st.lo st.σ H (boolOp pos op (evalEach exs env)) (pbop O cal q st op es) s
  | .nil, q, op, ks, ns, st, exs, env, A, s, fe, H, pos, he, hks, hm, F, hlen => by
    simp only [pbop]; exact Ev.stuck
  | .cons p .nil, q, op, ks, ns, st, exs, env, A, s, fe, H, pos, he, hks, hm, F, hlen => by
    match exs, he with
    | [], he => simp [encEs] at he
    | [e], he =>
      simp only [encEs, Bool.and_eq_true] at he
      simp only [pbop]
      exact (pe_sound p he.1 hks hm F hlen).v
    | _ :: _ :: _, he => simp [encEs] at he
  | .cons p (.cons p' ps), q, op, ks, ns, st, exs, env, A, s, fe, H, pos, he, hks, hm, F, hlen => by
    match exs, he with
    | [], he => simp [encEs] at he
    | [e], he => simp [encEs] at he
    | e :: e' :: r, he =>
      have he' : encE frees fname ks ns p e = true ∧ encEs frees fname ks ns (.cons p' ps) (e' :: r) = true := by
        rw [encEs] at he
        simpa only [Bool.and_eq_true] using he
      intro Q E P
      simp only [pbop] at P
      show wpAny c.M A (do
        let v ← eval e env
        standAt pos
        let t ← holding [v] (truthy v)
        match op, t with
        | .And, false | .Or, true => pure v
        | _, _ => boolOp pos op (evalEach (e' :: r) env)) Q E s
      refine wpAny_bind ((pe_sound p he'.1 hks hm F hlen).v.bindK P fun v σ₁ _ w H₁ s₁ x₁ r₁ P₁ => wpAny_bind (wpAny_standAt (wpAny_bind (wpAny_holding ?_))))
      have F₁ := F.ss x₁
      cases ht : O.truth (derefS st.ρ σ₁ v) with
      | none => rw [ht] at P₁; cases op <;> exact P₁.elim
      | some b =>
        rw [ht] at P₁
        refine OK.truth (hm.nf x₁.nf) F₁.hlt (RepO.derefS F₁ hlen r₁) ht _ _ fun s₂ k₂ => ?_
        have x₂ : Ss A st.lo σ₁ H₁ s₁ σ₁ H₁ s₂ := .of_kp k₂ F₁.sto F₁.hlt
        have F₂ := F₁.ss x₂
        cases op <;> cases b
        · exact wpAny_pure (P₁ _ H₁ s₂ x₂ (r₁.ss x₂ F₁.sto))
        · exact pbop_sound (.cons p' ps) he'.2 hks ((hm.nf x₁.nf).nf x₂.nf) F₂ hlen _ _ (P₁.ss x₂)
        · exact pbop_sound (.cons p' ps) he'.2 hks ((hm.nf x₁.nf).nf x₂.nf) F₂ hlen _ _ (P₁.ss x₂)
        · exact wpAny_pure (P₁ _ H₁ s₂ x₂ (r₁.ss x₂ F₁.sto))
end
end
end Mine
end
section
open PySem PySem.W PyProof.Rows
set_option linter.unusedVariables false
namespace Mine

theorem not_isL_ns {h : Heap} {a : Addr} {m : Str → Option Value} (n : h.Ns a m) (vs : List Value) : ¬ IsL h a vs := fun ⟨o, k, e, _, d, _⟩ => by
  obtain ⟨o', es, ep, e', d', _⟩ := n
  rw [e] at e'; cases e'
  rw [d] at d'; cases d'
theorem not_isL_cell {h : Heap} {a : Addr} {v : Option Value} (n : h.IsCell a v) (vs : List Value) : ¬ IsL h a vs := fun ⟨o, k, e, _, d, _⟩ => by
  obtain ⟨o', e', d'⟩ := n
  rw [e] at e'; cases e'
  rw [d] at d'; cases d'
theorem get_set {ρ : List (Option Ent)} {i j : Nat} {t u : Ent} (h : (ρ.set i (some t))[j]? = some (some u)) : (j = i ∧ u = t) ∨ (j ≠ i ∧ ρ[j]? = some (some u)) := by
  rw [List.getElem?_set] at h
  split at h
  · rename_i e
    split at h
    · simp only [Option.some.injEq] at h
      exact .inl ⟨e.symm, h.symm⟩
    · cases h
  · rename_i e
    exact .inr ⟨Ne.symm e, h⟩
/-- nothing else stands at that name -/
noncomputable def OneName (ns : List Str) (i : Nat) (x : Str) : Prop := ∀ j : Nat, ns[j]? = some x → j = i

/-- the store stays where one thing apart from it turns -/
theorem Sto.chg {σ : Store} {H H' : Hd} {h h' : Heap} {a : Addr} (S : Sto σ H h) (hk : ∀ b o, b ≠ a → h.get? b = some o → h'.get? b = some o) (na : ∀ n, H.m n ≠ some a) (le : (vis h H).Le (vis h' H')) (hm : H'.m = H.m) (hh : ∀ n b, H.m n = some b → H'.p b) : Sto σ H' h' where
  at' := fun n mo e => by
    obtain ⟨b, e1, r⟩ := S.at' n mo e
    exact ⟨b, by rw [hm]; exact e1, r.kv (Kv.of_but (F := fun _ => False) (W := fun b => b = a) hk rfl) (fun z => na n (z ▸ e1)) le⟩
  inj := fun n n' b e e' => S.inj n n' b (by rw [← hm]; exact e) (by rw [← hm]; exact e')
  lt := fun n b e => S.lt n b (by rw [← hm]; exact e)
  hid := fun n b mo _ e => hh n b (by rw [← hm]; exact e)
  al := fun n b e => by
    rw [hm] at e
    obtain ⟨o, e'⟩ := S.al n b e
    exact ⟨o, hk b o (fun z => na n (z ▸ e)) e'⟩
  tot := fun n b e => S.tot n b (by rw [← hm]; exact e)
theorem Sto.hidden {σ : Store} {H : Hd} {h : Heap} (S : Sto σ H h) {n : Nat} {b : Addr} (e : H.m n = some b) : H.p b := let ⟨mo, q⟩ := S.tot n b e; S.hid n b mo q e
theorem Sto.notNs {σ : Store} {H : Hd} {h : Heap} (S : Sto σ H h) {a : Addr} {m : Str → Option Value} (n : h.Ns a m) (i : Nat) : H.m i ≠ some a := fun e => by
  obtain ⟨mo, q⟩ := S.tot i a e
  obtain ⟨b, e1, r⟩ := S.at' i mo q
  rw [e] at e1; cases e1
  obtain ⟨o, e2, d, _⟩ := r.data
  obtain ⟨o', es, ep, e3, d', _⟩ := n
  rw [e2] at e3; cases e3
  exact d _ _ d'
theorem Sto.notCell {σ : Store} {H : Hd} {h : Heap} (S : Sto σ H h) {a : Addr} {v : Option Value} (n : h.IsCell a v) (i : Nat) : H.m i ≠ some a := fun e => by
  obtain ⟨mo, q⟩ := S.tot i a e
  obtain ⟨b, e1, r⟩ := S.at' i mo q
  rw [e] at e1; cases e1
  obtain ⟨o, e2, _, d, _⟩ := r.data
  obtain ⟨o', e3, d'⟩ := n
  rw [e2] at e3; cases e3
  exact d _ d'

/-- one thing that is not of the frame's beginning turns -/
theorem Fm.chg {c : Cx} {Fr : Addr → Prop} {ns : List Str} {env : Env} {st : Fs} {ρ' : List (Option Ent)} {fe : FE} {H H' : Hd} {h h' : Heap} {a : Addr} (F : Fm c Fr ns env st fe H h) (hk : ∀ b o, b ≠ a → h.get? b = some o → h'.get? b = some o) (hfe : fe.h.get? a = none)
    (hle : ∀ b, fe.H.p b → H'.p b) (hm : H'.m = H.m) (live : Live H' h') (hns : ∃ m, h'.Ns env.locals m) (hl : H'.p env.locals) (hc : ∀ x cc, env.kindOf x = some .cell → env.cells.lookup x = some cc → H'.p cc ∧ fe.h.get? cc = none)
    (hcl : ∀ x, env.kindOf x = some .cell → ∃ cc v, env.cells.lookup x = some cc ∧ h'.IsCell cc v) (vals : ∀ (i : Nat) x t, ns[i]? = some x → ρ'[i]? = some (some t) → ∃ v, NV h' env x v ∧ RepE h' H' i v t)
    (own : ∀ i a, H'.o i = some a → H'.p a ∧ fe.h.get? a = none ∧ (∀ n, H'.m n ≠ some a) ∧ ∃ vs, IsL h' a vs) (oinj : ∀ i j a, H'.o i = some a → H'.o j = some a → i = j) (sto : Sto st.σ H' h') : Fm c Fr ns env { st with ρ := ρ' } fe H' h' where
  keep := fun b o n e => by
    have hb : b ≠ a := fun z => by rw [z, hfe] at e; cases e
    obtain ⟨p1, sl, p2⟩ := F.keep b o n e
    exact ⟨fun f => hk b _ hb (p1 f), sl, hk b _ hb p2⟩
  wsub := F.wsub
  base := F.base
  baseF := F.baseF
  basew := F.basew
  hle := hle
  mle := fun n b e => by rw [hm]; exact F.mle n b e
  mold := fun n b l e => F.mold n b l (by rw [← hm]; exact e)
  mnew := fun n b l e => F.mnew n b l (by rw [← hm]; exact e)
  mw := fun n b mo l l' q e => F.mw n b mo l l' q (by rw [← hm]; exact e)
  hlt := live
  felt := F.felt
  wlt := F.wlt
  kind := F.kind
  glob := F.glob
  bi := F.bi
  code := F.code
  ns := hns
  hl := hl
  lnew := F.lnew
  hc := hc
  cl := hcl
  capart := F.capart
  vals := vals
  own := own
  oinj := oinj
  sto := sto
  mh0 := fun n b e => F.mh0 n b (by rw [← hm]; exact e)
  n0le := F.n0le

section
variable {c : Cx} {Fr : Addr → Prop} {ns : List Str} {env : Env} {st : Fs} {fe : FE} {H : Hd} {h h' : Heap}

/-- a slot is forgotten -/
theorem Fm.kill (F : Fm c Fr ns env st fe H h) (i : Nat) : Fm c Fr ns env { st with ρ := st.ρ.set i none } fe H h := { F with
  vals := fun j x t a b => F.vals j x t a (by
    have b : (st.ρ.set i none)[j]? = some (some t) := b
    rw [List.getElem?_set] at b
    split at b
    · split at b <;> simp at b
    · exact b) }

/-- a slot's table turns -/
theorem fm_store {i : Nat} {x : Str} {t : Ent} {v : Value} {a : Addr} (F : Fm c Fr ns env st fe H h) (hx : ns[i]? = some x) (hnd : OneName ns i x)
    (hs : Heap.SameBut a h h') (hH : H.p a) (hfe : fe.h.get? a = none) (hn : ∀ vs, ¬ IsL h a vs) (nm : ∀ n, H.m n ≠ some a) (hlive : ∃ o, h'.get? a = some o) (nx : NV h' env x v) (ny : ∀ y w, y ≠ x → NV h env y w → NV h' env y w) (hns : ∃ m, h'.Ns env.locals m)
    (hcl : ∀ x, env.kindOf x = some .cell → ∃ cc v, env.cells.lookup x = some cc ∧ h'.IsCell cc v) (r : RepE h H i v t) : Fm c Fr ns env { st with ρ := st.ρ.set i (some t) } fe H h' := by
  have hk : ∀ b o, b ≠ a → h.get? b = some o → h'.get? b = some o := fun b o n e => (hs.2 b n).trans e
  have le : (vis h H).Le (vis h' H) := (Kv.of_sameBut (F := fun _ => False) (W := fun b => b = a) hs rfl).vis fun b z => z ▸ hH
  have lk : ∀ {b vs}, IsL h b vs → IsL h' b vs := fun {b vs} l => l.at' fun o e => hk b o (fun z => hn vs (z ▸ l)) e
  refine F.chg (H' := H) hk hfe F.hle rfl (fun b q => ?_) hns F.hl F.hc hcl (fun j y u hj hu => ?_) (fun j b e => ?_) F.oinj (F.sto.chg hk nm le rfl fun n b e => F.sto.hidden e)
  · by_cases hb : b = a
    · rw [hb]; exact hlive
    · obtain ⟨o, e⟩ := F.hlt b q
      exact ⟨o, hk b o hb e⟩
  · rcases get_set hu with ⟨rfl, rfl⟩ | ⟨ne, hu⟩
    · rw [hx] at hj; cases hj
      exact ⟨v, nx, r.mono le (fun _ e => e) fun _ _ _ l => lk l⟩
    · obtain ⟨w, nw, rw'⟩ := F.vals j y u hj hu
      refine ⟨w, ny y w (fun z => ne ?_) nw, rw'.mono le (fun _ e => e) fun _ _ _ l => lk l⟩
      subst z; exact hnd j hj
  · obtain ⟨p, q, r, vs, l⟩ := F.own j b e
    exact ⟨p, q, r, vs, lk l⟩

/-- an own list turns -/
theorem fm_own {i : Nat} {a : Addr} {vs' : List Value} {xs' : List AV} (F : Fm c Fr ns env st fe H h) (ho : H.o i = some a) (hr : ∃ xs, st.ρ[i]? = some (some (.own xs))) (hs : Heap.SameBut a h h') (hl' : IsL h' a vs') (hz : xs'.length ≤ 1048576) (hv : RepL (vis h H) vs' xs') :
    Fm c Fr ns env { st with ρ := st.ρ.set i (some (.own xs')) } fe H h' := by
  obtain ⟨hH, hfe, nm, vs, hl⟩ := F.own i a ho
  have hk : ∀ b o, b ≠ a → h.get? b = some o → h'.get? b = some o := fun b o n e => (hs.2 b n).trans e
  have le : (vis h H).Le (vis h' H) := (Kv.of_sameBut (F := fun _ => False) (W := fun b => b = a) hs rfl).vis fun b z => z ▸ hH
  have nsk : ∀ {b m}, h.Ns b m → h'.Ns b m := fun {b m} n => by
    have hb : b ≠ a := fun z => not_isL_ns n vs (z ▸ hl)
    obtain ⟨o, es, ep, e, r⟩ := n
    exact ⟨o, es, ep, hk b o hb e, r⟩
  have clk : ∀ {b v}, h.IsCell b v → h'.IsCell b v := fun {b v} n => by
    have hb : b ≠ a := fun z => not_isL_cell n vs (z ▸ hl)
    obtain ⟨o, e, r⟩ := n
    exact ⟨o, hk b o hb e, r⟩
  have nvk : ∀ {x v}, NV h env x v → NV h' env x v := fun {x v} n => by
    rcases n with ⟨k1, m, n, e⟩ | ⟨k1, cc, e, n⟩
    · exact .inl ⟨k1, m, nsk n, e⟩
    · exact .inr ⟨k1, cc, e, clk n⟩
  refine F.chg (H' := H) hk hfe F.hle rfl (fun b q => ?_) (let ⟨m, n⟩ := F.ns; ⟨m, nsk n⟩) F.hl F.hc (fun x q => let ⟨cc, v, e, n⟩ := F.cl x q; ⟨cc, v, e, clk n⟩) (fun j y u hj hu => ?_) (fun j b e => ?_) F.oinj (F.sto.chg hk nm le rfl fun n b e => F.sto.hidden e)
  · by_cases hb : b = a
    · obtain ⟨o, _, e, _⟩ := hl'; exact ⟨o, hb ▸ e⟩
    · obtain ⟨o, e⟩ := F.hlt b q
      exact ⟨o, hk b o hb e⟩
  · rcases get_set hu with ⟨rfl, rfl⟩ | ⟨ne, hu⟩
    · obtain ⟨xs, hr⟩ := hr
      obtain ⟨w, nw, z, a', vs₀, e, o', _⟩ := F.vals j y _ hj hr
      rw [ho] at o'; cases o'
      exact ⟨w, nvk nw, hz, a, vs', e, ho, hl', RepL.mono le hv⟩
    · obtain ⟨w, nw, rw'⟩ := F.vals j y u hj hu
      refine ⟨w, nvk nw, rw'.mono le (fun _ e => e) fun b ws e l => l.at' fun o e' => hk b o (fun z => ne ?_) e'⟩
      subst z; exact F.oinj j i b e ho
  · by_cases hb : b = a
    · subst hb; exact ⟨hH, hfe, nm, vs', hl'⟩
    · obtain ⟨p, q, r, ws, l⟩ := F.own j b e
      exact ⟨p, q, r, ws, l.at' fun o e' => hk b o hb e'⟩

/-- an own list taken up -/
noncomputable def Hd.putO (H : Hd) (i : Nat) (a : Addr) : Hd := ⟨fun b => H.p b ∨ b = a, H.m, fun j => if j = i then some a else H.o j⟩
theorem Fm.putO {i : Nat} {a : Addr} {vs : List Value} (F : Fm c Fr ns env st fe H h) (k : Kh Fr h h') (hnew : h.get? a = none) (hl : IsL h' a vs) : Fm c Fr ns env { st with ρ := st.ρ.set i none } fe (H.putO i a) h' := by
  have G := (F.kill i).step k
  have hN : ∀ b, (H.putO i a).p b → H.p b ∨ h.get? b = none := fun b z => z.imp id fun (z : b = a) => z ▸ hnew
  have le : (vis h H).Le (vis h' (H.putO i a)) := vis_new k hN fun _ _ e => e
  have og : ∀ j b, (H.putO i a).o j = some b → (j = i ∧ b = a) ∨ (j ≠ i ∧ H.o j = some b) := fun j b e => by
    have e : (if j = i then some a else H.o j) = some b := e
    split at e
    · cases e; exact .inl ⟨by assumption, rfl⟩
    · exact .inr ⟨by assumption, e⟩
  have nma : ∀ n, H.m n ≠ some a := fun n e => by
    obtain ⟨o, e'⟩ := F.sto.al n a e
    rw [hnew] at e'; cases e'
  have noa : ∀ j, H.o j ≠ some a := fun j e => by
    obtain ⟨_, _, _, ws, o, _, e', _⟩ := F.own j a e
    rw [hnew] at e'; cases e'
  have fen : fe.h.get? a = none := by
    cases q : fe.h.get? a with
    | none => rfl
    | some o =>
      obtain ⟨o', e'⟩ := F.keep.nw (fun b w => F.hlt b (F.hle b (F.wsub b w))) q
      rw [hnew] at e'; cases e'
  exact { G with
    hle := fun b z => .inl (F.hle b z)
    mle := F.mle
    mold := F.mold
    mnew := F.mnew
    mw := F.mw
    hlt := fun b z => by
      rcases z with z | z
      · exact G.hlt b z
      · obtain ⟨o, _, e, _⟩ := hl; exact ⟨o, z ▸ e⟩
    hl := .inl G.hl
    hc := fun x cc y z => ⟨.inl (G.hc x cc y z).1, (G.hc x cc y z).2⟩
    vals := fun j x t hj ht => by
      have ht : (st.ρ.set i none)[j]? = some (some t) := ht
      have hji : j ≠ i := fun z => by
        subst z
        rw [List.getElem?_set] at ht
        simp at ht
      obtain ⟨v, n, r⟩ := F.vals j x t hj (by rw [List.getElem?_set_ne (Ne.symm hji)] at ht; exact ht)
      exact ⟨v, n.kh k, r.mono le (fun b e => by show (if j = i then some a else H.o j) = some b; rw [if_neg hji]; exact e) fun b ws _ l => k.isL l⟩
    own := fun j b e => by
      rcases og j b e with ⟨_, rfl⟩ | ⟨_, e⟩
      · exact ⟨.inr rfl, fen, nma, vs, hl⟩
      · obtain ⟨p, q, r, ws, l⟩ := G.own j b e
        exact ⟨.inl p, q, r, ws, l⟩
    oinj := fun j l b e e' => by
      rcases og j b e with ⟨h1, h2⟩ | ⟨h1, h2⟩ <;> rcases og l b e' with ⟨h3, h4⟩ | ⟨h3, h4⟩
      · rw [h1, h3]
      · subst h2; exact absurd h4 (noa l)
      · subst h4; exact absurd h2 (noa j)
      · exact F.oinj j l b h2 h4
    sto := F.sto.new k (fun b z => .inl z) hN rfl
    mh0 := F.mh0
    n0le := F.n0le }

/-- an own list is given away -/
theorem Fm.freeze {j : Nat} {y : Str} {ys : List AV} (F : Fm c Fr ns env st fe H h) (hy : ns[j]? = some y) (hr : st.ρ[j]? = some (some (.own ys))) :
    ∃ H', (∀ b, H'.p b → H.p b) ∧ H'.m = H.m ∧ Fm c Fr ns env { st with ρ := st.ρ.set j (some (.val (.lst ys))) } fe H' h := by
  obtain ⟨v, nv, z, a, vs, e, ho, l, r⟩ := F.vals j y _ hy hr
  subst e
  obtain ⟨hH, hfe, nm, _⟩ := F.own j a ho
  have hL : env.locals ≠ a := fun q => by
    obtain ⟨m, n⟩ := F.ns
    exact not_isL_ns n vs (q ▸ l)
  have hC : ∀ x cc, env.kindOf x = some .cell → env.cells.lookup x = some cc → cc ≠ a := fun x cc hk q w => by
    obtain ⟨cc', v', e', n'⟩ := F.cl x hk
    rw [q] at e'; cases e'
    exact not_isL_cell n' vs (w ▸ l)
  refine ⟨⟨fun b => H.p b ∧ b ≠ a, H.m, fun i => if i = j then none else H.o i⟩, fun b q => q.1, rfl, ?_⟩
  have le : (vis h H).Le (vis h ⟨fun b => H.p b ∧ b ≠ a, H.m, fun i => if i = j then none else H.o i⟩) := ⟨fun x cc d q => ⟨fun w => q.1 w.1, q.2⟩, fun _ _ e => e⟩
  refine F.chg (a := a) (fun b o _ e => e) hfe (fun b q => ⟨F.hle b q, fun w => by obtain ⟨o, e⟩ := F.felt b q; rw [w, hfe] at e; cases e⟩) rfl (fun b q => F.hlt b q.1) F.ns ⟨F.hl, hL⟩ (fun x cc y q => ⟨⟨(F.hc x cc y q).1, hC x cc y q⟩, (F.hc x cc y q).2⟩) F.cl (fun i x t h1 h2 => ?_) (fun i b e => ?_) (fun i i' b e e' => ?_)
    (F.sto.chg (a := a) (fun b o _ e => e) nm le rfl fun n b e => ⟨F.sto.hidden e, fun z => nm n (z ▸ e)⟩)
  · rcases get_set h2 with ⟨rfl, rfl⟩ | ⟨ne, h2⟩
    · rw [hy] at h1; cases h1
      refine ⟨_, nv, ?_⟩
      obtain ⟨o, n, e, c1, d1, f1⟩ := l
      simp only [RepE, Rep]
      exact ⟨z, a, vs, n, rfl, ⟨fun w => w.2 rfl, o, e, c1, d1, f1, .inl rfl, fun ⟨_, z⟩ => by cases z⟩, RepL.mono le r⟩
    · obtain ⟨w, nw, rw'⟩ := F.vals i x t h1 h2
      exact ⟨w, nw, rw'.mono le (fun b e => by show (if i = j then none else H.o i) = some b; rw [if_neg ne]; exact e) fun _ _ _ l => l⟩
  · have e : (if i = j then none else H.o i) = some b := e
    split at e
    · cases e
    · rename_i ne
      obtain ⟨p, q, r, ws, l⟩ := F.own i b e
      exact ⟨⟨p, fun w => ne (F.oinj i j b e (w ▸ ho))⟩, q, r, ws, l⟩
  · have e : (if i = j then none else H.o i) = some b := e
    have e' : (if i' = j then none else H.o i') = some b := e'
    split at e
    · cases e
    · split at e'
      · cases e'
      · exact F.oinj i i' b e e'

/-- a thing of another kind turns -/
theorem Fm.touchV {a : Addr} {o : Obj} {fs : Array Value} (F : Fm c Fr ns env st fe H h) (hk : ∀ b o, b ≠ a → h.get? b = some o → h'.get? b = some o)
    (hfe : fe.h.get? a = none) (ho : h.get? a = some o) (hd : o.data = .fields fs) (hcl : ¬ okC o.cls) (hl : ¬ H.p a) : Fm c Fr ns env st fe H h' := by
  have le : (vis h H).Le (vis h' H) := ⟨by
    rintro x cc d ⟨n, o', e, r⟩
    refine ⟨n, o', hk x o' (fun z => ?_) e, r⟩
    rw [z, ho] at e; cases e
    exact hcl (r.1 ▸ r.2.2.2.1), fun _ _ e => e⟩
  have nsk : ∀ {b m}, h.Ns b m → h'.Ns b m := fun {b m} n => by
    obtain ⟨ob, es, ep, e, d, r⟩ := n
    refine ⟨ob, es, ep, hk b ob (fun z => ?_) e, d, r⟩
    rw [z, ho] at e; cases e; rw [hd] at d; cases d
  have clk : ∀ {b v}, h.IsCell b v → h'.IsCell b v := fun {b v} n => by
    obtain ⟨ob, e, d⟩ := n
    refine ⟨ob, hk b ob (fun z => ?_) e, d⟩
    rw [z, ho] at e; cases e; rw [hd] at d; cases d
  have lk : ∀ {b vs}, IsL h b vs → IsL h' b vs := fun {b vs} n => by
    obtain ⟨ob, m, e, c1, d, r⟩ := n
    refine ⟨ob, m, hk b ob (fun z => ?_) e, c1, d, r⟩
    rw [z, ho] at e; cases e; rw [hd] at d; cases d
  have nvk : ∀ {x v}, NV h env x v → NV h' env x v := fun {x v} n => by
    rcases n with ⟨k1, m, n, e⟩ | ⟨k1, cc, e, n⟩
    · exact .inl ⟨k1, m, nsk n, e⟩
    · exact .inr ⟨k1, cc, e, clk n⟩
  exact F.chg (H' := H) (ρ' := st.ρ) hk hfe F.hle rfl (fun b z => by
      have hb : b ≠ a := fun y => hl (y ▸ z)
      obtain ⟨o', e⟩ := F.hlt b z; exact ⟨o', hk b o' hb e⟩) (let ⟨m, n⟩ := F.ns; ⟨m, nsk n⟩) F.hl F.hc (fun x z => let ⟨cc, v, e, n⟩ := F.cl x z; ⟨cc, v, e, clk n⟩)
    (fun i x t h1 h2 => let ⟨v, n, r⟩ := F.vals i x t h1 h2; ⟨v, nvk n, r.mono le (fun _ e => e) fun _ _ _ l => lk l⟩) (fun i b e => let ⟨p, q, r, ws, l⟩ := F.own i b e; ⟨p, q, r, ws, lk l⟩) F.oinj
    (F.sto.chg hk (fun n e => hl (F.sto.hidden e)) le rfl fun n b e => F.sto.hidden e)

/-- a hidden thing that is no part of the frame is let go -/
theorem Fm.drop {a : Addr} (F : Fm c Fr ns env st fe (H.add fun b => b = a) h) (hk : ∀ b o, b ≠ a → h.get? b = some o → h'.get? b = some o)
    (hfe : fe.h.get? a = none) (hL : env.locals ≠ a) (hC : ∀ x cc, env.kindOf x = some .cell → env.cells.lookup x = some cc → cc ≠ a) (hnl : ∀ vs, ¬ IsL h a vs) (hle : ∀ b, fe.H.p b → H.p b) (hH : ¬ H.p a) (nm : ∀ n, H.m n ≠ some a) : Fm c Fr ns env st fe H h' := by
  have le : (vis h (H.add fun b => b = a)).Le (vis h' H) := ⟨by
    rintro x cc d ⟨n, o, e, r⟩
    exact ⟨fun z => n (.inl z), o, hk x o (fun z => n (.inr z)) e, r⟩, fun _ _ e => e⟩
  have nsk : ∀ {m}, h.Ns env.locals m → h'.Ns env.locals m := fun {m} n => by
    obtain ⟨ob, es, ep, e, d, r⟩ := n
    exact ⟨ob, es, ep, hk _ ob hL e, d, r⟩
  have clk : ∀ {x b v}, env.kindOf x = some .cell → env.cells.lookup x = some b → h.IsCell b v → h'.IsCell b v := fun {x b v} qk q n => by
    obtain ⟨ob, e, d⟩ := n
    exact ⟨ob, hk b ob (hC x b qk q) e, d⟩
  have lk : ∀ {b vs}, IsL h b vs → IsL h' b vs := fun {b vs} n => n.at' fun o e => hk b o (fun z => hnl vs (z ▸ n)) e
  have nvk : ∀ {x v}, NV h env x v → NV h' env x v := fun {x v} n => by
    rcases n with ⟨k1, m, n, e⟩ | ⟨k1, cc, e, n⟩
    · exact .inl ⟨k1, m, nsk n, e⟩
    · exact .inr ⟨k1, cc, e, clk k1 e n⟩
  exact F.chg (H' := H) (ρ' := st.ρ) hk hfe hle rfl (fun b z => by
      have hb : b ≠ a := fun y => hH (y ▸ z)
      obtain ⟨o', e⟩ := F.hlt b (.inl z); exact ⟨o', hk b o' hb e⟩) (let ⟨m, n⟩ := F.ns; ⟨m, nsk n⟩) (F.hl.resolve_right hL) (fun x cc y z => ⟨(F.hc x cc y z).1.resolve_right (hC x cc y z), (F.hc x cc y z).2⟩) (fun x z => let ⟨cc, v, e, n⟩ := F.cl x z; ⟨cc, v, e, clk z e n⟩)
    (fun i x t h1 h2 => let ⟨v, n, r⟩ := F.vals i x t h1 h2; ⟨v, nvk n, r.mono le (fun _ e => e) fun _ _ _ l => lk l⟩) (fun i b e => let ⟨p, q, r, ws, l⟩ := F.own i b e; ⟨p.resolve_right fun z => hnl ws (z ▸ l), q, r, ws, lk l⟩) F.oinj
    (F.sto.chg hk nm le rfl fun n b e => (F.sto.hidden e).resolve_right fun z => nm n (z ▸ e))
end

section
variable {c : Cx} {q : Bool} {k : Nat} {A : Around} {H : Hd} {env : Env} {ns : List Str} {st : Fs} {fe : FE} {s : Shared}

theorem wp_store {i : Nat} {x : Str} {v : Value} {t : Ent} {Q : Unit → Shared → Prop} {E : Value → Shared → Prop} (F : Fm c (FrA A) ns env st fe H s.heap) (hx : ns[i]? = some x) (hnd : OneName ns i x) (hk : env.kindOf x = some .local ∨ env.kindOf x = some .cell)
    (r : RepE s.heap H i v t)
    (h : ∀ h' tk, Fm c (FrA A) ns env { st with ρ := st.ρ.set i (some t) } fe H h' → Kv (FrA A) H.p s.heap h' → Nf s.heap h' → (∃ a, (a = env.locals ∨ ∃ y, env.kindOf y = some .cell ∧ env.cells.lookup y = some a) ∧ Heap.SameBut a s.heap h') → Q () { s with heap := h', toks := tk }) : wpAny c.M A (storeName env x v) Q E s := by
  rcases hk with hk | hk
  · obtain ⟨m, hm⟩ := F.ns
    refine wpAny_storeName_local hk hm (fun h' hn hs => ?_) (by rw [F.kind]; rfl)
    refine h h' _ (fm_store (v := v) F hx hnd hs F.hl F.lnew (not_isL_ns hm) (F.sto.notNs hm) (let ⟨o, _, _, e, _⟩ := hn; ⟨o, e⟩) (.inl ⟨hk, _, hn, by simp⟩) ?_ ⟨_, hn⟩ ?_ r) (Kv.of_sameBut hs F.hl) ?_ ⟨_, .inl rfl, hs⟩
    · rintro y w hy (⟨ky, m', n', e'⟩ | ⟨ky, cc, ec, n'⟩)
      · rw [Ns_uniq hm n'] at hn
        exact .inl ⟨ky, _, hn, by simp [hy, e']⟩
      · refine .inr ⟨ky, cc, ec, n'.sameBut hs fun z => ?_⟩
        obtain ⟨o, e, d⟩ := n'
        obtain ⟨o', _, _, e', d', _⟩ := hm
        rw [z, e'] at e; cases e; rw [d'] at d; cases d
    · intro y hy
      obtain ⟨cc, w, ec, n'⟩ := F.cl y hy
      refine ⟨cc, w, ec, n'.sameBut hs fun z => ?_⟩
      obtain ⟨o, e, d⟩ := n'
      obtain ⟨o', _, _, e', d', _⟩ := hm
      rw [z, e'] at e; cases e; rw [d'] at d; cases d
    · intro b o e nf
      by_cases hb : b = env.locals
      · obtain ⟨o', _, _, e', d', _⟩ := hn
        exact ⟨o', hb ▸ e', fun vs z => by rw [d'] at z; cases z⟩
      · exact ⟨o, (hs.2 b hb).trans e, nf⟩
  · obtain ⟨cc, v₀, hc, hcell⟩ := F.cl x hk
    obtain ⟨m, hm⟩ := F.ns
    refine wpAny_storeName_cell F.kind hk hc hcell fun h' hv hs => ?_
    have hLc : env.locals ≠ cc := fun z => by
      obtain ⟨o, e, d⟩ := hcell
      obtain ⟨o', _, _, e', d', _⟩ := hm
      rw [← z, e'] at e; cases e; rw [d'] at d; cases d
    refine h h' s.toks (fm_store (v := v) F hx hnd hs (F.hc x cc hk hc).1 (F.hc x cc hk hc).2 (not_isL_cell hcell) (F.sto.notCell hcell) (let ⟨o, e, _⟩ := hv; ⟨o, e⟩) (.inr ⟨hk, cc, hc, hv⟩) ?_ ⟨m, hm.sameBut hs hLc⟩ ?_ r) (Kv.of_sameBut hs (F.hc x cc hk hc).1) ?_ ⟨_, .inr ⟨x, hk, hc⟩, hs⟩
    · rintro y w hy (⟨ky, m', n', e'⟩ | ⟨ky, cy, ey, n'⟩)
      · exact .inl ⟨ky, m', n'.sameBut hs hLc, e'⟩
      · exact .inr ⟨ky, cy, ey, n'.sameBut hs fun z => hy (F.capart y x cc (z ▸ ey) hc)⟩
    · intro y hy
      obtain ⟨cy, w, ey, n'⟩ := F.cl y hy
      by_cases hyx : y = x
      · subst hyx; exact ⟨cc, _, hc, hv⟩
      · exact ⟨cy, w, ey, n'.sameBut hs fun z => hyx (F.capart y x cc (z ▸ ey) hc)⟩
    · intro b o e nf
      by_cases hb : b = cc
      · obtain ⟨o', e', d'⟩ := hv
        exact ⟨o', hb ▸ e', fun vs z => by rw [d'] at z; cases z⟩
      · exact ⟨o, (hs.2 b hb).trans e, nf⟩
end
end Mine
end
section
open PySem PySem.W PyProof.Rows
set_option linter.unusedVariables false
namespace Mine

mutual
inductive PS where
  | expr (e : PE)
  | assign (i : Nat) (e : PE)
  | ownl (i : Nat) (xs : PEs)
  | aug (i : Nat) (op : Operator) (e : PE)
  | ometh (i : Nat) (m : OMI) (xs : PEs) (fz : Option Nat)
  | ite (t : PE) (a b : PSs)
  | for_ (i : Nat) (src : PE) (body : PSs)
  | while_ (n : Nat) (t : PE) (body : PSs)
  | ret (e : PE)
  | retOwn (i : Nat)
  | brk
  | cont
  | try_ (body : PSs) (hs : PHs)
inductive PSs where
  | nil
  | cons (s : PS) (r : PSs)
inductive PHs where
  | nil
  | cons (x : EX) (body : PSs) (r : PHs)
end

inductive FR where
  | next (st : Fs)
  | brk (st : Fs)
  | cont (st : Fs)
  | ret (v : AV) (σ : Store)
  | exc (x : EX) (st : Fs)
  | stuck

noncomputable def forF (f : AV → Fs → FR) : List AV → Fs → FR
  | [], st => .next st
  | x :: r, st => match f x st with
    | .next st' => forF f r st'
    | .cont st' => forF f r st'
    | .brk st' => .next st'
    | .ret v σ => .ret v σ
    | .exc _ _ => .stuck
    | .stuck => .stuck
noncomputable def whileF (t : Fs → Option (Bool × Store)) (f : Fs → FR) : Nat → Fs → FR
  | 0, _ => .stuck
  | n + 1, st => match t st with
    | some (true, σ) => (match f (st.at σ) with
      | .next st' => whileF t f n st'
      | .cont st' => whileF t f n st'
      | .brk st' => .next st'
      | .ret v σ => .ret v σ
      | .exc _ _ => .stuck
      | .stuck => .stuck)
    | some (false, σ) => .next (st.at σ)
    | none => .stuck

abbrev Fs.set (st : Fs) (i : Nat) (t : Ent) : Fs := { st with ρ := st.ρ.set i (some t) }
noncomputable def Fs.sets (st : Fs) : List Nat → List AV → Fs
  | i :: is, v :: vs => (st.set i (.val v)).sets is vs
  | _, _ => st
/-- the result of an expression in a statement -/
noncomputable def resS (r : ER) (st : Fs) (f : AV → Fs → FR) : FR := match r with
  | .ok (.av v) σ => f v (st.at σ)
  | .ok (.own _) _ => .stuck
  | .exc x σ => .exc x (st.at σ)
  | .stuck => .stuck
noncomputable def ownOf (st : Fs) (i : Nat) : Option (List AV) := match st.ρ[i]? with
  | some (some (.own xs)) => some xs
  | _ => none
section
variable (O : OpsF) (cal : Cal)
noncomputable def omethF (st : Fs) (i : Nat) (m : OMI) (r : Option (List OV × Store)) : FR := match r with
  | some (ol, σ) => (match plains ol, ownOf st i with
    | some l, some xs => (match O.ometh m xs l with
      | some xs' => .next ((st.at σ).set i (.own xs'))
      | none => .stuck)
    | _, _ => .stuck)
  | none => .stuck
mutual
noncomputable def px (q : Bool) (st : Fs) : PS → FR
  | .expr e => resS (pe O cal q st e).v st fun _ st' => .next st'
  | .assign i e => resS (pe O cal q st e).v st fun v st' => .next (st'.set i (.val v))
  | .ownl i xs => match pes O cal q st xs with
    | some (ol, σ) => (match plains ol with
      | some l => if l.length ≤ 100 then .next ((st.at σ).set i (.own l)) else .stuck
      | none => .stuck)
    | none => .stuck
  | .aug i op e => match slotV st i, (pe O cal q st e).v with
    | .ok (.av a) _, .ok b σ => resS (ofRes (O.inpl op (deref σ a) (derefS st.ρ σ b)) σ) st fun v st' => .next (st'.set i (.val v))
    | _, _ => .stuck
  | .ometh i m xs fz => match q with
    | true => (match fz with
      | none => omethF O st i m (pes O cal true st xs)
      | some j => (match ownOf st j with
        | some ys => omethF O (st.set j (.val (.lst ys))) i m (pes O cal true (st.set j (.val (.lst ys))) xs)
        | none => .stuck))
    | false => .stuck
  | .ite t a b => match (pe O cal q st t).t with
    | some (true, σ) => pxs q (st.at σ) a
    | some (false, σ) => pxs q (st.at σ) b
    | none => .stuck
  | .for_ i src body => match q, (pe O cal q st src).v with
    | true, .ok (.av v) σ => (match O.items v with | some l => forF (fun x st => pxs true (st.set i (.val x)) body) l (st.at σ) | none => .stuck)
    | _, _ => .stuck
  | .while_ n t body => whileF (fun st => (pe O cal q st t).t) (fun st => pxs q st body) n st
  | .ret e => resS (pe O cal q st e).v st fun v st' => .ret v st'.σ
  | .retOwn i => match ownOf st i with
    | some xs => .ret (.lst xs) st.σ
    | none => .stuck
  | .brk => .brk st
  | .cont => .cont st
  | .try_ body hs => match q with
    | true => (match pxs true st body with
      | .exc x st' => phs x st' hs
      | r => r)
    | false => .stuck
noncomputable def pxs (q : Bool) (st : Fs) : PSs → FR
  | .nil => .next st
  | .cons s r => match px q st s with
    | .next st' => pxs q st' r
    | f => f
noncomputable def phs (x : EX) (st : Fs) : PHs → FR
  | .nil => .stuck
  | .cons y body r => if x = y then (match pxs false st body with | .exc _ _ => .stuck | f => f) else phs x st r
end
end

noncomputable def nameAt (ks : List (Str × NameKind)) (ns : List Str) (i : Nat) (x : Str) : Bool :=
  ns[i]? == some x && (ks.lookup x == some .local || ks.lookup x == some .cell) && (List.range ns.length).all fun j => j == i || !(ns[j]? == some x)
noncomputable def isComp : PE → Bool
  | .comp .. => true
  | _ => false
/-- what is looked at of a statement -/
structure SH where
  expr : Expr → Bool := fun _ => false
  assign : List Expr → Expr → Bool := fun _ _ => false
  aug : Expr → Operator → Expr → Bool := fun _ _ _ => false
  iff : Expr → List Stmt → List Stmt → Bool := fun _ _ _ => false
  fo : Expr → Expr → List Stmt → List Stmt → Bool := fun _ _ _ _ => false
  wh : Expr → List Stmt → List Stmt → Bool := fun _ _ _ => false
  ret : Option Expr → Bool := fun _ => false
  brk : Bool := false
  cont : Bool := false
  pass : Bool := false
  tr : List Stmt → List ExceptHandler → List Stmt → List Stmt → Bool := fun _ _ _ _ => false
  raise : Option Expr → Option Expr → Bool := fun _ _ => false
noncomputable def onS (h : SH) : Stmt → Bool
  | .Expr e _ => h.expr e
  | .Assign ts e _ => h.assign ts e
  | .AugAssign t o e _ => h.aug t o e
  | .If t a b _ => h.iff t a b
  | .For t i a b _ => h.fo t i a b
  | .While t a b _ => h.wh t a b
  | .Return e _ => h.ret e
  | .Break _ => h.brk
  | .Continue _ => h.cont
  | .Pass _ => h.pass
  | .Try a b c d _ => h.tr a b c d
  | .Raise a b _ => h.raise a b
  | _ => false
section
variable {sm : Stmt}
theorem onS_expr {f} (h : onS { expr := f } sm = true) : ∃ e p, sm = .Expr e p ∧ f e = true := by
  cases sm with
  | Expr e p => exact ⟨e, p, rfl, h⟩
  | _ => exact (Bool.false_ne_true h).elim
theorem onS_assign {f} (h : onS { assign := f } sm = true) : ∃ ts e p, sm = .Assign ts e p ∧ f ts e = true := by
  cases sm with
  | Assign ts e p => exact ⟨ts, e, p, rfl, h⟩
  | _ => exact (Bool.false_ne_true h).elim
theorem onS_aug {f} (h : onS { aug := f } sm = true) : ∃ t o e p, sm = .AugAssign t o e p ∧ f t o e = true := by
  cases sm with
  | AugAssign t o e p => exact ⟨t, o, e, p, rfl, h⟩
  | _ => exact (Bool.false_ne_true h).elim
theorem onS_iff {f} (h : onS { iff := f } sm = true) : ∃ t a b p, sm = .If t a b p ∧ f t a b = true := by
  cases sm with
  | If t a b p => exact ⟨t, a, b, p, rfl, h⟩
  | _ => exact (Bool.false_ne_true h).elim
theorem onS_fo {f} (h : onS { fo := f } sm = true) : ∃ t i a b p, sm = .For t i a b p ∧ f t i a b = true := by
  cases sm with
  | For t i a b p => exact ⟨t, i, a, b, p, rfl, h⟩
  | _ => exact (Bool.false_ne_true h).elim
theorem onS_wh {f} (h : onS { wh := f } sm = true) : ∃ t a b p, sm = .While t a b p ∧ f t a b = true := by
  cases sm with
  | While t a b p => exact ⟨t, a, b, p, rfl, h⟩
  | _ => exact (Bool.false_ne_true h).elim
theorem onS_ret {f} (h : onS { ret := f } sm = true) : ∃ e p, sm = .Return e p ∧ f e = true := by
  cases sm with
  | Return e p => exact ⟨e, p, rfl, h⟩
  | _ => exact (Bool.false_ne_true h).elim
theorem onS_brk (h : onS { brk := true } sm = true) : ∃ p, sm = .Break p := by
  cases sm with
  | Break p => exact ⟨p, rfl⟩
  | _ => exact (Bool.false_ne_true h).elim
theorem onS_cont (h : onS { cont := true } sm = true) : ∃ p, sm = .Continue p := by
  cases sm with
  | Continue p => exact ⟨p, rfl⟩
  | _ => exact (Bool.false_ne_true h).elim
theorem onS_tr {f} (h : onS { tr := f } sm = true) : ∃ a b c d p, sm = .Try a b c d p ∧ f a b c d = true := by
  cases sm with
  | Try a b c d p => exact ⟨a, b, c, d, p, rfl, h⟩
  | _ => exact (Bool.false_ne_true h).elim
/-- one name is assigned -/
noncomputable def onA1 (sm : Stmt) (f : Str → Expr → Bool) : Bool := onS { assign := fun ts e => one? ts fun t => onE { name := fun x => f x e } t } sm
theorem onA1_eq {f} (h : onA1 sm f = true) : ∃ x px e p, sm = .Assign [.Name x px] e p ∧ f x e = true := by
  obtain ⟨ts, e, p, rfl, h⟩ := onS_assign h
  obtain ⟨t, rfl, h⟩ := one?_eq h
  obtain ⟨x, px, rfl, h⟩ := onE_name h
  exact ⟨x, px, e, p, rfl, h⟩
end
noncomputable def opt? {α : Type} (l : Option α) (f : α → Bool) : Bool := match l with
  | some x => f x
  | none => false
theorem opt?_eq {α : Type} {l : Option α} {f : α → Bool} (h : opt? l f = true) : ∃ x, l = some x ∧ f x = true := by
  cases l with
  | some x => exact ⟨x, rfl, h⟩
  | none => cases h
noncomputable def non? {α : Type} (l : Option α) (b : Bool) : Bool := match l with
  | some _ => false
  | none => b
theorem non?_eq {α : Type} {l : Option α} {b : Bool} (h : non? l b = true) : l = none ∧ b = true := by
  cases l with
  | some x => cases h
  | none => exact ⟨rfl, h⟩
noncomputable def onHd (l : List ExceptHandler) (f : Str → List Stmt → List ExceptHandler → Bool) : Bool := match l with
  | [] => false
  | .ExceptHandler t n b _ :: r => opt? t fun t => non? n (onE { name := fun x => !b.isEmpty && f x b r } t)
theorem onHd_eq {l} {f} (h : onHd l f = true) : ∃ x px b₀ su p r, l = .ExceptHandler (some (.Name x px)) none (b₀ :: su) p :: r ∧ f x (b₀ :: su) r = true := by
  rcases l with _ | ⟨⟨t, n, b, p⟩, r⟩
  · cases h
  · obtain ⟨t, rfl, h⟩ := opt?_eq h
    obtain ⟨rfl, h⟩ := non?_eq h
    obtain ⟨x, px, rfl, h⟩ := onE_name h
    rcases b with _ | ⟨b₀, su⟩
    · cases h
    · exact ⟨x, px, b₀, su, p, r, rfl, h⟩

section
variable (frees : List Str) (fname : Nat → Str) (ks : List (Str × NameKind)) (ns : List Str)
mutual
noncomputable def encS : PS → Stmt → Bool
  | .expr e, st => onS { expr := fun ex => encE frees fname ks ns e ex && !(isComp e) } st
  | .assign i e, st => onA1 st fun x ex => nameAt ks ns i x && encE frees fname ks ns e ex
  | .ownl i xs, st => onA1 st fun x ex => onE { list := fun es => nameAt ks ns i x && encEs frees fname ks ns xs es } ex
  | .aug i op e, st => onS { aug := fun t op' ex => onE { name := fun x => nameAt ks ns i x && !(x == ("__debug__" : Str)) && op == op' && encE frees fname ks ns e ex } t } st
  | .ometh i m xs _, st => onS { expr := fun ex => onMC ex fun o n apos es pos => onE { name := fun x => nameAt ks ns i x && !(x == ("__debug__" : Str)) && n == Str.ofString m.name && apos.endLine == pos.line && decide (es.length < 20) && !es.isEmpty && encEs frees fname ks ns xs es } o } st
  | .ite t a b, st => onS { iff := fun t' a' b' => encE frees fname ks ns t t' && encSs a a' && encSs b b' } st
  | .for_ i src body, st => onS { fo := fun t it body' els => onE { name := fun x => nil? els (nameAt ks ns i x && !(isSetd src) && encE frees fname ks ns src it && encSs body body') } t } st
  | .while_ _ t body, st => onS { wh := fun t' body' els => nil? els (encE frees fname ks ns t t' && encSs body body') } st
  | .ret e, st => onS { ret := fun o => opt? o fun ex => encE frees fname ks ns e ex } st
  | .retOwn i, st => onS { ret := fun o => opt? o fun ex => onE { name := fun x => ns[i]? == some x && !(x == ("__debug__" : Str)) } ex } st
  | .brk, st => onS { brk := true } st
  | .cont, st => onS { cont := true } st
  | .try_ body hs, st => onS { tr := fun body' hs' els fin => nil? els (nil? fin (encSs body body' && encHs hs hs' && !hs'.isEmpty)) } st
noncomputable def encSs : PSs → List Stmt → Bool
  | .nil, l => (match l with | [] => true | _ => false)
  | .cons s r, l => (match l with | s' :: r' => encS s s' && encSs r r' | _ => false)
noncomputable def encHs : PHs → List ExceptHandler → Bool
  | .nil, l => (match l with | [] => true | _ => false)
  | .cons y body r, l => onHd l fun x b r' => x == Str.ofString y.name && isGlob ks x && frees.contains x && encSs body b && encHs r r'
end
end
end Mine
end
section
open PySem PySem.W PyProof.Rows
set_option linter.unusedVariables false
set_option linter.unusedSectionVars false
namespace Mine

/-- the frame after some statements -/
structure Nx (c : Cx) (A : Around) (ns : List Str) (env : Env) (fe : FE) (st : Fs) (H : Hd) (s : Shared) (st' : Fs) (H' : Hd) (s' : Shared) : Prop where
  rest : ∃ h' tk, s' = { s with heap := h', toks := tk }
  lv : ∀ b o, s.heap.get? b = some o → ∃ o', s'.heap.get? b = some o'
  hid : ∀ b, H'.p b → H.p b ∨ s.heap.get? b = none
  kv : Kv (FrA A) H.p s.heap s'.heap
  nf : Nf s.heap s'.heap
  mx : ∀ n a, H.m n = some a → H'.m n = some a
  fm : Fm c (FrA A) ns env st' fe H' s'.heap
  len : st'.ρ.length = ns.length
  lo : st'.lo = st.lo
  n0 : st'.n0 = st.n0

section
variable {c : Cx} {A : Around} {ns : List Str} {env : Env} {fe : FE} {st st₁ st₂ : Fs} {H H₁ H₂ : Hd} {s s₁ s₂ : Shared}
theorem Nx.dead (x : Nx c A ns env fe st H s st₁ H₁ s₁) {b : Addr} (z : s₁.heap.get? b = none) : s.heap.get? b = none := by
  cases q : s.heap.get? b with
  | none => rfl
  | some o => obtain ⟨o', e'⟩ := x.lv b o q; rw [z] at e'; cases e'
theorem Nx.trans (x : Nx c A ns env fe st H s st₁ H₁ s₁) (y : Nx c A ns env fe st₁ H₁ s₁ st₂ H₂ s₂) : Nx c A ns env fe st H s st₂ H₂ s₂ where
  rest := by
    obtain ⟨h, t, rfl⟩ := x.rest
    obtain ⟨h', t', rfl⟩ := y.rest
    exact ⟨h', t', rfl⟩
  lv := fun b o e => let ⟨o', e'⟩ := x.lv b o e; y.lv b o' e'
  hid := fun b z => by
    rcases y.hid b z with z | z
    · exact x.hid b z
    · exact .inr (x.dead z)
  kv := fun b o n e => by
    have h1 : ¬ H₁.p b := fun z => by
      rcases x.hid b z with z | z
      · exact n z
      · rw [e] at z; cases z
    obtain ⟨p1, sl, p2⟩ := x.kv b o n e
    obtain ⟨q1, sl', q2⟩ := y.kv b _ h1 p2
    exact ⟨fun f => (y.kv b o h1 (p1 f)).1 f, sl', q2⟩
  nf := x.nf.trans y.nf
  mx := fun n a e => y.mx n a (x.mx n a e)
  fm := y.fm
  len := y.len
  lo := y.lo.trans x.lo
  n0 := y.n0.trans x.n0
theorem Nx.of_ss {σ' : Store} (F : Fm c (FrA A) ns env st fe H s.heap) (hlen : st.ρ.length = ns.length) (x : Ss A st.lo st.σ H s σ' H₁ s₁) : Nx c A ns env fe st H s (st.at σ') H₁ s₁ :=
  ⟨x.rest, x.lv, x.hid, x.kv.mono fun b ⟨n, mo, _, e1, e2⟩ => F.sto.hid n b mo e1 e2, x.nf, x.mx, F.ss x, hlen, rfl, rfl⟩
theorem Nx.of_kp (F : Fm c (FrA A) ns env st fe H s.heap) (hlen : st.ρ.length = ns.length) (k : Kp A s s₁) : Nx c A ns env fe st H s st H s₁ := .of_ss F hlen (.of_kp k F.sto F.hlt)
theorem Nx.vis (x : Nx c A ns env fe st H s st₁ H₁ s₁) : (vis s.heap H).Le (Mine.vis s₁.heap H₁) := ⟨by
  rintro b cc d ⟨nb, o, e, rr⟩
  obtain ⟨_, o₂, p2, rr₂⟩ := (x.kv.vis (H := H) fun _ z => z).r b cc d ⟨nb, o, e, rr⟩
  refine ⟨fun z => ?_, o₂, p2, rr₂⟩
  rcases x.hid b z with z | z
  · exact nb z
  · (rw [e] at z; cases z), x.mx⟩
end

/-- how the caller sees what has come back -/
noncomputable def retH (fe : FE) (n0 : Nat) (H' : Hd) : Hd := ⟨fun b => fe.H.p b ∨ ∃ n, n0 ≤ n ∧ H'.m n = some b, H'.m, fe.H.o⟩
/-- what comes back -/
structure Rt (c : Cx) (A : Around) (ns : List Str) (env : Env) (fe : FE) (st : Fs) (s : Shared) (σ' : Store) (w : Value) (v : AV) (s' : Shared) : Prop where
  rest : ∃ h' tk, s' = { s with heap := h', toks := tk }
  lv : ∀ b o, s.heap.get? b = some o → ∃ o', s'.heap.get? b = some o'
  nf : Nf s.heap s'.heap
  back : ∃ st' H', st'.σ = σ' ∧ st'.n0 = st.n0 ∧ st'.lo = st.lo ∧ Fm c (FrA A) ns env st' fe H' s'.heap ∧ Rep (vis s'.heap (retH fe st.n0 H')) w v

noncomputable def PostS (c : Cx) (q : Bool) (A : Around) (ns : List Str) (env : Env) (fe : FE) (st : Fs) (H : Hd) (fr : FR) (s : Shared) (Q : Flow → Shared → Prop) (E : Value → Shared → Prop) : Prop :=
  match fr with
  | .next st' => ∀ H' s', Nx c A ns env fe st H s st' H' s' → Q .next s'
  | .brk st' => ∀ H' s', Nx c A ns env fe st H s st' H' s' → Q .brk s'
  | .cont st' => ∀ H' s', Nx c A ns env fe st H s st' H' s' → Q .cont s'
  | .ret v σ' => ∀ w s', Rt c A ns env fe st s σ' w v s' → Q (.ret w) s'
  | .exc x st' => q = true ∧ ∀ H' sr e s', Nx c A ns env fe st H s st' H' sr → Xp A sr s' e x → E e s'
  | .stuck => False

section
variable {c : Cx} {q : Bool} {A : Around} {ns : List Str} {env : Env} {fe : FE} {st st₁ : Fs} {H H₁ : Hd} {s s₁ : Shared} {fr : FR} {Q : Flow → Shared → Prop} {E : Value → Shared → Prop}
theorem Rt.nx {s' : Shared} {σ' : Store} {w : Value} {v : AV} (y : Rt c A ns env fe st₁ s₁ σ' w v s') (x : Nx c A ns env fe st H s st₁ H₁ s₁) : Rt c A ns env fe st s σ' w v s' where
  rest := by
    obtain ⟨h, t, rfl⟩ := x.rest
    obtain ⟨h', t', rfl⟩ := y.rest
    exact ⟨h', t', rfl⟩
  lv := fun b o e => let ⟨o', e'⟩ := x.lv b o e; y.lv b o' e'
  nf := x.nf.trans y.nf
  back := by
    obtain ⟨st', H', h1, h2, h3, h4, h5⟩ := y.back
    exact ⟨st', H', h1, h2.trans x.n0, h3.trans x.lo, h4, by rw [← x.n0]; exact h5⟩
theorem PostS.nx (P : PostS c q A ns env fe st H fr s Q E) (x : Nx c A ns env fe st H s st₁ H₁ s₁) : PostS c q A ns env fe st₁ H₁ fr s₁ Q E := by
  cases fr with
  | next st' => exact fun H' s' y => P H' s' (x.trans y)
  | brk st' => exact fun H' s' y => P H' s' (x.trans y)
  | cont st' => exact fun H' s' y => P H' s' (x.trans y)
  | ret v σ => exact fun w s' y => P w s' (y.nx x)
  | exc x' st' => exact ⟨P.1, fun H' sr e s' y => P.2 H' sr e s' (x.trans y)⟩
  | stuck => exact P.elim
/-- a value comes back -/
theorem Fm.rt {w : Value} {v : AV} (F : Fm c (FrA A) ns env st fe H s.heap) (r : Rep (vis s.heap H) w v) : Rt c A ns env fe st s st.σ w v s :=
  ⟨⟨_, _, rfl⟩, fun b o e => ⟨o, e⟩, fun b o e n => ⟨o, e, n⟩, st, H, rfl, rfl, rfl, F, Rep.mono (vis_hide (H := retH fe st.n0 H) (H' := H) (fun b z => by
    rcases z with z | ⟨n, _, e⟩
    · exact F.hle b z
    · exact F.sto.hidden e) fun _ _ e => e) r⟩
/-- the result of an expression in a statement -/
theorem PostS.resK {r : ER} {f : AV → Fs → FR} {t : Sem Value} {Q' : Value → Shared → Prop} (F : Fm c (FrA A) ns env st fe H s.heap) (hlen : st.ρ.length = ns.length) (X : Ev c q A st.lo st.σ H t r s) (P : PostS c q A ns env fe st H (resS r st f) s Q E)
    (h : ∀ v σ₁, r = .ok (.av v) σ₁ → ∀ w H₁ s₁, Nx c A ns env fe st H s (st.at σ₁) H₁ s₁ → Rep (vis s₁.heap H₁) w v → PostS c q A ns env fe (st.at σ₁) H₁ (f v (st.at σ₁)) s₁ Q E → Q' w s₁) : wpAny c.M A t Q' E s := by
  cases r with
  | stuck => exact P.elim
  | exc x σ₁ => exact X _ _ ⟨P.1, fun e H' sr s' x Y => P.2 H' sr e s' (.of_ss F hlen x) Y⟩
  | ok v σ₁ =>
    cases v with
    | own i => exact P.elim
    | av v => exact X _ _ fun w H₁ s₁ x r => h v σ₁ rfl w H₁ s₁ (.of_ss F hlen x) r (PostS.nx (fr := f v (st.at σ₁)) P (.of_ss F hlen x))
end

/-- a statement does what is told -/
noncomputable def StOk (c : Cx) (q : Bool) (k : Nat) (ns : List Str) (env : Env) (st : Fs) (t : Sem Flow) (fr : FR) : Prop :=
  ∀ A s fe H, Rm c q (k + 1) A s.heap → (∃ outer, A.frames = some (env :: outer)) → Fm c (FrA A) ns env st fe H s.heap → st.ρ.length = ns.length → ∀ Q E, PostS c q A ns env fe st H fr s Q E → wpAny c.M A t Q E s

theorem nameAt_of {ks : List (Str × NameKind)} {ns : List Str} {i : Nat} {x : Str} {env : Env} (hks : env.scope.names = ks) (h : nameAt ks ns i x = true) :
    ns[i]? = some x ∧ (env.kindOf x = some .local ∨ env.kindOf x = some .cell) ∧ OneName ns i x := by
  simp only [nameAt, Bool.and_eq_true, Bool.or_eq_true, beq_iff_eq, List.all_eq_true, List.mem_range, Bool.not_eq_true', beq_eq_false_iff_ne] at h
  obtain ⟨⟨h1, h2⟩, h3⟩ := h
  refine ⟨h1, ?_, fun j hj => ?_⟩
  · show env.scope.names.lookup x = _ ∨ env.scope.names.lookup x = _
    rw [hks]; exact h2
  · have hlt : j < ns.length := by
      rcases Nat.lt_or_ge j ns.length with h | h
      · exact h
      · rw [List.getElem?_eq_none h] at hj; cases hj
    exact (h3 j hlt).resolve_right fun n => n hj

theorem swaps_no {e : PE} {frees : List Str} {fname : Nat → Str} {ks : List (Str × NameKind)} {ns : List Str} {ex : Expr} (h : encE frees fname ks ns e ex = true) (hc : isComp e = false) (t : Option Expr) (l : Nat) (env : Env) : swapsWith ex t l env = pure false := by
  cases ex <;> first | rfl | (cases e <;> first | exact (Bool.false_ne_true h).elim | exact (Bool.false_ne_true hc.symm).elim)

section
variable {c : Cx} {A : Around} {ns : List Str} {env : Env} {fe : FE} {st st₁ : Fs} {H H₁ : Hd} {s s₁ s₂ : Shared}

theorem nx_store {i : Nat} {x : Str} {v : Value} {av : AV} {Q : Unit → Shared → Prop} {E : Value → Shared → Prop} (N : Nx c A ns env fe st H s st₁ H₁ s₁) (hx : ns[i]? = some x) (hnd : OneName ns i x)
    (hk : env.kindOf x = some .local ∨ env.kindOf x = some .cell) (r : Rep (vis s₁.heap H₁) v av) (h : ∀ s', Nx c A ns env fe st H s (st₁.set i (.val av)) H₁ s' → Nx c A ns env fe st₁ H₁ s₁ (st₁.set i (.val av)) H₁ s' → Q () s') : wpAny c.M A (storeName env x v) Q E s₁ := by
  refine wp_store (t := .val av) N.fm hx hnd hk r fun h' tk F' kv nf _ => ?_
  have N₁ : Nx c A ns env fe st₁ H₁ s₁ (st₁.set i (.val av)) H₁ { s₁ with heap := h', toks := tk } := ⟨⟨_, _, rfl⟩, fun b o e => by
    by_cases hb : H₁.p b
    · exact F'.hlt b hb
    · obtain ⟨sl, q⟩ := (kv b o hb e).2; exact ⟨_, q⟩, fun _ z => .inl z, kv, nf, fun _ _ e => e, F', by simpa using N.len, rfl, rfl⟩
  exact h _ (N.trans N₁) N₁

theorem nx_own {i : Nat} {x : Str} {xs : List AV} {vs : List Value} {a : Addr} {Q : Unit → Shared → Prop} {E : Value → Shared → Prop} (N : Nx c A ns env fe st H s st₁ H₁ s₁) (k : Kp A s₁ s₂) (hx : ns[i]? = some x) (hnd : OneName ns i x)
    (hk : env.kindOf x = some .local ∨ env.kindOf x = some .cell) (hz : xs.length ≤ 1048576) (hnew : s₁.heap.get? a = none) (hl : IsL s₂.heap a vs) (r : RepL (vis s₁.heap H₁) vs xs)
    (h : ∀ H' s', Nx c A ns env fe st H s (st₁.set i (.own xs)) H' s' → Q () s') : wpAny c.M A (storeName env x (.ref a)) Q E s₂ := by
  have F₁ := N.fm.putO (i := i) k.kh hnew hl
  have hN : ∀ b, (H₁.putO i a).p b → H₁.p b ∨ s₁.heap.get? b = none := fun b z => z.imp id fun (z : b = a) => z ▸ hnew
  have N₁ : Nx c A ns env fe st₁ H₁ s₁ { st₁ with ρ := st₁.ρ.set i none } (H₁.putO i a) s₂ := ⟨let ⟨h, t, e, _⟩ := k; ⟨h, t, e⟩, fun b o e => let ⟨_, q⟩ := (k.kh b o e).2; ⟨_, q⟩, hN, k.kh.kv, k.kh.nf, fun _ _ e => e, F₁, by simpa using N.len, rfl, rfl⟩
  refine wp_store (t := .own xs) F₁ hx hnd hk ⟨hz, a, vs, rfl, if_pos rfl, hl, RepL.mono (vis_new k.kh hN fun _ _ e => e) r⟩ fun h' tk F' kv nf _ => ?_
  have e : ({ st₁ with ρ := st₁.ρ.set i none } : Fs).set i (.own xs) = st₁.set i (.own xs) := by simp [Fs.set]
  have F'' : Fm c (FrA A) ns env (st₁.set i (.own xs)) fe (H₁.putO i a) h' := by rw [← e]; exact F'
  refine h _ _ ((N.trans N₁).trans ⟨⟨_, _, rfl⟩, fun b o e => ?_, fun _ z => .inl z, kv, nf, fun _ _ e => e, F'', by simpa using N.len, rfl, rfl⟩)
  by_cases hb : (H₁.putO i a).p b
  · exact F''.hlt b hb
  · obtain ⟨sl, q⟩ := (kv b o hb e).2; exact ⟨_, q⟩

/-- an own list turned -/
theorem nx_turn {i : Nat} {a : Addr} {vs' : List Value} {xs xs' : List AV} {h' : Heap} {tk : Nat} (N : Nx c A ns env fe st H s st₁ H₁ s₁) (hr : st₁.ρ[i]? = some (some (.own xs))) (ho : H₁.o i = some a) (hl : IsL h' a vs') (hz : xs'.length ≤ 1048576) (r : RepL (vis s₁.heap H₁) vs' xs') (hs : Heap.SameBut a s₁.heap h') :
    Nx c A ns env fe st H s (st₁.set i (.own xs')) H₁ { s₁ with heap := h', toks := tk } := by
  have F₂ := fm_own N.fm ho ⟨xs, hr⟩ hs hl hz r
  obtain ⟨hH, _⟩ := N.fm.own i a ho
  refine N.trans ⟨⟨_, _, rfl⟩, fun b o e => ?_, fun _ z => .inl z, Kv.of_sameBut hs hH, fun b o e nf => ?_, fun _ _ e => e, F₂, by simpa using N.len, rfl, rfl⟩
  · by_cases hb : b = a
    · obtain ⟨o', _, e', _⟩ := hl; exact ⟨o', hb ▸ e'⟩
    · exact ⟨o, (hs.2 b hb).trans e⟩
  · by_cases hb : b = a
    · obtain ⟨o', _, e', _, d', _⟩ := hl; exact ⟨o', hb ▸ e', fun vs z => by rw [d'] at z; cases z⟩
    · exact ⟨o, (hs.2 b hb).trans e, nf⟩
end
end Mine
end
section
open PySem PySem.W PyProof.Rows
namespace Mine

theorem fly_kh {A : Around} {sr s' : Shared} {B h : Heap} {l : List Env} {base : Heap} (hk : Kp A sr s') (hfr : A.frames = some l) (ff : s'.heap.FunFrames base l)
    (hB : ∀ b o, s'.heap.get? b = some o → (∃ o', sr.heap.get? b = some o') → b ∉ l.filterMap (·.frame) → B.get? b = some o) (hst : B.StaysIn h) (hup : s'.heap.UpToSlots h) : Kh (FrA A) sr.heap h := fun b o e => by
  obtain ⟨p1, sl, p2⟩ := hk.kh b o e
  by_cases hb : b ∈ l.filterMap (·.frame)
  · obtain ⟨_, o', e', nf⟩ := ff.mem hb
    rw [p2] at e'; cases e'
    refine ⟨fun n => n.elim (fun n => absurd ⟨l, hfr, hb⟩ n) fun ⟨fs, z⟩ => absurd z (nf fs), ?_⟩
    obtain ⟨sl', q⟩ := hup b _ p2 nf
    exact ⟨sl', q⟩
  · have hF : ¬ FrA A b := fun ⟨l', e1, e2⟩ => by rw [hfr] at e1; cases e1; exact hb e2
    have := hst b o (hB b o (p1 (.inl hF)) ⟨o, e⟩ hb)
    exact ⟨fun _ => this, o.slots, this⟩

/-- an exception that the frame has taken note of -/
noncomputable def Fly (A : Around) (l : List Env) (sr : Shared) (e : Addr) (cls : EX) (s' : Shared) : Prop := ∃ B a0 h tk, s' = { sr with heap := h, toks := tk } ∧ Heap.FlyingW B l e (.type cls.name) a0 h ∧ Kh (FrA A) sr.heap h ∧ (∀ b o, h.get? b = some o → (∃ o', sr.heap.get? b = some o') → b ∉ l.filterMap (·.frame) → B.get? b = some o) ∧ (∀ b, b ∈ l.filterMap (·.frame) → ∃ o, h.get? b = some o ∧ ∀ vs, o.data ≠ .fields vs)

theorem note_land {c : Cx} {A : Around} {sr s' : Shared} {e : Addr} {cls : EX} {env : Env} {outer : List Env} {Lf : Addr} {Q : Unit → Shared → Prop} {E : Value → Shared → Prop} (X : Xp A sr s' (.ref e) cls) (hfr : A.frames = some (env :: outer)) (hf : env.frame = some Lf)
    (ff : s'.heap.FunFrames c.h0 (env :: outer)) (K : ∀ s₃, Fly A (env :: outer) sr e cls s₃ → Q () s₃) :
    wpAny c.M A (noteFrame (.ref e) env) (fun _ s₂ => wpAny c.M A (setFlight (.ref e) none) Q E s₂) E s' := by
  obtain ⟨e', a0, he', hkp, hen, hX⟩ := X
  cases he'
  have fin : ∀ (B : Heap), B.StaysIn s'.heap → B.get? e = none → (∀ b o, s'.heap.get? b = some o → (∃ o', sr.heap.get? b = some o') → b ∉ (env :: outer).filterMap (·.frame) → B.get? b = some o) →
      ∀ h₂, Heap.HeldW B (env :: outer) e (.type cls.name) a0 Lf h₂ → s'.heap.UpToSlots h₂ → wpAny c.M A (setFlight (.ref e) none) Q E { s' with heap := h₂ } := by
    intro B hB1 hB2 hB3 h₂ hh hu
    refine wpAny_landsW hh fun h₃ hfl hu₃ => K _ ?_
    have kh := fly_kh hkp hfr ff hB3 hfl.1 (hu.trans hu₃)
    obtain ⟨h', tk', rfl, kk⟩ := hkp
    refine ⟨B, a0, h₃, tk', rfl, hfl, kh, fun b o q1 q2 q3 => ?_, fun b hb => ?_⟩
    · obtain ⟨o', q2⟩ := q2
      have hF : ¬ FrA A b := fun ⟨l', e1, e2⟩ => by rw [hfr] at e1; cases e1; exact q3 e2
      have e1 := (kk b o' q2).1 (.inl hF)
      have e2 := hB3 b o' e1 ⟨o', q2⟩ q3
      have e3 := hfl.1 b o' e2
      rw [q1] at e3; cases e3; exact e2
    · obtain ⟨_, o, e1, nf⟩ := hfl.2.2.1.mem hb
      exact ⟨o, e1, nf⟩
  rcases hX with ⟨ob, ho, hc, hd⟩ | ht
  · have hB0 : ∀ b o, s'.heap.get? b = some o → (∃ o', sr.heap.get? b = some o') → b ∉ (env :: outer).filterMap (·.frame) → (hideAll s'.heap (e :: (env :: outer).filterMap (·.frame))).get? b = some o := fun b o q1 q2 q3 => by
      refine hideAll_get _ q1 fun hm => ?_
      rcases List.mem_cons.mp hm with rfl | hm
      · obtain ⟨o', q2⟩ := q2; rw [hen] at q2; cases q2
      · exact q3 hm
    have hfB : s'.heap.FunFrames (hideAll s'.heap (e :: (env :: outer).filterMap (·.frame))) (env :: outer) := funFrames_hide ff fun v hv a ha => List.mem_cons_of_mem _ (List.mem_filterMap.mpr ⟨v, hv, ha⟩)
    unfold noteFrame
    simp only [hf]
    refine wpAny_bind (wpAny_field ho hd (x := .none) rfl ?_)
    rw [if_neg (by decide)]
    refine wpAny_entryW (base := hideAll s'.heap (e :: (env :: outer).filterMap (·.frame))) hfr hfB hf ho (fun b o q => of_hideAll _ q) (hideAll_none _ (List.mem_cons_self ..)) hd (by simp) (a0 := a0) rfl fun h₂ hN => ?_
    obtain ⟨k1, k2, k3, k4⟩ := hN
    rw [hc] at k3
    exact fin _ (fun b o q => of_hideAll _ q) (hideAll_none _ (List.mem_cons_self ..)) hB0 h₂ ⟨k1, hideAll_none _ (List.mem_cons_self ..), k2, k3⟩ k4
  · obtain ⟨oe, vs, T, oT, ts, he, hcl, hd, h1, hT, hTe, hoT, hdT, h3⟩ := ht
    have hB0 : ∀ b o, s'.heap.get? b = some o → (∃ o', sr.heap.get? b = some o') → b ∉ (env :: outer).filterMap (·.frame) → (hideAll s'.heap (e :: T :: (env :: outer).filterMap (·.frame))).get? b = some o := fun b o q1 q2 q3 => by
      obtain ⟨o', q2⟩ := q2
      refine hideAll_get _ q1 fun hm => ?_
      rcases List.mem_cons.mp hm with rfl | hm
      · rw [hen] at q2; cases q2
      · rcases List.mem_cons.mp hm with rfl | hm
        · rw [hT] at q2; cases q2
        · exact q3 hm
    have hfB : s'.heap.FunFrames (hideAll s'.heap (e :: T :: (env :: outer).filterMap (·.frame))) (env :: outer) := funFrames_hide ff fun v hv a ha => List.mem_cons_of_mem _ (List.mem_cons_of_mem _ (List.mem_filterMap.mpr ⟨v, hv, ha⟩))
    have hTB : (hideAll s'.heap (e :: T :: (env :: outer).filterMap (·.frame))).get? T = none := hideAll_none _ (List.mem_cons_of_mem _ (List.mem_cons_self ..))
    refine wpAny_noteFrame_onW (base := hideAll s'.heap (e :: T :: (env :: outer).filterMap (·.frame))) (a0 := a0) (cls := .type cls.name) hfr hfB hf ⟨oe, vs, T, oT, ts, he, hcl, hd, h1, hTB, hTe, hoT, hdT, h3⟩ (fun b o q => of_hideAll _ q) (hideAll_none _ (List.mem_cons_self ..)) fun h₂ hN => ?_
    obtain ⟨k1, k2, k3, k4⟩ := hN
    exact fin _ (fun b o q => of_hideAll _ q) (hideAll_none _ (List.mem_cons_self ..)) hB0 h₂ ⟨k1, hideAll_none _ (List.mem_cons_self ..), k2, k3⟩ k4

theorem EX.boot : ∀ (x : EX), bootBuiltins (Str.ofString x.name) = some (.type x.name)
  | .zde => by decide +kernel
  | .ofe => by decide +kernel
  | .te => by decide +kernel
  | .ve => by decide +kernel
  | .ae => by decide +kernel
theorem EX.sub : ∀ (x y : EX), isSubtype (.type x.name) (.type y.name) = pure (decide (x = y)) := by
  intro x y
  cases x <;> cases y <;> (rw [isSubtype_type]; kernel_rfl)
theorem EX.exc : ∀ (x : EX), isSubtype (.type x.name) (.type "BaseException") = pure true := by
  intro x
  cases x <;> (rw [isSubtype_type]; kernel_rfl)
theorem EX.notTup : ∀ (T : EX), isSubtype (.type ((Manifest.find? T.name).elim "type" fun x => x.metatype)) (.type "tuple") = pure false := by
  intro x
  cases x <;> (rw [isSubtype_type]; kernel_rfl)
end Mine
end
section
open PySem PySem.W PyProof.Rows
set_option linter.unusedVariables false
set_option linter.unusedSectionVars false
namespace Mine

section
variable {c : Cx} {O : OpsF} (OK : OpsOk c O) {k : Nat} {cal : Cal} {fname : Nat → Str} (CO : CallsOk c k cal fname) {frees : List Str} (hfree : ∀ x ∈ frees, c.mg x = none)

include OK CO hfree in
/-- x = e -/
theorem assign_val {A : Around} {s : Shared} {H : Hd} {fe : FE} {env : Env} {ks : List (Str × NameKind)} {ns : List Str} {st : Fs} {q : Bool} {e : PE} {ex : Expr} {i : Nat} {x : Str} {px' pos : Pos} {Q : Flow → Shared → Prop} {E : Value → Shared → Prop}
    (hks : env.scope.names = ks) (hm : Rm c q (k + 1) A s.heap) (F : Fm c (FrA A) ns env st fe H s.heap) (hlen : st.ρ.length = ns.length) (hx : nameAt ks ns i x = true) (he : encE frees fname ks ns e ex = true)
    (P : PostS c q A ns env fe st H (resS (pe O cal q st e).v st fun v st' => .next (st'.set i (.val v))) s Q E) : wpAny c.M A (exec (.Assign [.Name x px'] ex pos) env) Q E s := by
  obtain ⟨h1, h2, h3⟩ := nameAt_of hks hx
  have I := pe_sound OK CO hfree e he hks hm F hlen
  have plain : swapsWith ex (some (.Name x px')) pos.line env = pure false → wpAny c.M A (exec (.Assign [.Name x px'] ex pos) env) Q E s := fun hsw => by
    refine wpAny_Assign_Name (PostS.resK F hlen I.v P fun v σ₁ _ w H₁ s₁ N₁ r₁ P₁ => ?_) hsw
    exact nx_store N₁ h1 h3 h2 r₁ fun s' N N' => P₁ H₁ s' N'
  cases hc : isComp e with
  | false => exact plain (swaps_no he hc _ _ _)
  | true =>
    cases e <;> simp [isComp] at hc
    rename_i caps elt src conds
    simp only [encE] at he
    obtain ⟨e', y, py, it, ifs, scope, pos', rfl, hz⟩ := onLC_eq he
    replace he := hz; clear hz
    all_goals
      have hsw : ∃ b, swapsWith (.ListComp e' [⟨.Name y py, it, ifs, 0⟩] scope pos') (some (.Name x px')) pos.line env = pure b := ⟨_, rfl⟩
      obtain ⟨b, hsw⟩ := hsw
      cases b with
      | false => exact plain hsw
      | true =>
        simp only [Bool.and_eq_true] at he
        obtain ⟨⟨⟨⟨e1, e0⟩, e2⟩, e3⟩, e4⟩ := he
        have e0 : isSetd src = false := by simpa using e0
        simp only [pe, PR.of] at P
        cases q with
        | false => exact P.elim
        | true =>
          have X := (pe_sound OK CO hfree src e1 hks hm F hlen).v
          cases hl : (pe O cal true st src).v with
          | exc z σ₁ =>
            rw [hl] at P X
            rw [exec_Assign_Name_used _ _ _ _ hsw]
            have K := compOk_of (ns := ns) (caps := caps) hks e2
            obtain ⟨cl, hclos, hcl1, hcl2⟩ := closureFor_ok (env := env) (scope := scope) fun y hy => by
              obtain ⟨cc, _, e, _⟩ := F.cl y (K.free y hy)
              rw [e]; rfl
            refine wpAny_bind (wpAny_standAt (wpAny_bind ?_))
            show wpAny _ A (do let _ ← comprehension (.ListComp e' [⟨.Name y py, it, ifs, 0⟩] scope pos') scope env _ (newList []) false (eval it env) (some (assign (.Name x px') env))) _ _ s
            refine wpAny_bind (wpAny_mono (wpAny_comprehension_free (use := some (assign (.Name x px') env)) (Q := fun _ s' => Q .next s') rfl (encE_notSet e1 e0 env) hclos K.kind K.loc (X _ _ ⟨P.1, fun e H' sr s' x Y => P.2 H' sr e s' (.of_ss F hlen x) Y⟩)) (fun _ s' hq => wpAny_pure (wpAny_pure hq)) fun _ _ e => e)
          | stuck => rw [hl] at P; exact P.elim
          | ok a σ₁ =>
            rw [hl] at P X
            simp only [ER.bind] at P
            cases hi : O.items (derefS st.ρ σ₁ a) with
            | none => rw [hi] at P; exact P.elim
            | some l =>
              rw [hi] at P
              simp only [onItems] at P
              split at P
              · rename_i ys hf
                have K := compOk_of (ns := ns) (x := y) (caps := caps) hks e2
                have T : TurnOk c true (k + 1) A ns env (st.at σ₁) fe scope y caps e' ifs _ := comp_turn (O := O) (cal := cal) (elt := elt) (conds := conds) (relab_eq hks F.kind) hlen (fun a b c d => pe_sound OK CO hfree elt e3 a b c d) (fun a b c d => ptests_sound OK CO hfree conds e4 a b c d)
                obtain ⟨cl, hclos, hcl1, hcl2⟩ := closureFor_ok (env := env) (scope := scope) fun y hy => by
                  obtain ⟨cc, _, e, _⟩ := F.cl y (K.free y hy)
                  rw [e]; rfl
                rw [exec_Assign_Name_used _ _ _ _ hsw]
                refine wpAny_bind (wpAny_standAt (wpAny_bind ?_))
                show wpAny _ A (do let _ ← comprehension (.ListComp e' [⟨.Name y py, it, ifs, 0⟩] scope pos') scope env _ (newList []) false (eval it env) (some (assign (.Name x px') env))) _ _ s
                refine wpAny_bind (wpAny_mono (wpAny_comprehension_free (use := some (assign (.Name x px') env)) (Q := fun _ s' => Q .next s') rfl (encE_notSet e1 e0 env) hclos K.kind K.loc (X _ _ fun xv H₁ s₁ x₁ r₁ => ?_)) (fun _ s' hq => wpAny_pure (wpAny_pure hq)) fun _ _ e => e)
                have F₁ := F.ss x₁
                have N₁ := Nx.of_ss F hlen x₁
                refine OK.items (hm.nf x₁.nf) rfl F₁.hlt (RepO.derefS F₁ hlen r₁) hi _ _ fun I fp PP St h' tk hk hI hfI hl _ hsz W hst hP => ?_
                refine comp_core (RR := fun acc C => compPost c.M A E (some (assign (.Name x px') env)) (fun _ s' => Q .next s') acc C) (s₁ := s₁) (st := st.at σ₁) (hm.nf x₁.nf) F₁ hlen K hcl1 hcl2 ⟨_, _, rfl⟩ hk hI hl hfI W hst hsz hP hf T ?_
                intro D C h'' tk' m' vs hD hC hDC hn hl hr hkv
                have k2 : Kh (FrA A) s₁.heap h'' := (Kh.of_keeps hk).trans' hkv fun b o e z => by rw [z, hI] at e; cases e
                have kp2 : Kp A s₁ { s₁ with heap := h'', toks := tk' } := ⟨h'', tk', rfl, k2⟩
                have hDs : s₁.heap.get? D = none := none_back (Kh.of_keeps (F := fun _ => False) hk) hD
                have hCs : s₁.heap.get? C = none := none_back (Kh.of_keeps (F := fun _ => False) hk) hC
                show wpAny _ A (assign (.Name x px') env (.ref D)) _ _ _
                refine wpAny_assign_Name ?_
                obtain ⟨oC, esC, epC, eC, dC, rC⟩ := id hn
                have live : Live (H₁.add fun b => b = C) h'' := fun b z => by
                  rcases z with z | rfl
                  · obtain ⟨o, e⟩ := F₁.hlt b z
                    obtain ⟨sl, q⟩ := (k2 b o e).2
                    exact ⟨_, q⟩
                  · exact ⟨oC, eC⟩
                have FC := F₁.hide k2 (H₂ := H₁.add fun b => b = C) (fun b z => .inl z) (fun b z => z.imp id fun (z : b = C) => by rw [z]; exact hCs) rfl rfl live
                have rep : Rep (vis h'' (H₁.add fun b => b = C)) (.ref D) (.lst ys) := by
                  simp only [Rep]
                  obtain ⟨o, n, e, c1, d1, f1⟩ := hl
                  refine ⟨Nat.le_trans (mapF_length hf) hsz, D, vs, n, rfl, ⟨fun z => ?_, o, e, c1, d1, f1, .inl rfl, fun ⟨_, z⟩ => by cases z⟩, RepL.mono (vis_hide (H := H₁.add fun b => b = C) (H' := H₁.add fun b => b = C ∨ b = D ∨ b = I) (fun b z => z.elim .inl fun z => .inr (.inl z)) fun _ _ e => e) hr⟩
                  rcases z with z | z
                  · obtain ⟨o', e'⟩ := F₁.hlt D z
                    rw [hDs] at e'; cases e'
                  · exact hDC z
                have cellne : ∀ y cc, env.kindOf y = some .cell → env.cells.lookup y = some cc → cc ≠ C := fun y cc qk q z => by
                  obtain ⟨o', e'⟩ := F₁.hlt cc (F₁.hc y cc qk q).1
                  rw [z, hCs] at e'; cases e'
                have locne : env.locals ≠ C := fun z => by
                  obtain ⟨o', e'⟩ := F₁.hlt _ F₁.hl
                  rw [z, hCs] at e'; cases e'
                refine wp_store (t := .val (.lst ys)) FC h1 h3 h2 rep fun h₄ tk₄ F₄ kv₄ nf₄ ⟨sa, hsa, hsb⟩ => ?_
                have hCa : C ≠ sa := fun z => by
                  rcases hsa with q | ⟨y, qk, q⟩
                  · exact locne (q ▸ z.symm)
                  · exact cellne y sa qk q z.symm
                have hn₄ : h₄.Ns C m' := ⟨oC, esC, epC, (hsb.2 C hCa).trans eC, dC, rC⟩
                refine ⟨m', hn₄, fun h₅ hs₅ => P H₁ _ (N₁.trans ?_)⟩
                have nlC : ∀ vs, ¬ IsL h₄ C vs := not_isL_ns hn₄
                have hHC : ¬ H₁.p C := fun z => by
                  obtain ⟨o', e'⟩ := F₁.hlt C z
                  rw [hCs] at e'; cases e'
                have hfeC : fe.h.get? C = none := by
                  cases q : fe.h.get? C with
                  | none => rfl
                  | some o =>
                    obtain ⟨o', e'⟩ := F₁.keep.nw (fun b w => F₁.hlt b (F₁.hle b (F₁.wsub b w))) q
                    rw [hCs] at e'; cases e'
                have F₅ := F₄.drop (a := C) (h' := h₅) (fun b o hb e => (hs₅.2 b hb).trans e) hfeC locne cellne nlC F₁.hle hHC (fun n e => hHC (F₁.sto.hidden e))
                refine ⟨⟨h₅, tk₄, rfl⟩, fun b o e => ?_, fun b z => .inl z, fun b o nb e => ?_, fun b o e nf => ?_, fun _ _ e => e, F₅, by simpa using hlen, rfl, rfl⟩
                · have hb : b ≠ C := fun z => by rw [z, hCs] at e; cases e
                  by_cases hHb : H₁.p b
                  · exact F₅.hlt b hHb
                  · obtain ⟨sl, q⟩ := (k2 b o e).2
                    obtain ⟨sl', q'⟩ := (kv₄ b _ (fun z => z.elim hHb hb) q).2
                    exact ⟨_, (hs₅.2 b hb).trans q'⟩
                · have hb : b ≠ C := fun z => by rw [z, hCs] at e; cases e
                  obtain ⟨p1, sl, p2⟩ := k2 b o e
                  have nb' : ¬ (H₁.add fun b => b = C).p b := fun z => z.elim nb hb
                  refine ⟨fun f => (hs₅.2 b hb).trans ((kv₄ b o nb' (p1 f)).1 f), ?_⟩
                  obtain ⟨sl', q'⟩ := (kv₄ b _ nb' p2).2
                  exact ⟨sl', (hs₅.2 b hb).trans q'⟩
                · have hb : b ≠ C := fun z => by rw [z, hCs] at e; cases e
                  obtain ⟨o', e', n'⟩ := (k2.nf.trans nf₄) b o e nf
                  exact ⟨o', (hs₅.2 b hb).trans e', n'⟩
              · exact P.elim
end
end Mine
end
section
open PySem PySem.W PyProof.Rows
set_option linter.unusedVariables false
set_option linter.unusedSectionVars false
set_option maxHeartbeats 2000000
namespace Mine

theorem Nx.mark {c : Cx} {A : Around} {x : Option Value} {ns : List Str} {env : Env} {fe : FE} {st st' : Fs} {H H' : Hd} {s s' : Shared} (N : Nx c (A.mark x) ns env fe st H s st' H' s') : Nx c A ns env fe st H s st' H' s' := ⟨N.rest, N.lv, N.hid, N.kv, N.nf, N.mx, N.fm, N.len, N.lo, N.n0⟩
theorem Rt.mark {c : Cx} {A : Around} {x : Option Value} {ns : List Str} {env : Env} {fe : FE} {st : Fs} {s s' : Shared} {σ' : Store} {w : Value} {v : AV} (N : Rt c (A.mark x) ns env fe st s σ' w v s') : Rt c A ns env fe st s σ' w v s' := ⟨N.rest, N.lv, N.nf, N.back⟩

theorem rep_not_hidden {h : Heap} {H : Hd} {b : Addr} : ∀ {x : AV}, (∀ n, x ≠ .ptr n) → (∀ k ys, x ≠ .itr k ys) → x ≠ .any → Rep (vis h H) (.ref b) x → ¬ H.p b ∧ ∃ o, h.get? b = some o
  | .none, _, _, _, r => by simp [Rep] at r
  | .bool _, _, _, _, r => by simp [Rep] at r
  | .int _, _, _, _, r => by simp [Rep] at r
  | .float _, _, _, _, r => by simp [Rep] at r
  | .str _, _, _, _, r => by simp [Rep] at r
  | .bytes _, _, _, _, r => by simp [Rep] at r
  | .type _, _, _, _, r => by simp [Rep] at r
  | .fn _, _, _, _, r => by simp [Rep] at r
  | .ptr n, h, _, _, _ => absurd rfl (h n)
  | .itr k ys, _, h, _, _ => absurd rfl (h k ys)
  | .any, _, _, h, _ => absurd rfl h
  | .range _ _ _, _, _, _, r => by
    simp only [Rep] at r
    obtain ⟨_, _, _, _, e, v⟩ := r
    cases e; exact ⟨v.1, let ⟨o, q, _⟩ := v.2; ⟨o, q⟩⟩
  | .dict _, _, _, _, r => by
    simp only [Rep] at r
    obtain ⟨_, _, _, e, v, _⟩ := r
    cases e; exact ⟨v.1, let ⟨o, q, _⟩ := v.2; ⟨o, q⟩⟩
  | .set _ _, _, _, _, r => by
    simp only [Rep] at r
    obtain ⟨_, _, _, _, e, v, _⟩ := r
    cases e; exact ⟨v.1, let ⟨o, q, _⟩ := v.2; ⟨o, q⟩⟩
  | .tup _, _, _, _, r => by
    simp only [Rep] at r
    obtain ⟨_, _, _, _, e, v, _⟩ := r
    cases e; exact ⟨v.1, let ⟨o, q, _⟩ := v.2; ⟨o, q⟩⟩
  | .lst _, _, _, _, r => by
    simp only [Rep] at r
    obtain ⟨_, _, _, _, e, v, _⟩ := r
    cases e; exact ⟨v.1, let ⟨o, q, _⟩ := v.2; ⟨o, q⟩⟩

theorem ometh_slot : ∀ (m : OMI), Slot "list" (Str.ofString m.name) ("list." ++ m.name)
  | .append => slot_list_append
  | .insert => PySem.F.slot_list_insert
  | .remove => PySem.F.slot_list_remove
theorem ometh_type : ∀ (m : OMI), typeOf (.builtin ("list." ++ m.name)) = pure (.type "method_descriptor")
  | .append => by with_unfolding_all rfl
  | .insert => PySem.F.type_list_insert
  | .remove => PySem.F.type_list_remove

section
variable {c : Cx} {A : Around} {ns : List Str} {env : Env} {fe : FE} {H H₁ : Hd} {s s₁ : Shared}

end

theorem owned_go {M : Model} {A : Around} {E : Value → Shared → Prop} {s : Shared} {tgt : Expr} {I : Addr} {v : Value} {o : Obj} {n : String} {Q : Unit → Shared → Prop} (ho : s.heap.get? I = some o) (hc : o.cls = .type n)
    (hn : ["enumerate", "zip", "dict_itemiterator", "dict_reverseitemiterator", "odict_iterator", "itertools.zip_longest", "itertools.pairwise"].contains n = false) (h : Q () s) : wpAny M A (letOwnedTupleGo tgt (.ref I) v) Q E s := by
  have core : ∀ a, wpAny M A (do
      let o ← load I
      match o.cls, o.data with
      | .type n, .fields vs =>
        if ["enumerate", "zip", "dict_itemiterator", "dict_reverseitemiterator", "odict_iterator", "itertools.zip_longest", "itertools.pairwise"].contains n && vs[0]? == some (rawInt a) then
          rule "for.unpacks-the-owned-tuple"
          updateField I 0 .none
      | _, _ => pure () : Sem Unit) Q E s := fun a => by
    refine wpAny_bind (wpAny_load ho ?_)
    rw [hc]
    split
    · rename_i n' vs e1 e2
      cases e1
      rw [hn, Bool.false_and, if_neg (by decide)]
      exact wpAny_pure h
    · exact wpAny_pure h
  unfold letOwnedTupleGo
  cases tgt <;> first | exact wpAny_pure h | (cases v <;> first | exact wpAny_pure h | exact core _)

section
variable {c : Cx} {O : OpsF} (OK : OpsOk c O) {k : Nat}
include OK
/-- a loop -/
theorem for_core {A : Around} {s : Shared} {H : Hd} {fe : FE} {env : Env} {ns : List Str} {st : Fs} {v : AV} {σ : Store} {l : List AV} {tgt it : Expr} {body' : List Stmt} {pos : Pos} {f : AV → Fs → FR} {Q : Flow → Shared → Prop} {E : Value → Shared → Prop}
    (hm : Rm c true (k + 1) A s.heap) (F : Fm c (FrA A) ns env st fe H s.heap) (hlen : st.ρ.length = ns.length) (hns : ∀ x, foldedSetIterable it env x = pure x) (T : Ev c true A st.lo st.σ H (eval it env) (.ok (.av v) σ) s) (hi : O.items v = some l)
    (P : PostS c true A ns env fe st H (forF f l (st.at σ)) s Q E)
    (turn' : ∀ item w st' H' s', Nf s.heap s'.heap → Fm c (FrA A) ns env st' fe H' s'.heap → st'.ρ.length = ns.length → Rep (vis s'.heap H') w item → f item st' ≠ .stuck → ∀ (Q' : Unit → Shared → Prop) (E' : Value → Shared → Prop),
      (∀ st₃ H₃ s₃, Nx c A ns env fe st' H' s' st₃ H₃ s₃ → (∀ Q E, PostS c true A ns env fe st₃ H₃ (f item st') s₃ Q E → wpAny c.M A (execs body' env) Q E s₃) → Q' () s₃) → wpAny c.M A (assign tgt env w) Q' E' s') :
    wpAny c.M A (exec (.For tgt it body' [] pos) env) Q E s := by
  refine wpAny_For (T _ _ fun va H₁ s₁ x₁ r₁ => ?_) hns
  have N0 := Nx.of_ss F hlen x₁
  have F₁ := N0.fm
  have P₁ := P.nx N0
  have r₁ : Rep (vis s₁.heap H₁) va v := r₁
  refine OK.items (hm.nf x₁.nf) rfl F₁.hlt (.of r₁) hi _ _ fun I fp PP St h' tk hk hI hfI hl hfp hsz W hst hP => ?_
  have hIfe : fe.h.get? I = none := by
    cases q : fe.h.get? I with
    | none => rfl
    | some o =>
      obtain ⟨o', e'⟩ := F₁.keep.nw (fun b w => F₁.hlt b (F₁.hle b (F₁.wsub b w))) q
      rw [hI] at e'; cases e'
  have hHI : ¬ H₁.p I := fun z => by
    obtain ⟨o', e'⟩ := F₁.hlt I z
    rw [hI] at e'; cases e'
  have vnot : ∀ b, va = .ref b → ¬ H₁.p b ∧ ∃ o, s₁.heap.get? b = some o := fun b e => by
    subst e
    exact rep_not_hidden (OK.itemsR hi).1 (OK.itemsR hi).2.1 (OK.itemsR hi).2.2 r₁
  have kpI : Kp A s₁ { s₁ with heap := h', toks := tk } := ⟨h', tk, rfl, Kh.of_keeps hk⟩
  have N0 : Nx c A ns env fe (st.at σ) H₁ s₁ (st.at σ) H₁ { s₁ with heap := h', toks := tk } := Nx.of_kp F₁ hlen kpI
  refine codeAny_forLoop_any (fun m s' => ∃ j st' H', m = l.length + 1 - j ∧ j ≤ l.length ∧ Nx c A ns env fe (st.at σ) H₁ s₁ st' H' s' ∧ ¬ H'.p I ∧ St j s'.heap ∧
    PostS c true A ns env fe (st.at σ) H₁ (forF f (l.drop j) st') s₁ Q E) ?_ (l.length + 1)
    ⟨0, st.at σ, _, rfl, Nat.zero_le _, N0, hHI, hst, by simpa using P₁⟩
  rintro m s' ⟨j, st', H', rfl, hj, N, hHI', hst', P'⟩
  obtain ⟨oI, fsI, eI, dI, cI⟩ := W.fld j _ hst'
  obtain ⟨hs', ts', rfl⟩ := N.rest
  dsimp only at *
  have back : ∀ {h₂ tk₂}, (∀ b o, b ≠ I → hs'.get? b = some o → h₂.get? b = some o) → Nx c A ns env fe (st.at σ) H₁ s₁ st' H' { s₁ with heap := h₂, toks := tk₂ } := fun {h₂ tk₂} hk₂ => by
    have F₂ := N.fm.touchV (a := I) (h' := h₂) hk₂ hIfe eI dI cI hHI'
    exact ⟨⟨_, _, rfl⟩, fun b o e => by
      have hb : b ≠ I := fun z => by rw [z, hI] at e; cases e
      obtain ⟨o', e'⟩ := N.lv b o e
      exact ⟨o', hk₂ b o' hb e'⟩, N.hid, fun b o nb e => by
      have hb : b ≠ I := fun z => by rw [z, hI] at e; cases e
      obtain ⟨p1, sl, p2⟩ := N.kv b o nb e
      exact ⟨fun f => hk₂ b _ hb (p1 f), sl, hk₂ b _ hb p2⟩, fun b o e nf => by
      have hb : b ≠ I := fun z => by rw [z, hI] at e; cases e
      obtain ⟨o', e', n'⟩ := N.nf b o e nf
      exact ⟨o', hk₂ b o' hb e', n'⟩, N.mx, F₂, N.len, N.lo, N.n0⟩
  by_cases hlt : j < l.length
  · obtain ⟨item, hitem⟩ : ∃ y, l[j]? = some y := ⟨l[j], by simp [hlt]⟩
    have hdrop : l.drop j = item :: l.drop (j + 1) := by
      rw [List.drop_eq_getElem_cons hlt]
      have : l[j] = item := by rw [List.getElem?_eq_getElem hlt] at hitem; exact Option.some.inj hitem
      rw [this]
    rw [hdrop] at P'
    simp only [forF] at P'
    refine W.item j _ _ _ hlt hst' fun vi h₂ tk₂ hPv hst₂ hk₂ hI₂ => ?_
    dsimp only
    have N₂ := back (tk₂ := tk₂) hk₂
    obtain ⟨oI₂, fsI₂, eI₂, dI₂, cI₂⟩ := W.fld (j + 1) _ hst₂
    have rit : Rep (vis h₂ H') vi item := Rep.mono N₂.vis (hP j vi item hPv hitem)
    obtain ⟨oN, nN, eN, cN, hN⟩ := W.nt (j + 1) _ hst₂
    refine owned_go eN cN hN ?_
    refine turn' item vi st' H' { s₁ with heap := h₂, toks := tk₂ } (x₁.nf.trans N₂.nf) N₂.fm N₂.len rit (fun z => by rw [z] at P'; exact P') _ _ fun st₃ H₃ s₃ N₃ IH => ?_
    have N13 := N₂.trans N₃
    have nextI : ∀ st₄ H₄ s₄, Nx c A ns env fe st₃ H₃ s₃ st₄ H₄ s₄ → PostS c true A ns env fe (st.at σ) H₁ (forF f (l.drop (j + 1)) st₄) s₁ Q E →
        ∃ m, m < l.length + 1 - j ∧ ∃ j st' H', m = l.length + 1 - j ∧ j ≤ l.length ∧ Nx c A ns env fe (st.at σ) H₁ s₁ st' H' s₄ ∧ ¬ H'.p I ∧ St j s₄.heap ∧
          PostS c true A ns env fe (st.at σ) H₁ (forF f (l.drop j) st') s₁ Q E := by
      intro st₄ H₄ s₄ N₄ P₄
      have N24 := N₃.trans N₄
      refine ⟨l.length + 1 - (j + 1), by omega, j + 1, st₄, H₄, rfl, hlt, N13.trans N₄, fun z => ?_, W.frame _ _ _ hst₂ fun b o hb e => ?_, P₄⟩
      · rcases N24.hid I z with z | z
        · exact hHI' z
        · dsimp only at z; rw [eI₂] at z; cases z
      · have nb : ¬ H'.p b := fun z => ?_
        exact ⟨fun hf => (N24.kv b o nb e).1 (.inr hf), (N24.kv b o nb e).2⟩
        rcases hfp b hb with rfl | hv'
        · exact hHI' z
        · obtain ⟨q1, o', q2⟩ := vnot b hv'
          rcases N.hid b z with z | z
          · exact q1 z
          · rw [q2] at z; cases z
    cases hb : f item st' with
    | next st₄ => rw [hb] at IH P'; exact IH _ _ fun H₄ s₄ N₄ => nextI st₄ H₄ s₄ N₄ P'
    | cont st₄ => rw [hb] at IH P'; exact IH _ _ fun H₄ s₄ N₄ => nextI st₄ H₄ s₄ N₄ P'
    | brk st₄ => rw [hb] at IH P'; exact IH _ _ fun H₄ s₄ N₄ => P' _ _ (N13.trans N₄)
    | ret v σ' => rw [hb] at IH P'; exact IH _ _ (P'.nx (fr := .ret v σ') N13)
    | exc _ _ => rw [hb] at P'; exact P'.elim
    | stuck => rw [hb] at P'; exact P'.elim
  · have hjl : j = l.length := by omega
    subst hjl
    rw [List.drop_length] at P'
    simp only [forF] at P'
    exact W.done _ _ _ hst' fun h₂ tk₂ hk₂ => wpAny_execs_nil (P' H' _ (back hk₂))
end
end Mine
end
section
open PySem PySem.W PyProof.Rows
set_option linter.unusedVariables false
set_option linter.unusedSectionVars false
set_option maxHeartbeats 4000000
namespace Mine

theorem ownOf_eq {st : Fs} {i : Nat} {xs : List AV} (h : ownOf st i = some xs) : st.ρ[i]? = some (some (.own xs)) := by
  unfold ownOf at h
  split at h
  · rename_i ys e; cases h; exact e
  · cases h

section
variable {c : Cx} {O : OpsF} (OK : OpsOk c O) {k : Nat} {cal : Cal} {fname : Nat → Str} (CO : CallsOk c k cal fname) {frees : List Str} (hfree : ∀ x ∈ frees, c.mg x = none)
include OK CO hfree

theorem ometh_ok {A : Around} {s : Shared} {H : Hd} {fe : FE} {env : Env} {ks : List (Str × NameKind)} {ns : List Str} {st : Fs} {xs : PEs} {m : OMI} {fz : Option Nat} {i : Nat} {sm : Stmt} {Q : Flow → Shared → Prop} {E : Value → Shared → Prop}
    (he : encS frees fname ks ns (.ometh i m xs fz) sm = true) (hks : env.scope.names = ks) (hm : Rm c true (k + 1) A s.heap) (F : Fm c (FrA A) ns env st fe H s.heap) (hlen : st.ρ.length = ns.length) (P : PostS c true A ns env fe st H (omethF O st i m (pes O cal true st xs)) s Q E) : wpAny c.M A (exec sm env) Q E s := by
  simp only [encS] at he
  obtain ⟨ex', pos, rfl, hz⟩ := onS_expr he
  replace he := hz; clear hz
  obtain ⟨o', n, apos, es, pos', rfl, hz⟩ := onMC_eq he
  replace he := hz; clear hz
  obtain ⟨x, px', rfl, hz⟩ := onE_name he
  replace he := hz; clear hz
  simp only [Bool.and_eq_true, Bool.not_eq_true', beq_iff_eq, decide_eq_true_eq] at he
  obtain ⟨⟨⟨⟨⟨⟨hx, hdb⟩, rfl⟩, hline⟩, hl20⟩, hemp⟩, hes⟩ := he
  obtain ⟨h1, h2, h3⟩ := nameAt_of hks hx
  refine wpAny_Expr_any ?_ (by unfold interactive; rw [F.kind]; rfl) rfl
  unfold omethF at P
  split at P
  case h_2 => exact P.elim
  rename_i ol σ hpes
  split at P
  case h_2 => exact P.elim
  rename_i l zs hpl hown
  split at P
  case h_2 => exact P.elim
  rename_i zs' hom
  have hρ := ownOf_eq hown
  obtain ⟨v, nv, hz, a, vs, rfl, ho, hisl, rr⟩ := F.vals i x _ h1 hρ
  obtain ⟨od, nd, ed, cd, dd, fd⟩ := id hisl
  refine wpAny_Call_method_lateS rfl (star_all hes hl20) (by simpa using hline) (wpAny_Name (nv.load F.kind ?_) hdb)
  have hTy : s.TypeIs (.ref a) "list" := hisl.isList.typeIs
  refine ⟨"list", "list." ++ m.name, emeth_plain, ometh_slot m, ometh_type m, hTy, fun b e => (by cases e; exact ⟨od, ed, fd⟩), ?_⟩
  refine Calls.callWith_builtin (star_plain (pos := pos') (env := env) hes) ?_
  cases es with
  | nil => simp at hemp
  | cons e es =>
    have hst : starEach (e :: es) env = (false, eval e env) :: starEach es env := starEach_cons (encEs_head hes)
    have S : wpAny c.M A (spliced (backTo pos' (starEach (e :: es) env))) (fun vs s' => wpAny c.M A (PySem.call (.builtin ("list." ++ m.name)) ([.ref a] ++ vs) []) (fun _ => Q .next) E s') E s := by
      refine pes_sound OK CO hfree xs hes hks hm F hlen ol σ hpes _ _ fun ws H₁ s₁ x₁ r₁ => ?_
      have N₁ := Nx.of_ss F hlen x₁
      have F₁ := N₁.fm
      obtain ⟨v', nv', _, a', vs', ev', ho', hisl', rr'⟩ := F₁.vals i x _ h1 hρ
      have ho1 : H₁.o i = some a := by rw [x₁.o]; exact ho
      rw [ho1] at ho'; cases ho'
      refine OK.ometh rfl (hm.nf x₁.nf) F₁.hlt hisl' hz rr' (plains_rep r₁ hpl) hom _ _ fun h' vs'' tk hl' hz' r' hs' => ?_
      exact P H₁ _ (nx_turn N₁ hρ ho1 hl' hz' r' hs')
    rw [hst] at S ⊢
    exact Calls.evalArgs_plain S

mutual
theorem px_sound : ∀ (p : PS) {q : Bool} {ks : List (Str × NameKind)} {ns : List Str} {st : Fs} {sm : Stmt} {env : Env}, encS frees fname ks ns p sm = true → env.scope.names = ks → env.frame = some env.locals → StOk c q k ns env st (exec sm env) (px O cal q st p)
  | .expr e, q, ks, ns, st, sm, env, he, hks, hef => fun A s fe H hm hA F hlen Q E P => by
    simp only [encS] at he
    obtain ⟨ex, pos, rfl, hz⟩ := onS_expr he
    replace he := hz; clear hz
    simp only [Bool.and_eq_true, Bool.not_eq_true'] at he
    simp only [px] at P
    refine wpAny_Expr_any ?_ (by unfold interactive; rw [F.kind]; rfl) (swaps_no he.1 he.2 _ _ _)
    exact PostS.resK F hlen (pe_sound OK CO hfree e he.1 hks hm F hlen).v P fun v σ₁ _ w H₁ s₁ N₁ _ P₁ => P₁ H₁ s₁ (Nx.of_kp N₁.fm N₁.len (Kp.refl _ _))
  | .assign i e, q, ks, ns, st, sm, env, he, hks, hef => fun A s fe H hm hA F hlen Q E P => by
    simp only [encS] at he
    obtain ⟨x, px', ex, pos, rfl, hz⟩ := onA1_eq he
    replace he := hz; clear hz
    all_goals
      simp only [Bool.and_eq_true] at he
      simp only [px] at P
      exact assign_val OK CO hfree hks hm F hlen he.1 he.2 P
  | .ownl i xs, q, ks, ns, st, sm, env, he, hks, hef => fun A s fe H hm hA F hlen Q E P => by
    simp only [encS] at he
    obtain ⟨x, px', ex', pos, rfl, hz⟩ := onA1_eq he
    replace he := hz; clear hz
    obtain ⟨es, pos', rfl, hz⟩ := onE_list he
    replace he := hz; clear hz
    all_goals
      simp only [Bool.and_eq_true] at he
      obtain ⟨h1, h2, h3⟩ := nameAt_of hks he.1
      simp only [px] at P
      split at P
      case h_2 => exact P.elim
      rename_i ol σ hpes
      split at P
      case h_2 => exact P.elim
      rename_i l hpl
      split at P
      case isFalse => exact P.elim
      rename_i hl100
      refine wpAny_Assign_Name ?_ rfl
      refine wpAny_List_spliced (pes_sound OK CO hfree xs he.2 hks hm F hlen ol σ hpes _ _ fun vs H₁ s₁ x₁ r₁ => ?_)
      have r₁ := plains_rep r₁ hpl
      refine ⟨by rw [r₁.length]; exact line_ok (by omega), ?_⟩
      exact nx_own (Nx.of_ss F hlen x₁) (Kp.push _) h1 h3 h2 (by omega) (Heap.get?_none_of_le (Nat.le_refl _)) ⟨_, _, Heap.get?_push_size _ rfl, rfl, rfl, rfl⟩ r₁ fun H' s' N => P H' s' N
  | .aug i op e, q, ks, ns, st, sm, env, he, hks, hef => fun A s fe H hm hA F hlen Q E P => by
    simp only [encS] at he
    obtain ⟨t', op', ex, pos, rfl, hz⟩ := onS_aug he
    replace he := hz; clear hz
    obtain ⟨x, px', rfl, hz⟩ := onE_name he
    replace he := hz; clear hz
    simp only [Bool.and_eq_true, Bool.not_eq_true', beq_iff_eq] at he
    obtain ⟨⟨⟨hx, hdb⟩, rfl⟩, hex⟩ := he
    obtain ⟨h1, h2, h3⟩ := nameAt_of hks hx
    simp only [px] at P
    split at P
    case h_2 => exact P.elim
    rename_i a σ0 b σ hs hv
    have hρ : st.ρ[i]? = some (some (.val a)) := by
      unfold slotV at hs
      split at hs
      · rename_i v hv'; cases hs; exact hv'
      · cases hs
      · cases hs
    obtain ⟨v, nv, rv⟩ := F.vals i x _ h1 hρ
    have T := (pe_sound OK CO hfree e hex hks hm F hlen).v
    rw [hv] at T
    refine wpAny_AugAssign_Name (nv.load F.kind (T _ _ fun w H₁ s₁ x₁ r₁ => ?_))
    have N₁ := Nx.of_ss F hlen x₁
    have F₁ := N₁.fm
    have rv' : Rep (vis s₁.heap H₁) v a := Rep.mono (x₁.vis F.sto) rv
    have U := OK.inpl (op := op) (hm.nf x₁.nf) F₁.hlt (RepO.deref F₁.sto rv') (RepO.derefS F₁ hlen r₁)
    have U' := Ev.of_tr (lo := st.lo) F₁.sto F₁.hlt U
    have eS : ∀ (r : ER) (f : AV → Fs → FR), resS r st f = resS r (st.at σ) f := fun r f => by
      cases r with
      | ok v σ₂ => cases v <;> rfl
      | exc x σ₂ => rfl
      | stuck => rfl
    rw [eS] at P
    exact PostS.resK (st := st.at σ) F₁ hlen U' (P.nx N₁) fun v σ₂ _ w H₂ s₂ N₂ r₂ P₂ => nx_store N₂ h1 h3 h2 r₂ fun s' N N' => P₂ H₂ s' N'
  | .ometh i m xs fz, q, ks, ns, st, sm, env, he, hks, hef => fun A s fe H hm hA F hlen Q E P => by
    simp only [px] at P
    cases q with
    | false => exact P.elim
    | true =>
    cases fz with
    | none => exact ometh_ok OK CO hfree he hks hm F hlen P
    | some j =>
      simp only at P
      split at P
      · rename_i ys hj
        have hj := ownOf_eq hj
        obtain ⟨y, hy⟩ : ∃ y, ns[j]? = some y := by
          have : j < st.ρ.length := by
            rcases Nat.lt_or_ge j st.ρ.length with h | h
            · exact h
            · rw [List.getElem?_eq_none h] at hj; cases hj
          exact ⟨ns[j]'(by omega), by simp⟩
        obtain ⟨H', hH', hM', F'⟩ := F.freeze hy hj
        have N : Nx c A ns env fe st H s (st.set j (.val (.lst ys))) H' s := ⟨⟨_, _, rfl⟩, fun b o e => ⟨o, e⟩, fun b z => .inl (hH' b z), Kv.refl _ _ _, fun b o e nf => ⟨o, e, nf⟩, fun n a e => by rw [hM']; exact e, F', by simpa using hlen, rfl, rfl⟩
        exact ometh_ok OK CO hfree (fz := some j) he hks hm F' N.len (P.nx N)
      · exact P.elim
  | .ite t a b, q, ks, ns, st, sm, env, he, hks, hef => fun A s fe H hm hA F hlen Q E P => by
    simp only [encS] at he
    obtain ⟨t', a', b', pos, rfl, hz⟩ := onS_iff he
    replace he := hz; clear hz
    simp only [Bool.and_eq_true] at he
    obtain ⟨⟨h1, h2⟩, h3⟩ := he
    have T := (pe_sound OK CO hfree t h1 hks hm F hlen).t
    simp only [px] at P
    split at P
    · rename_i σ ht
      exact wpAny_If (T _ _ ht _ _ fun H₁ s₁ x₁ => pxs_sound a h2 hks hef A s₁ fe H₁ (hm.nf x₁.nf) hA (F.ss x₁) hlen Q E (P.nx (Nx.of_ss F hlen x₁)))
    · rename_i σ ht
      exact wpAny_If (T _ _ ht _ _ fun H₁ s₁ x₁ => pxs_sound b h3 hks hef A s₁ fe H₁ (hm.nf x₁.nf) hA (F.ss x₁) hlen Q E (P.nx (Nx.of_ss F hlen x₁)))
    · exact P.elim
  | .for_ i src body, q, ks, ns, st, sm, env, he, hks, hef => fun A s fe H hm hA F hlen Q E P => by
    simp only [encS] at he
    obtain ⟨t', it, body', els, pos, rfl, hz⟩ := onS_fo he
    replace he := hz; clear hz
    obtain ⟨x, px', rfl, hz⟩ := onE_name he
    replace he := hz; clear hz
    obtain ⟨rfl, hz⟩ := nil?_eq he
    replace he := hz; clear hz
    all_goals
      simp only [Bool.and_eq_true, Bool.not_eq_true'] at he
      obtain ⟨⟨⟨hx, h0⟩, h4⟩, h5⟩ := he
      obtain ⟨h1, h2, h3⟩ := nameAt_of hks hx
      simp only [px] at P
      split at P
      case h_2 => exact P.elim
      rename_i v σ hv
      have T := (pe_sound OK CO hfree src h4 hks hm F hlen).v
      rw [hv] at T
      split at P
      case h_2 => exact P.elim
      rename_i l hi
      refine for_core OK hm F hlen (encE_notSet h4 h0 env) T hi (f := fun x st => pxs O cal true (st.set i (.val x)) body) P ?_
      intro item w st' H' s' hnf F' hl' r _ Q' E' h
      refine wpAny_assign_Name (nx_store (Nx.of_kp F' hl' (Kp.refl _ _)) h1 h3 h2 r fun s₃ N13 N3 => ?_)
      exact h _ H' s₃ N3 fun Q E P => pxs_sound body h5 hks hef A s₃ fe H' (hm.nf (hnf.trans N3.nf)) hA N3.fm N3.len Q E P
  | .while_ n t body, q, ks, ns, st, sm, env, he, hks, hef => fun A s fe H hm hA F hlen Q E P => by
    simp only [encS] at he
    obtain ⟨t', body', els, pos, rfl, hz⟩ := onS_wh he
    replace he := hz; clear hz
    obtain ⟨rfl, hz⟩ := nil?_eq he
    replace he := hz; clear hz
    all_goals
      simp only [Bool.and_eq_true] at he
      obtain ⟨h1, h2⟩ := he
      simp only [px] at P
      refine wpAny_While ?_
      refine codeAny_whileLoop (fun m s' => ∃ st' H', Nx c A ns env fe st H s st' H' s' ∧ PostS c q A ns env fe st H (whileF (fun st => (pe O cal q st t).t) (fun st => pxs O cal q st body) m st') s Q E) ?_ n ⟨st, H, Nx.of_kp F hlen (Kp.refl _ _), P⟩
      rintro m s' ⟨st', H', N, P'⟩
      cases m with
      | zero => exact P'.elim
      | succ m =>
        have hm' := hm.nf N.nf
        have T := (pe_sound OK CO hfree t h1 hks hm' N.fm N.len).t
        simp only [whileF] at P'
        split at P'
        · rename_i σ ht
          refine T _ _ ht _ _ fun H₁ s₁ x₁ => ?_
          have N₁ := N.trans (Nx.of_ss N.fm N.len x₁)
          simp only [if_true]
          refine pxs_sound body h2 hks hef A s₁ fe H₁ (hm'.nf x₁.nf) hA N₁.fm N₁.len _ _ ?_
          cases hb : pxs O cal q (st'.at σ) body with
          | next st₂ => rw [hb] at P'; exact fun H₂ s₂ N₂ => ⟨m, by omega, st₂, H₂, N₁.trans N₂, P'⟩
          | cont st₂ => rw [hb] at P'; exact fun H₂ s₂ N₂ => ⟨m, by omega, st₂, H₂, N₁.trans N₂, P'⟩
          | brk st₂ => rw [hb] at P'; exact fun H₂ s₂ N₂ => P' _ _ (N₁.trans N₂)
          | ret v σ' => rw [hb] at P'; exact (P'.nx (fr := .ret v σ') N₁)
          | exc _ _ => rw [hb] at P'; exact P'.elim
          | stuck => rw [hb] at P'; exact P'.elim
        · rename_i σ ht
          refine T _ _ ht _ _ fun H₁ s₁ x₁ => ?_
          have N₁ := N.trans (Nx.of_ss N.fm N.len x₁)
          simp only [Bool.false_eq_true, if_false]
          exact wpAny_execs_nil (P' _ _ N₁)
        · exact P'.elim
  | .ret e, q, ks, ns, st, sm, env, he, hks, hef => fun A s fe H hm hA F hlen Q E P => by
    simp only [encS] at he
    obtain ⟨o', pos, rfl, hz⟩ := onS_ret he
    replace he := hz; clear hz
    obtain ⟨ex, rfl, hz⟩ := opt?_eq he
    replace he := hz; clear hz
    simp only [px] at P
    refine wpAny_Return_some (PostS.resK F hlen (pe_sound OK CO hfree e he hks hm F hlen).v P fun v σ₁ _ w H₁ s₁ N₁ r₁ P₁ => ?_)
    exact P₁ w s₁ (N₁.fm.rt r₁)
  | .retOwn i, q, ks, ns, st, sm, env, he, hks, hef => fun A s fe H hm hA F hlen Q E P => by
    simp only [encS] at he
    obtain ⟨o', pos, rfl, hz⟩ := onS_ret he
    replace he := hz; clear hz
    obtain ⟨ex, rfl, hz⟩ := opt?_eq he
    replace he := hz; clear hz
    obtain ⟨x, px', rfl, hz⟩ := onE_name he
    replace he := hz; clear hz
    simp only [Bool.and_eq_true, Bool.not_eq_true', beq_iff_eq] at he
    simp only [px] at P
    split at P
    case h_2 => exact P.elim
    rename_i xs hown
    obtain ⟨v, n, z, a, vs, rfl, ho, l, r⟩ := F.vals i x _ he.1 (ownOf_eq hown)
    obtain ⟨p, qq, nm, _⟩ := F.own i a ho
    refine wpAny_Return_some (wpAny_Name (n.load F.kind (P _ s ⟨⟨_, _, rfl⟩, fun b o e => ⟨o, e⟩, fun b o e n => ⟨o, e, n⟩, st, H, rfl, rfl, rfl, F, ?_⟩)) he.2)
    simp only [Rep]
    obtain ⟨o, n', e', c1, d1, f1⟩ := l
    refine ⟨z, a, vs, n', rfl, ⟨fun y => ?_, o, e', c1, d1, f1, .inl rfl, fun ⟨_, z⟩ => by cases z⟩, RepL.mono (vis_hide (H := retH fe st.n0 H) (H' := H) (fun b z => by
      rcases z with z | ⟨n, _, e⟩
      · exact F.hle b z
      · exact F.sto.hidden e) fun _ _ e => e) r⟩
    rcases y with y | ⟨m, _, e⟩
    · obtain ⟨o', e''⟩ := F.felt a y
      rw [qq] at e''; cases e''
    · exact nm m e
  | .brk, q, ks, ns, st, sm, env, he, hks, hef => fun A s fe H hm hA F hlen Q E P => by
    simp only [encS] at he
    obtain ⟨pos, rfl⟩ := onS_brk he
    exact wpAny_Break (P _ _ (Nx.of_kp F hlen (Kp.refl _ _)))
  | .cont, q, ks, ns, st, sm, env, he, hks, hef => fun A s fe H hm hA F hlen Q E P => by
    simp only [encS] at he
    obtain ⟨pos, rfl⟩ := onS_cont he
    exact wpAny_Continue (P _ _ (Nx.of_kp F hlen (Kp.refl _ _)))
  | .try_ body hs, q, ks, ns, st, sm, env, he, hks, hef => fun A s fe H hm hA F hlen Q E P => by
    simp only [encS] at he
    obtain ⟨body', hs', els, fin, pos, rfl, hz⟩ := onS_tr he
    replace he := hz; clear hz
    obtain ⟨rfl, hz⟩ := nil?_eq he
    replace he := hz; clear hz
    obtain ⟨rfl, hz⟩ := nil?_eq he
    replace he := hz; clear hz
    all_goals
      simp only [Bool.and_eq_true] at he
      obtain ⟨⟨h1, h2⟩, h3⟩ := he
      simp only [px] at P
      cases q with
      | false => exact P.elim
      | true =>
        simp only at P
        obtain ⟨outer, hA'⟩ := id hA
        have IH := pxs_sound body h1 hks hef (q := true) (st := st) A s fe H hm hA F hlen
        cases hs' with
        | nil => simp at h3
        | cons h0 hr =>
          refine wpAny_Try_except ?_
          cases hb : pxs O cal true st body with
          | exc x st' =>
            rw [hb] at P IH
            refine IH _ _ ⟨rfl, fun H' sr e s' N X => ?_⟩
            obtain ⟨ea, a0, rfl, hkp, _⟩ := id X
            have hm' := hm.nf N.nf
            obtain ⟨l, hl, ff⟩ := (hm'.kp hkp).frames
            rw [hA'] at hl; cases hl
            exact note_land X hA' hef ff fun s₃ fl => phs_sound hs h2 hks hef hm' hA' N.fm N.len fl (P.nx N)
          | next st' => rw [hb] at P IH; exact IH _ _ fun H' s' N => wpAny_execs_nil (P _ _ N)
          | brk st' => rw [hb] at P IH; exact IH _ _ P
          | cont st' => rw [hb] at P IH; exact IH _ _ P
          | ret v σ => rw [hb] at P IH; exact IH _ _ P
          | stuck => rw [hb] at P; exact P.elim
theorem pxs_sound : ∀ (p : PSs) {q : Bool} {ks : List (Str × NameKind)} {ns : List Str} {st : Fs} {sm : List Stmt} {env : Env}, encSs frees fname ks ns p sm = true → env.scope.names = ks → env.frame = some env.locals → StOk c q k ns env st (execs sm env) (pxs O cal q st p)
  | .nil, q, ks, ns, st, sm, env, he, hks, hef => fun A s fe H hm hA F hlen Q E P => by
    cases sm with
    | cons _ _ => simp [encSs] at he
    | nil => simp only [pxs] at P; exact wpAny_execs_nil (P _ _ (Nx.of_kp F hlen (Kp.refl _ _)))
  | .cons p r, q, ks, ns, st, sm, env, he, hks, hef => fun A s fe H hm hA F hlen Q E P => by
    cases sm with
    | nil => simp [encSs] at he
    | cons sm rest =>
      simp only [encSs, Bool.and_eq_true] at he
      refine wpAny_execs_cons (px_sound p he.1 hks hef A s fe H hm hA F hlen _ _ ?_)
      simp only [pxs] at P
      cases hp : px O cal q st p with
      | next st' => rw [hp] at P; exact fun H' s' N => pxs_sound r he.2 hks hef A s' fe H' (hm.nf N.nf) hA N.fm N.len Q E (P.nx N)
      | cont st' => rw [hp] at P; exact P
      | brk st' => rw [hp] at P; exact P
      | ret v σ => rw [hp] at P; exact P
      | exc x st' => rw [hp] at P; exact P
      | stuck => rw [hp] at P; exact P
theorem phs_sound : ∀ (p : PHs) {x : EX} {ks : List (Str × NameKind)} {ns : List Str} {st : Fs} {hs : List ExceptHandler} {env : Env} {outer : List Env} {e : Addr} {A : Around} {s sr : Shared} {fe : FE} {H : Hd} {Q : Flow → Shared → Prop} {E : Value → Shared → Prop},
    encHs frees fname ks ns p hs = true → env.scope.names = ks → env.frame = some env.locals → Rm c true (k + 1) A sr.heap → A.frames = some (env :: outer) → Fm c (FrA A) ns env st fe H sr.heap → st.ρ.length = ns.length → Fly A (env :: outer) sr e x s →
    PostS c true A ns env fe st H (phs O cal x st p) sr Q E → wpAny c.M A (handleBy (.ref e) env hs) Q E s
  | .nil, x, ks, ns, st, hs, env, outer, e, A, s, sr, fe, H, Q, E, he, hks, hef, hm, hA, F, hlen, fl, P => P.elim
  | .cons y body r, x, ks, ns, st, hs, env, outer, e, A, s, sr, fe, H, Q, E, he, hks, hef, hm, hA, F, hlen, fl, P => by
    simp only [encHs] at he
    obtain ⟨z, pz, b₀, suite, pos, r', rfl, hz⟩ := onHd_eq he
    replace he := hz; clear hz
    all_goals
      simp only [Bool.and_eq_true, beq_iff_eq, List.contains_iff_mem] at he
      obtain ⟨⟨⟨⟨h1, h2⟩, h3⟩, h4⟩, h5⟩ := he
      subst h1
      obtain ⟨g1, g2, g3⟩ := isGlob_of hks h2
      obtain ⟨B, a0, h, tk, hs0, hfl, kh, hB, hfr⟩ := id fl
      have kp : Kp A sr s := ⟨h, tk, hs0, kh⟩
      have Fs := F.kp kp
      have Fs' : Fm c (FrA (A.mark (some (.ref e)))) ns env st fe H s.heap := Fs
      have hfls : Heap.FlyingW B (env :: outer) e (.type x.name) a0 s.heap := by rw [hs0]; exact hfl
      have hBs : ∀ b o, s.heap.get? b = some o → (∃ o', sr.heap.get? b = some o') → b ∉ (env :: outer).filterMap (·.frame) → B.get? b = some o := by rw [hs0]; exact hB
      obtain ⟨ob, hob, hobc⟩ := hfls.there
      refine wpAny_handleBy_builtin (X := x.name) (T := y.name) (b := decide (x = y)) (EX.exc y) (EX.notTup y) (EX.sub x y) (ld_boot Fs' g1 g2 g3 (hfree _ h3) (EX.boot y) ⟨rfl, ⟨ob, hob, hobc⟩, ?_⟩)
      simp only [phs] at P
      by_cases hxy : x = y
      · rw [if_pos hxy] at P
        rw [if_pos (by simpa using hxy)]
        refine lands_againW hfls fun h₆ hfl₆ hsm₆ => ?_
        have kh₆ : Kh (FrA A) sr.heap h₆ := fly_kh kp hA hfls.2.2.1 hBs hfl₆.1 hsm₆
        have kp₆ : Kp A sr { s with heap := h₆ } := by rw [hs0]; exact ⟨h₆, tk, rfl, kh₆⟩
        have F₆ := F.kp kp₆
        have hm₆ := hm.kp kp₆
        have hmk : Rm c false (k + 1) (A.mark (some (.ref e))) h₆ := ⟨hm₆.depth, hm₆.units, fun q => by (cases q), hm₆.frames⟩
        have IH := pxs_sound body h4 hks hef (q := false) (st := st) (A.mark (some (.ref e))) { s with heap := h₆ } fe H hmk ⟨outer, hA⟩ F₆ hlen
        have Nk := Nx.of_kp F hlen kp₆
        have P' := P.nx Nk
        cases hb : pxs O cal false st body with
        | next st' => rw [hb] at P' IH; exact IH _ _ fun H' s' N => P' H' s' N.mark
        | brk st' => rw [hb] at P' IH; exact IH _ _ fun H' s' N => P' H' s' N.mark
        | cont st' => rw [hb] at P' IH; exact IH _ _ fun H' s' N => P' H' s' N.mark
        | ret v σ => rw [hb] at P' IH; exact IH _ _ fun w s' N => P' w s' N.mark
        | exc _ _ => rw [hb] at P'; exact P'.elim
        | stuck => rw [hb] at P'; exact P'.elim
      · rw [if_neg hxy] at P
        rw [if_neg (by simpa using hxy)]
        exact phs_sound r h5 hks hef hm hA F hlen fl P
end
end
end Mine
end
section
open PySem PySem.W PyProof.Rows
set_option linter.unusedVariables false
set_option linter.unusedSectionVars false
namespace Mine

theorem cellsFrom_keep : ∀ (names : List (Str × NameKind)) (n : Nat) (acc : List (Str × Addr)) (x : Str), (acc.lookup x).isSome = true → ((cellsFrom n names acc).lookup x).isSome = true
  | [], _, _, _, h => h
  | (m, kd) :: r, n, acc, x, h => by
    unfold cellsFrom
    split
    · refine cellsFrom_keep r _ _ x ?_
      rw [List.lookup_cons]
      cases hb : x == m with
      | true => rfl
      | false => exact h
    · exact cellsFrom_keep r _ _ x h
theorem cellsFrom_mem : ∀ (names : List (Str × NameKind)) (n : Nat) (acc : List (Str × Addr)) (x : Str), (x, NameKind.cell) ∈ names → ((cellsFrom n names acc).lookup x).isSome = true
  | [], _, _, _, h => by cases h
  | (m, kd) :: r, n, acc, x, h => by
    unfold cellsFrom
    rcases List.mem_cons.mp h with e | h
    · cases e
      rw [if_pos (by decide)]
      refine cellsFrom_keep r _ _ _ ?_
      simp [List.lookup_cons]
    · split
      · exact cellsFrom_mem r _ _ x h
      · exact cellsFrom_mem r _ _ x h

theorem bindL_out {kd : Str → Option NameKind} : ∀ (ns : List Str) (vs : List Value) (m : Str → Option Value) (x : Str), x ∉ ns → bindL kd (ns.zip vs) m x = m x
  | [], _, _, _, _ => rfl
  | _ :: _, [], _, _, _ => rfl
  | n :: ns, v :: vs, m, x, h => by
    simp only [List.zip_cons_cons, bindL]
    rw [bindL_out ns vs _ x fun q => h (List.mem_cons_of_mem _ q)]
    have : x ≠ n := fun q => h (q ▸ List.mem_cons_self ..)
    split <;> simp [this]
theorem bindL_in {kd : Str → Option NameKind} : ∀ (ns : List Str) (vs : List Value) (m : Str → Option Value) (i : Nat) (x : Str) (v : Value), ns.Nodup → ns[i]? = some x → vs[i]? = some v → kd x = some .local → bindL kd (ns.zip vs) m x = some v
  | [], _, _, _, _, _, _, h, _, _ => by simp at h
  | _ :: _, [], _, _, _, _, _, _, h, _ => by simp at h
  | n :: ns, w :: vs, m, i, x, v, nd, hx, hv, hk => by
    simp only [List.zip_cons_cons, bindL]
    cases i with
    | zero =>
      simp at hx hv
      subst hx; subst hv
      rw [bindL_out ns vs _ _ (List.nodup_cons.mp nd).1, if_pos hk]
      simp
    | succ i => simp at hx hv; exact bindL_in ns vs _ i x v (List.nodup_cons.mp nd).2 hx hv hk
theorem bindC_out {kd : Str → Option NameKind} : ∀ (ns : List Str) (vs : List Value) (m : Str → Option Value) (x : Str), x ∉ ns → bindC kd (ns.zip vs) m x = m x
  | [], _, _, _, _ => rfl
  | _ :: _, [], _, _, _ => rfl
  | n :: ns, v :: vs, m, x, h => by
    simp only [List.zip_cons_cons, bindC]
    rw [bindC_out ns vs _ x fun q => h (List.mem_cons_of_mem _ q)]
    have : x ≠ n := fun q => h (q ▸ List.mem_cons_self ..)
    split <;> simp [this]
theorem bindC_in {kd : Str → Option NameKind} : ∀ (ns : List Str) (vs : List Value) (m : Str → Option Value) (i : Nat) (x : Str) (v : Value), ns.Nodup → ns[i]? = some x → vs[i]? = some v → kd x ≠ some .local → bindC kd (ns.zip vs) m x = some v
  | [], _, _, _, _, _, _, h, _, _ => by simp at h
  | _ :: _, [], _, _, _, _, _, _, h, _ => by simp at h
  | n :: ns, w :: vs, m, i, x, v, nd, hx, hv, hk => by
    simp only [List.zip_cons_cons, bindC]
    cases i with
    | zero =>
      simp at hx hv
      subst hx; subst hv
      rw [bindC_out ns vs _ _ (List.nodup_cons.mp nd).1, if_neg hk]
      simp
    | succ i => simp at hx hv; exact bindC_in ns vs _ i x v (List.nodup_cons.mp nd).2 hx hv hk

/-- a def of the text -/
noncomputable def FnIs (c : Cx) (f : Str) (params : Arguments) (body : List Stmt) (scope : Scope) : Prop :=
  ∃ a o pm code doc, c.mg f = some (.ref a) ∧ c.h0.get? a = some o ∧ o.data = .func (Calls.docDef f params body scope pm code doc) ∧ c.h0.CodeRec code f
theorem FnIs.obj {c : Cx} {f : Str} {params : Arguments} {body : List Stmt} {scope : Scope} (h : FnIs c f params body scope) : FnObj c f := let ⟨a, o, _, _, _, h1, h2, h3, _⟩ := h; ⟨a, o, _, h1, h2, h3⟩

noncomputable def fnRes : FR → ER
  | .ret v σ => .ok (.av v) σ
  | .next st => .ok (.av .none) st.σ
  | .exc x st => .exc x st.σ
  | _ => .stuck
noncomputable def rho0 (args : List AV) (n : Nat) : List (Option Ent) := args.map (fun a => some (.val a)) ++ List.replicate (n - args.length) none
/-- a def's beginning -/
noncomputable def st0 (args : List AV) (n : Nat) (σ : Store) (lo : Nat) : Fs := ⟨rho0 args n, σ, lo, σ.length⟩

/-- what is looked at of a def's text -/
noncomputable def fnOk (frees : List Str) (fname : Nat → Str) (scope : Scope) (ns : List Str) (np : Nat) (p : PSs) (body : List Stmt) : Bool :=
  scope.kind == .function && !scope.isGenerator && !scope.isCoroutine && encSs frees fname scope.names ns p body && decide ((ns.take np).Nodup) && decide (np ≤ ns.length) && (ns.take np).all (fun x => scope.names.lookup x == some .local || scope.names.lookup x == some .cell)

/-- what the caller gets -/
theorem ret_ss {c : Cx} {A A' : Around} {ns : List Str} {env : Env} {st' : Fs} {σ : Store} {lo : Nat} {H H' : Hd} {s s' : Shared} (S : Sto σ H s.heap) (F : Fm c (FrA A') ns env st' ⟨s.heap, H, Wr σ H lo⟩ H' s'.heap) (hn : st'.n0 = σ.length) (hF : ∀ b o, s.heap.get? b = some o → FrA A' b → FrA A b)
    (rest : ∃ h' tk, s' = { s with heap := h', toks := tk }) (lv : ∀ b o, s.heap.get? b = some o → ∃ o', s'.heap.get? b = some o') (nf : Nf s.heap s'.heap) : Ss A lo σ H s st'.σ (retH ⟨s.heap, H, Wr σ H lo⟩ σ.length H') s' := by
  have sub : ∀ b, (retH ⟨s.heap, H, Wr σ H lo⟩ σ.length H').p b → H'.p b := fun b z => by
    rcases z with z | ⟨n, _, e⟩
    · exact F.hle b z
    · exact F.sto.hidden e
  have old : ∀ n b, n < σ.length → H'.m n = some b → H.m n = some b := fun n b l e => F.mold n b (by rw [hn]; exact l) e
  exact {
    rest := rest
    kv := fun b o n e => by
      obtain ⟨p1, p2⟩ := F.keep b o n e
      exact ⟨fun f => p1 (f.imp (fun f z => f (hF b o e z)) id), p2⟩
    lv := lv
    nf := nf
    hp := fun b z => .inl z
    hid := fun b z => by
      rcases z with z | ⟨n, l, e⟩
      · exact .inl z
      · exact .inr (F.mnew n b (by rw [hn]; exact l) e)
    mx := fun n b e => F.mle n b e
    mn := fun n b e => by
      rcases Nat.lt_or_ge n σ.length with l | l
      · exact .inl (old n b l e)
      · exact .inr ⟨l, F.mnew n b (by rw [hn]; exact l) e⟩
    o := rfl
    sto := ⟨fun n mo e => by
        obtain ⟨b, e1, r⟩ := F.sto.at' n mo e
        exact ⟨b, e1, r.kv (Kv.refl (fun _ => False) (fun _ => False) _) id (vis_hide (H := retH ⟨s.heap, H, Wr σ H lo⟩ σ.length H') (H' := H') sub fun _ _ e => e)⟩, F.sto.inj, F.sto.lt, fun n b mo _ e => by
        rcases Nat.lt_or_ge n σ.length with l | l
        · exact .inl (S.hidden (old n b l e))
        · exact .inr ⟨n, l, e⟩, F.sto.al, F.sto.tot⟩
    live := fun b z => F.hlt b (sub b z)
    len := by have := F.n0le; omega
    rv := fun n mo l e => by
      obtain ⟨b, e1, _⟩ := F.sto.at' n mo e
      exact S.tot n b (old n b l e1)
    hm0 := S.lt }

section
variable {c : Cx} {O : OpsF} (OK : OpsOk c O) {k : Nat} {cal : Cal} {fname : Nat → Str} (CO : CallsOk c k cal fname) {frees : List Str} (hfree : ∀ x ∈ frees, c.mg x = none)
include OK CO hfree

theorem code_of {f : Str} {params : Arguments} {body : List Stmt} {scope : Scope} {ns : List Str} {np : Nat} {p : PSs} {args : List AV} {σ : Store} {lo : Nat} (hf : FnIs c f params body scope) (hok : fnOk frees fname scope ns np p body = true)
    (hbind : ∀ pm code doc vs, vs.length = np → bindArgs (Calls.docDef f params body scope pm code doc) ⟨vs, []⟩ = pure ((ns.take np).zip vs)) (hargs : args.length = np) :
    ∀ {A : Around} {s : Shared} {H : Hd} {vs : List Value} {a : Addr} {Q E : Value → Shared → Prop}, Rm c true (k + 2) A s.heap → c.h0.StaysIn s.heap → Live H s.heap → Sto σ H s.heap → (∀ n a, H.m n = some a → c.h0.get? a = none) → RepL (vis s.heap H) vs args → c.mg f = some (.ref a) →
      PostE true A lo σ H (fnRes (pxs O cal true (st0 args ns.length σ lo) p)) s Q E → codeAny c.M A (.call (.ref a) ⟨vs, []⟩) (fun r s' => match r with | .ok (.ret v) => Q v s' | .ok _ => False | .error e => E e s') s := by
  intro A s H vs a Q E hm hst hL S hm0 hr hmg P
  obtain ⟨a', o, pm, code, doc, h1, h2, h3, h4⟩ := hf
  rw [hmg] at h1; cases h1
  simp only [fnOk, Bool.and_eq_true, beq_iff_eq, Bool.not_eq_true', decide_eq_true_eq, List.all_eq_true, Bool.or_eq_true] at hok
  obtain ⟨⟨⟨⟨⟨⟨k1, k2⟩, k3⟩, k4⟩, k5⟩, k6⟩, k7⟩ := hok
  have hvl : vs.length = np := by rw [hr.length, hargs]
  have hkind : ∀ x ∈ (ns.take np).zip vs, scope.names.lookup x.1 = some .local ∨ (scope.names.lookup x.1 = some .cell ∧ ((cellsFrom (s.heap.objs.size + 1) scope.names []).lookup x.1).isSome = true) := fun x hx => by
    rcases k7 x.1 (List.of_mem_zip hx).1 with h | h
    · exact .inl h
    · exact .inr ⟨h, cellsFrom_mem _ _ _ _ (mem_of_lookup h)⟩
  refine (call_cells (by have := hm.depth; omega) (hst a o h2) h3 (c.nolimit.keeps hst) (h4.keeps hst) (hbind pm code doc vs hvl) hkind (fun h₁ tk F₁ X₁ => ?_) k3 k2 k1)
  generalize hEnv : envOfC f scope s.heap.objs.size a code = env at F₁ X₁ ⊢
  have eL : env.locals = s.heap.objs.size := by rw [← hEnv]; rfl
  have eS : env.scope = scope := by rw [← hEnv]; rfl
  have eC : env.cells = cellsFrom (s.heap.objs.size + 1) scope.names [] := by rw [← hEnv]; rfl
  have eF : env.frame = some env.locals := by rw [← hEnv]; rfl
  have eG : env.globals = mainGlobals := by rw [← hEnv]; rfl
  have eB : env.builtins = builtinsNs := by rw [← hEnv]; rfl
  have eCo : env.code = code := by rw [← hEnv]; rfl
  have eK : ∀ x, env.kindOf x = scope.names.lookup x := fun x => by show env.scope.names.lookup x = _; rw [eS]
  rw [← eC] at X₁
  rw [← eL] at F₁ X₁
  obtain ⟨l, hl, ff⟩ := hm.frames
  have dead : ∀ b, s.heap.objs.size ≤ b → s.heap.get? b = none := fun b hb => Heap.get?_none_of_le hb
  have deadL : s.heap.get? env.locals = none := dead _ (Nat.le_of_eq eL.symm)
  have deadC : ∀ x cc, env.cells.lookup x = some cc → s.heap.get? cc = none := fun x cc q => dead _ (by have := X₁.above x cc (mem_of_lookup q); rw [eL] at this; exact Nat.le_of_lt this)
  have h0L : c.h0.get? env.locals = none := by
    cases e : c.h0.get? env.locals with
    | none => rfl
    | some o' => have := hst _ _ e; rw [deadL] at this; cases this
  have hA' : (A.deeper env).frames = some (env :: l) := by show A.frames.map (env :: ·) = _; rw [hl]; rfl
  have ff' : h₁.FunFrames c.h0 (env :: l) := by
    refine ⟨by rw [eS, k1]; decide, ?_, (Kh.of_keeps (F := fun _ => False) F₁.keep).nf.frames ff⟩
    obtain ⟨oL, es, ep, e, d, _⟩ := F₁.ns
    exact ⟨env.locals, oL, eF, h0L, e, fun vs z => by rw [d] at z; cases z⟩
  have frs : ∀ b, FrA (A.deeper env) b → b = env.locals ∨ FrA A b := fun b ⟨l', e1, e2⟩ => by
    rw [hA'] at e1; cases e1
    rw [List.filterMap_cons, eF] at e2
    rcases List.mem_cons.mp e2 with e2 | e2
    · exact .inl e2
    · exact .inr ⟨l, hl, e2⟩
  have hFrL : FrA (A.deeper env) env.locals := ⟨_, hA', by rw [List.filterMap_cons, eF]; exact List.mem_cons_self ..⟩
  generalize hH0 : (⟨fun b => H.p b ∨ b = env.locals ∨ ∃ x, env.cells.lookup x = some b, H.m, fun _ => none⟩ : Hd) = H₀
  have p0 : ∀ b, H₀.p b ↔ (H.p b ∨ b = env.locals ∨ ∃ x, env.cells.lookup x = some b) := fun b => by rw [← hH0]
  have m0 : H₀.m = H.m := by rw [← hH0]
  have live : Live H₀ h₁ := fun b z => by
    rcases (p0 b).mp z with z | rfl | ⟨x, z⟩
    · obtain ⟨o', e⟩ := hL b z; exact ⟨o', F₁.keep b o' e⟩
    · obtain ⟨oL, es, ep, e, _⟩ := F₁.ns; exact ⟨oL, e⟩
    · obtain ⟨o', e, _⟩ := X₁.cell x b z; exact ⟨o', e⟩
  have hHN : ∀ b, H₀.p b → H.p b ∨ s.heap.get? b = none := fun b z => by
    rcases (p0 b).mp z with z | rfl | ⟨x, z⟩
    · exact .inl z
    · exact .inr deadL
    · exact .inr (deadC x b z)
  have kh1 : Kh (FrA (A.deeper env)) s.heap h₁ := Kh.of_keeps F₁.keep
  have hlen0 : (rho0 args ns.length).length = ns.length := by
    unfold rho0
    rw [List.length_append, List.length_map, List.length_replicate]
    omega
  have getv : ∀ (i : Nat) t, (rho0 args ns.length)[i]? = some (some t) → ∃ x, args[i]? = some x ∧ t = .val x := fun i t h => by
    unfold rho0 at h
    by_cases hi : i < args.length
    · rw [List.getElem?_append_left (by simpa using hi), List.getElem?_map] at h
      cases e : args[i]? with
      | none => rw [e] at h; cases h
      | some x => rw [e] at h; simp at h; exact ⟨x, rfl, h.symm⟩
    · rw [List.getElem?_append_right (by simpa using hi), List.getElem?_replicate] at h
      split at h <;> simp at h
  have F : Fm c (FrA (A.deeper env)) ns env (st0 args ns.length σ lo) ⟨s.heap, H, Wr σ H lo⟩ H₀ h₁ := {
    keep := kh1.kv
    wsub := fun b ⟨n, mo, _, e1, e2⟩ => S.hid n b mo e1 e2
    base := hst
    baseF := fun b z => by
      rcases frs b z with rfl | ⟨l', e1, e2⟩
      · exact h0L
      · rw [hl] at e1; cases e1
        exact (ff.mem e2).1
    basew := fun b ⟨n, mo, _, e1, e2⟩ => hm0 n b e2
    hle := fun b z => (p0 b).mpr (.inl z)
    mle := fun n b e => by rw [m0]; exact e
    mold := fun n b _ e => by rw [m0] at e; exact e
    mnew := fun n b l e => by
      rw [m0] at e
      exact absurd (S.lt n b e) (Nat.not_lt.mpr l)
    mw := fun n b mo _ l q e => ⟨n, mo, l, q, by rw [← m0]; exact e⟩
    hlt := live
    felt := hL
    wlt := fun b ⟨n, mo, _, e1, e2⟩ => S.al n b e2
    kind := by rw [eS]; exact k1
    glob := eG
    bi := eB
    code := let ⟨cd, o, vs, _, e, g, d, _⟩ := h4; ⟨cd, o, vs, eCo.trans e, g, d⟩
    ns := ⟨_, F₁.ns⟩
    hl := (p0 _).mpr (.inr (.inl rfl))
    lnew := deadL
    hc := fun x cc _ q => ⟨(p0 _).mpr (.inr (.inr ⟨x, q⟩)), deadC x cc q⟩
    cl := fun x q => by
      rw [eK] at q
      have := cellsFrom_mem scope.names (s.heap.objs.size + 1) [] x (mem_of_lookup q)
      rw [← eC] at this
      obtain ⟨cc, e⟩ := Option.isSome_iff_exists.mp this
      exact ⟨cc, _, e, X₁.cell x cc e⟩
    capart := fun x y cc h1 h2 => name_of_addr X₁.apart (mem_of_lookup h1) (mem_of_lookup h2)
    vals := fun i x t hx ht => by
      obtain ⟨av, hav, rfl⟩ := getv i t ht
      obtain ⟨v, hv, hrv⟩ := hr.get hav
      have hi : i < np := by
        rcases Nat.lt_or_ge i args.length with h | h
        · omega
        · rw [List.getElem?_eq_none h] at hav; cases hav
      have hx' : (ns.take np)[i]? = some x := by rw [List.getElem?_take, if_pos hi]; exact hx
      refine ⟨v, ?_, Rep.mono (vis_new (Kh.of_keeps (F := fun _ => False) F₁.keep) hHN fun n a e => by rw [m0]; exact e) hrv⟩
      rcases k7 x (List.mem_of_getElem? hx') with hk | hk
      · exact .inl ⟨by rw [eK]; exact hk, _, F₁.ns, bindL_in _ _ _ i x v k5 hx' hv (by rw [eK]; exact hk)⟩
      · have := cellsFrom_mem scope.names (s.heap.objs.size + 1) [] x (mem_of_lookup hk)
        rw [← eC] at this
        obtain ⟨cc, e⟩ := Option.isSome_iff_exists.mp this
        have hcell := X₁.cell x cc e
        rw [bindC_in _ _ _ i x v k5 hx' hv (by rw [eK, hk]; decide)] at hcell
        exact .inr ⟨by rw [eK]; exact hk, cc, e, hcell⟩
    own := fun i b e => by rw [← hH0] at e; cases e
    oinj := fun i j b e => by rw [← hH0] at e; cases e
    mh0 := fun n b e => hm0 n b (by rw [← m0]; exact e)
    sto := S.new kh1 (fun b z => (p0 b).mpr (.inl z)) hHN m0
    n0le := Nat.le_refl _ }
  have hm' : Rm c true (k + 1) (A.deeper env) h₁ := ⟨by have := hm.depth; show A.depth + 1 + (k + 1) < _; omega, by have := hm.units; show A.units + 3 + 8 * (k + 1) < _; omega, fun h => hm.hand h, ⟨_, hA', ff'⟩⟩
  have hF : ∀ b o, s.heap.get? b = some o → FrA (A.deeper env) b → FrA A b := fun b o e z => by
    rcases frs b z with rfl | z
    · rw [deadL] at e; cases e
    · exact z
  have ss : ∀ {st' : Fs} {H' : Hd} {s' : Shared}, Fm c (FrA (A.deeper env)) ns env st' ⟨s.heap, H, Wr σ H lo⟩ H' s'.heap → st'.n0 = σ.length → (∃ h' tk', s' = { s with heap := h', toks := tk' }) → (∀ b o, h₁.get? b = some o → ∃ o', s'.heap.get? b = some o') → Nf h₁ s'.heap → Ss A lo σ H s st'.σ (retH ⟨s.heap, H, Wr σ H lo⟩ σ.length H') s' :=
    fun {st' H' s'} F' hn rest lv nf => ret_ss S F' hn hF rest (fun b o e => lv b o (F₁.keep b o e)) (kh1.nf.trans nf)
  have S1 := pxs_sound OK CO hfree p k4 (by rw [eS]) eF (q := true) (st := st0 args ns.length σ lo) (A.deeper env) { s with heap := h₁, toks := tk } ⟨s.heap, H, Wr σ H lo⟩ _ hm' ⟨l, hA'⟩ F hlen0
  cases hp : pxs O cal true (st0 args ns.length σ lo) p with
  | ret v σ' =>
    rw [hp] at S1 P
    refine S1 _ _ fun w s' R => ?_
    obtain ⟨st', H', e1, e2, e3, F', r'⟩ := R.back
    subst e1
    exact P w _ s' (ss F' e2 (let ⟨h', t', e⟩ := R.rest; ⟨h', t', e⟩) R.lv R.nf) r'
  | next st' =>
    rw [hp] at S1 P
    exact S1 _ _ fun H' s' N => P _ _ s' (ss N.fm N.n0 (let ⟨h', t', e⟩ := N.rest; ⟨h', t', e⟩) N.lv N.nf) (by simp [RepW, Rep])
  | exc x st' =>
    rw [hp] at S1 P
    refine S1 _ _ ⟨rfl, fun H' sr e s' N X => ?_⟩
    obtain ⟨ea, a0, rfl, hkp, hdead, _⟩ := id X
    obtain ⟨l', hl', ff2⟩ := ((hm'.nf N.nf).kp hkp).frames
    rw [hA'] at hl'; cases hl'
    show wpAny c.M (A.deeper env) (noteFrame (.ref ea) env >>= fun _ => setFlight (.ref ea) none) _ _ s'
    refine wpAny_bind (note_land X hA' eF ff2 fun s₃ fl => ?_)
    obtain ⟨B, a1, h₃, tk₃, hs₃, hfl, kh₃, hB, hfr⟩ := fl
    -- the state at the raise, with the frame's slots as they are now
    obtain ⟨mL, oL, esL, epL, eLo, dLo, rLo⟩ := N.fm.ns
    obtain ⟨sl, eL3⟩ := (kh₃ env.locals oL eLo).2
    have fr : ({ oL with slots := sl } : Obj).isFreed = false := by
      have : ({ oL with slots := sl } : Obj).data = .dict esL epL := dLo
      unfold Obj.isFreed
      rw [this]
    have up : (sr.heap.update env.locals fun o => { o with slots := sl }).get? env.locals = some { oL with slots := sl } := Heap.get?_update_self _ eLo fr
    have ot : ∀ b, b ≠ env.locals → (sr.heap.update env.locals fun o => { o with slots := sl }).get? b = sr.heap.get? b := fun b hb => Heap.get?_update_other _ _ (Ne.symm hb)
    have khu : Kh (FrA (A.deeper env)) sr.heap (sr.heap.update env.locals fun o => { o with slots := sl }) := fun b o e => by
      by_cases hb : b = env.locals
      · subst hb
        rw [eLo] at e; cases e
        refine ⟨fun z => ?_, sl, up⟩
        rcases z with z | ⟨fs, z⟩
        · exact absurd hFrL z
        · rw [dLo] at z; cases z
      · exact ⟨fun _ => (ot b hb).trans e, o.slots, (ot b hb).trans e⟩
    have F2 := N.fm.step khu
    obtain ⟨hr', tr', er⟩ := N.rest
    have ss2 := ss (s' := { sr with heap := sr.heap.update env.locals fun o => { o with slots := sl } }) F2 N.n0 ⟨_, tr', by rw [er]⟩ (fun b o e => let ⟨o', e'⟩ := N.lv b o e; let ⟨_, e''⟩ := (khu b o' e').2; ⟨_, e''⟩) (N.nf.trans khu.nf)
    refine P.2 _ _ _ _ ss2 ⟨ea, a1, rfl, ⟨h₃, tk₃, by rw [hs₃], fun b o e => ?_⟩, ?_, .inr ?_⟩
    · by_cases hb : b = env.locals
      · subst hb
        have e : (sr.heap.update env.locals fun o => { o with slots := sl }).get? env.locals = some o := e
        rw [up] at e; cases e
        exact ⟨fun _ => eL3, sl, eL3⟩
      · have e : (sr.heap.update env.locals fun o => { o with slots := sl }).get? b = some o := e
        rw [ot b hb] at e
        obtain ⟨q1, q2⟩ := kh₃ b o e
        refine ⟨fun f => q1 (f.imp (fun f z => ?_) id), q2⟩
        rcases frs b z with z | z
        · exact hb z
        · exact f z
    · have : ea ≠ env.locals := fun z => by rw [z, eLo] at hdead; cases hdead
      show (sr.heap.update env.locals fun o => { o with slots := sl }).get? ea = none
      rw [ot ea this]; exact hdead
    · obtain ⟨_, _, _, oe, ws, T, oT, ts, he, hcl, hd, h1', hT, hTe, hoT, hdT, h3'⟩ := hfl
      rw [hs₃]
      refine ⟨oe, ws, T, oT, ts, he, hcl, hd, h1', ?_, hTe, hoT, hdT, h3'⟩
      have hTl : T ≠ env.locals := fun z => by
        have hoT : h₃.get? T = some oT := hoT
        rw [z, eL3] at hoT; cases hoT
        have hdT : oL.data = _ := hdT
        rw [dLo] at hdT; cases hdT
      show (sr.heap.update env.locals fun o => { o with slots := sl }).get? T = none
      rw [ot T hTl]
      cases e : sr.heap.get? T with
      | none => rfl
      | some o' =>
        exfalso
        by_cases hTf : T ∈ (env :: l).filterMap (·.frame)
        · obtain ⟨o2, e3, nf⟩ := hfr T hTf
          have hoT : h₃.get? T = some oT := hoT
          rw [hoT] at e3; cases e3
          exact nf _ hdT
        · have := hB T oT hoT ⟨_, e⟩ hTf
          rw [hT] at this; cases this
  | brk _ => rw [hp] at P; exact P.elim
  | cont _ => rw [hp] at P; exact P.elim
  | stuck => rw [hp] at P; exact P.elim

theorem calls_of {f : Str} {params : Arguments} {body : List Stmt} {scope : Scope} {ns : List Str} {np : Nat} {p : PSs} {args : List AV} {σ : Store} {lo : Nat} (hf : FnIs c f params body scope) (hok : fnOk frees fname scope ns np p body = true)
    (hbind : ∀ pm code doc vs, vs.length = np → bindArgs (Calls.docDef f params body scope pm code doc) ⟨vs, []⟩ = pure ((ns.take np).zip vs)) (hargs : args.length = np) :
    Calls c (k + 2) f σ lo args (fnRes (pxs O cal true (st0 args ns.length σ lo) p)) := by
  intro A s H vs a hm hst hL S hm0 hr hmg
  exact fun Q E P => wpAny_call (code_of OK CO hfree hf hok hbind hargs hm hst hL S hm0 hr hmg P)
end
end Mine
end
section
open PySem PySem.W PyProof.Rows
namespace Mine
set_option maxRecDepth 100000

section
variable {c : Cx} {q : Bool} {k : Nat} {A : Around} {s : Shared} {H : Hd} {Q : Value → Shared → Prop} {E : Value → Shared → Prop}
theorem post_int {i : Int} (P : Post q A H (.ok (.int i)) s Q E) : (Made.int i).post Q s := P _ _ Kp.toks ⟨_, rfl⟩
theorem post_float {i : UInt64} (P : Post q A H (.ok (.float i)) s Q E) : (Made.float i).post Q s := P _ _ Kp.toks ⟨_, rfl⟩
theorem post_bool {b : Bool} (P : Post q A H (.ok (.bool b)) s Q E) : Q (.bool b) s := P _ _ (Kp.refl _ _) rfl
theorem post_raise {cls : EX} (hm : Rm c q k A s.heap) (P : Post q A H (.exc cls) s Q E) {Q' : Value → Shared → Prop} : raisesNew cls.name A (wants Q' E) s := by
  refine ⟨hm.hand P.1, fun h' tk e n => ?_⟩
  obtain ⟨ob, t, h1, h2, h3⟩ := n.there
  exact P.2 _ _ ⟨e, t, rfl, Kp.of n.keeps, n.new, .inl ⟨ob, h1, h2, h3⟩⟩
end

noncomputable def mulOk (a b : Int) : Bool := !(decide (Builtin.Int.intBits a > shortFactorBits) && decide (Builtin.Int.intBits b > shortFactorBits) && Builtin.Int.intTooBig (Builtin.Int.intBits a + Builtin.Int.intBits b))
theorem mulOk_iff {a b : Int} : mulOk a b = true ↔ IntMulOk a b := by
  unfold mulOk IntMulOk
  cases (decide (Builtin.Int.intBits a > shortFactorBits) && decide (Builtin.Int.intBits b > shortFactorBits) && Builtin.Int.intTooBig (Builtin.Int.intBits a + Builtin.Int.intBits b)) <;> simp

noncomputable def frac (a b : Int) : UInt64 := Float64.ofFrac (decide (a < 0) != decide (b < 0)) a.natAbs b.natAbs

noncomputable def intBin (op : Operator) (a b : Int) : Res := match op with
  | .Add => .ok (.int (a + b))
  | .Sub => .ok (.int (a - b))
  | .Mult => if mulOk a b = true then .ok (.int (a * b)) else .stuck
  | .FloorDiv => if (b == 0) = true then .exc .zde else if Builtin.divisionGoesByPylong a b = true then .stuck else .ok (.int (a.fdiv b))
  | .Mod => if (b == 0) = true then .exc .zde else .ok (.int (a.fmod b))
  | .Div => if (b == 0) = true then .exc .zde else if Float64.isInf (frac a b) = true then .exc .ofe else .ok (.float (frac a b))
  | .Pow => if b ≥ 0 then (if (b == 0) = true then .ok (.int 1) else if (a == 0 || a == 1) = true then .ok (.int a) else if (a == -1) = true then .ok (.int (if (b % 2 == 0) = true then 1 else -1))
      else if Builtin.Int.intTooBig (((Builtin.Int.intBits a : Nat) : Int) * b) = true then .stuck else .ok (.int (a ^ b.toNat))) else .stuck
  | _ => .stuck
section
variable {c : Cx} {q : Bool} {k : Nat} {A : Around} {s : Shared} {H : Hd}

theorem intBin_ok {op : Operator} {a b : Int} {t u : Tok} (hm : Rm c q k A s.heap) : Tr c q A H (binaryOp op (.int a t) (.int b u)) (intBin op a b) s := by
  intro Q E P
  cases op <;> simp only [intBin] at P <;> try exact P.elim
  · exact AutoIntOps.add_0 (post_int P)
  · exact AutoIntOps.sub_0 (post_int P)
  · split at P
    · rename_i h; exact AutoIntOps.mul_0 (post_int P) (mulOk_iff.mp h)
    · exact P.elim
  · refine AutoIntOpsIf.truediv ?_
    by_cases h : (b == 0) = true
    · rw [if_pos h] at P ⊢; exact post_raise hm P
    · rw [if_neg h] at P ⊢
      by_cases h2 : Float64.isInf (frac a b) = true
      · rw [if_pos h2] at P; rw [if_pos (by exact h2)]; exact post_raise hm P
      · rw [if_neg h2] at P; rw [if_neg (by exact h2)]; exact post_float P
  · refine AutoIntOpsIf.mod ?_
    split at P
    · rename_i h; rw [if_pos h]; exact post_raise hm P
    · rename_i h; rw [if_neg h]; exact post_int P
  · refine AutoIntOpsIf.pow ?_
    split at P
    · rename_i h; rw [if_pos h]
      split at P
      · rename_i h; rw [if_pos h]; exact post_int P
      · rename_i h; rw [if_neg h]
        split at P
        · rename_i h; rw [if_pos h]; exact post_int P
        · rename_i h; rw [if_neg h]
          split at P
          · rename_i h; rw [if_pos h]; exact post_int P
          · rename_i h; rw [if_neg h]
            split at P
            · exact P.elim
            · rename_i h; rw [if_neg h]; exact post_int P
    · exact P.elim
  · refine AutoIntOpsIf.floordiv ?_
    split at P
    · rename_i h; rw [if_pos h]; exact post_raise hm P
    · rename_i h; rw [if_neg h]
      split at P
      · exact P.elim
      · rename_i h; rw [if_neg h]; exact post_int P

end

/- in place: Div alone -/
section
variable {c : Cx} {q : Bool} {k : Nat} {A : Around} {s : Shared} {H : Hd}
noncomputable def b2i (b : Bool) : Int := if b = true then 1 else 0
end

/- comparing -/
noncomputable def intCmp (op : CmpOp) (a b : Int) : Option Bool := match op with
  | .Eq => some (a == b)
  | .NotEq => some (a != b)
  | .Lt => some (decide (a < b))
  | .LtE => some (decide (a ≤ b))
  | .Gt => some (decide (a > b))
  | .GtE => some (decide (a ≥ b))
  | _ => none
section
variable {c : Cx} {q : Bool} {k : Nat} {A : Around} {s : Shared} {H : Hd}
theorem intCmp_ok {op : CmpOp} {a b : Int} {t u : Tok} {r : Bool} (h : intCmp op a b = some r) : Tr c q A H (compareOp op (.int a t) (.int b u)) (.ok (.bool r)) s := by
  intro Q E P
  cases op <;> simp only [intCmp, Option.some.injEq, reduceCtorEq] at h <;> subst h
  · exact PySem.P.eq_int (post_bool P)
  · exact PySem.P.ne_int (post_bool P)
  · exact PySem.P.lt_int (post_bool P)
  · exact PySem.P.le_int (post_bool P)
  · exact PySem.P.gt_int (post_bool P)
  · exact PySem.P.ge_int (post_bool P)
noncomputable def plainCmp (op : CmpOp) (e : Bool) : Option Bool := match op with
  | .Is => some e
  | .IsNot => some (!e)
  | _ => none
theorem plainCmp_ok {op : CmpOp} {a b : Value} {r : Bool} (hp : plainIs a b = true) (h : plainCmp op (a == b) = some r) : Tr c q A H (compareOp op a b) (.ok (.bool r)) s := by
  intro Q E P
  cases op <;> simp only [plainCmp, Option.some.injEq, reduceCtorEq] at h <;> subst h
  · exact wpAny_is_plain hp (post_bool P)
  · exact wpAny_isNot_plain hp (post_bool P)
end
end Mine
end
section
open PySem PySem.W PyProof.Rows
namespace Mine
set_option maxRecDepth 100000

section
variable {M : Model} {A : Around} {E : Value → Shared → Prop} {s : Shared} {a b : Value} {T U nm idl idr : String}
/-- a call that declines -/
noncomputable def Declines (M : Model) (A : Around) (E : Value → Shared → Prop) (t : Sem Value) (s : Shared) : Prop := ∀ Q : Value → Shared → Prop, Q .notImplemented s → wpAny M A t Q E s

theorem try_declines {name : Str} {id : String} (hT : s.TypeIs a T) (hl : Slot T name id) (hc : Declines M A E (call (.builtin id) [a, b]) s) {Q : Option Value → Shared → Prop} (h : Q none s) : wpAny M A (tryMethod a name b) Q E s := by
  simp only [tryMethod]
  exact wpAny_bind (wpAny_callSpecial?_slot hT hl (hc _ (wpAny_pure h)))

theorem ite_f {α : Type} {b : Bool} {x y : Sem α} {Q : α → Shared → Prop} (hb : b = false) (h : wpAny M A y Q E s) : wpAny M A (if b = true then x else y) Q E s := by subst hb; exact h
theorem b1_none_l {Q : Option Value → Shared → Prop} (hTU : T ≠ U) (ha : s.TypeIs a T) (hb : s.TypeIs b U) (hfT : fillsNumberSlot (.type T) nm = pure true) (hfU : fillsNumberSlot (.type U) nm = pure false) (hl : Slot T (dunder nm) idl)
    (hc : Declines M A E (call (.builtin idl) [a, b]) s) (h : Q none s) : wpAny M A (binaryOp1 nm a b) Q E s := by
  have hne : (Value.type T == Value.type U) = false := by simpa using hTU
  refine wpAny_bind (wpAny_typeOf ha (wpAny_bind (wpAny_typeOf hb (wpAny_bind (wpAny_of_eq hfT (ite_f hne (wpAny_bind (wpAny_of_eq hfU ?_))))))))
  exact wpAny_bind (wpAny_pure (wpAny_bind (try_declines ha hl hc (wpAny_pure h))))
theorem b1_none_r {Q : Option Value → Shared → Prop} (hTU : T ≠ U) (ha : s.TypeIs a T) (hb : s.TypeIs b U) (hfT : fillsNumberSlot (.type T) nm = pure false) (hfU : fillsNumberSlot (.type U) nm = pure true) (hr : Slot U (dunderR nm) idr)
    (hc : Declines M A E (call (.builtin idr) [b, a]) s) (h : Q none s) : wpAny M A (binaryOp1 nm a b) Q E s := by
  have hne : (Value.type T == Value.type U) = false := by simpa using hTU
  refine wpAny_bind (wpAny_typeOf ha (wpAny_bind (wpAny_typeOf hb (wpAny_bind (wpAny_of_eq hfT (ite_f hne (wpAny_bind (wpAny_of_eq hfU ?_))))))))
  exact wpAny_bind (wpAny_pure (wpAny_bind (try_declines hb hr hc (wpAny_pure h))))
theorem b1_none_two {Q : Option Value → Shared → Prop} (hTU : T ≠ U) (ha : s.TypeIs a T) (hb : s.TypeIs b U) (hfT : fillsNumberSlot (.type T) nm = pure true) (hfU : fillsNumberSlot (.type U) nm = pure true) (hsub : isSubtype (.type U) (.type T) = pure false)
    (hl : Slot T (dunder nm) idl) (hr : Slot U (dunderR nm) idr)
    (hc : Declines M A E (call (.builtin idl) [a, b]) s) (hc' : Declines M A E (call (.builtin idr) [b, a]) s) (h : Q none s) : wpAny M A (binaryOp1 nm a b) Q E s := by
  have hne : (Value.type T == Value.type U) = false := by simpa using hTU
  refine wpAny_bind (wpAny_typeOf ha (wpAny_bind (wpAny_typeOf hb (wpAny_bind (wpAny_of_eq hfT (ite_f hne (wpAny_bind (wpAny_of_eq hfU ?_))))))))
  refine wpAny_bind (wpAny_of_eq hsub ?_)
  have hpy : numberSlotInPython (.type T) nm = pure false := rfl
  exact wpAny_bind (wpAny_of_eq hpy (wpAny_bind (try_declines ha hl hc (wpAny_bind (try_declines hb hr hc' (wpAny_pure h))))))

theorem inpl_te {op : Operator} {Q : Value → Shared → Prop} (hop : op = .Div ∨ op = .BitXor) (ha : s.TypeIs a T) (hb : s.TypeIs b U) (hnb : (Value.type T == Value.type "builtin_function_or_method") = false) (hnu : (Value.type U == Value.type "builtin_function_or_method") = false)
    (hi : ∀ Q' : Bool → Shared → Prop, Q' false s → wpAny M A (fillsInplaceSlot (.type T) op.info.2 (op == .Add)) Q' E s)
    (hb1 : ∀ Q' : Option Value → Shared → Prop, Q' none s → wpAny M A (binaryOp1 op.info.2 a b) Q' E s)
    (hm : ∀ sym, sym = "/=" ∨ sym = "^=" → ((s!"unsupported operand type(s) for {sym}: '{shownName T}' and '{shownName U}'" : String) : Str).length ≤ sizeLine)
    (h : raisesNew "TypeError" A (wants Q E) s) : wpAny M A (inplaceOp op a b) Q E s := by
  unfold inplaceOp
  refine wpAny_holding ?_
  refine wpAny_bind (wpAny_typeOf ha (wpAny_bind (hi _ ?_)))
  simp only [Bool.false_eq_true, if_false]
  refine wpAny_bind (hb1 _ ?_)
  simp only
  have fin : ∀ sym, sym = "/=" ∨ sym = "^=" → wpAny M A (binopTypeError sym a b : Sem Value) Q E s := by
    intro sym hs
    unfold binopTypeError
    refine wpAny_bind (wpAny_rule (wpAny_bind (wpAny_typeNameOf' ha hnb (wpAny_bind (wpAny_typeNameOf' hb hnu ?_)))))
    exact wpAny_raiseErrorMade plainExc_TypeError h.1 h.2 (hm sym hs)
  rcases hop with rfl | rfl
  · exact fin _ (.inl rfl)
  · exact fin _ (.inr rfl)
theorem inpl_te_plain {op : Operator} {Q : Value → Shared → Prop} (hop : op = .Div ∨ op = .BitXor) (ha : s.TypeIs a T) (hb : s.TypeIs b U) (hnb : (Value.type T == Value.type "builtin_function_or_method") = false) (hnu : (Value.type U == Value.type "builtin_function_or_method") = false)
    (hno : typeLookup (.type T) (dunderI op.info.2) = pure none)
    (hb1 : ∀ Q' : Option Value → Shared → Prop, Q' none s → wpAny M A (binaryOp1 op.info.2 a b) Q' E s)
    (hm : ∀ sym, sym = "/=" ∨ sym = "^=" → ((s!"unsupported operand type(s) for {sym}: '{shownName T}' and '{shownName U}'" : String) : Str).length ≤ sizeLine)
    (h : raisesNew "TypeError" A (wants Q E) s) : wpAny M A (inplaceOp op a b) Q E s := by
  refine inpl_te hop ha hb hnb hnu (fun Q' q => ?_) hb1 hm h
  refine wpAny_of_eq (a := false) ?_ q
  unfold fillsInplaceSlot
  show (typeLookup (.type T) (dunderI op.info.2) >>= fun fi => pure (fi.isSome && !isSeqSlot fi)) = pure false
  rw [hno]; rfl
end
section
variable {prog : Program} {w : World} {A : Around} {E : Value → Shared → Prop} {s : Shared}
theorem declines_gives {T : String} {name : Str} {id : String} {B : Builtin} {a b : Value} (slot : Slot T name id) (ha : s.TypeIs a T) (entry : entryFor table id = some B) (args : argsOk id ⟨[a, b], []⟩) (g : Gives (B ⟨[a, b], []⟩) (.val .notImplemented)) :
    Declines (model prog w) A E (call (.builtin id) [a, b]) s := fun _ h => call_gives slot ha entry args g h
theorem declines_at {T : String} {name : Str} {id : String} {B : Builtin} {a b : Value} {P : Shared → Prop} (slot : Slot T name id) (ha : s.TypeIs a T) (entry : entryFor table id = some B) (args : argsOk id ⟨[a, b], []⟩) (g : GivesAt P (B ⟨[a, b], []⟩) (.val .notImplemented)) (hP : P s) :
    Declines (model prog w) A E (call (.builtin id) [a, b]) s := fun _ h => call_givesAt slot ha entry args g hP h
end
/-- a thing that is no number -/
noncomputable def NoPrim (l : Addr) (s : Shared) : Prop := ∃ o, s.heap.get? l = some o ∧ ∀ v, o.data ≠ .prim v

theorem noF_list_xor : fillsNumberSlot (.type "list") "xor" = pure false := by kernel_rfl
theorem noF_str_xor : fillsNumberSlot (.type "str") "xor" = pure false := by kernel_rfl
theorem noF_none_xor : fillsNumberSlot (.type "NoneType") "xor" = pure false := by kernel_rfl
theorem noI_list_xor : typeLookup (.type "list") (dunderI "xor") = pure none := by rw [typeLookup_type, builtinLookup_eq_fast]; kernel_rfl
theorem noI_str_xor : typeLookup (.type "str") (dunderI "xor") = pure none := by rw [typeLookup_type, builtinLookup_eq_fast]; kernel_rfl
theorem noI_none_xor : typeLookup (.type "NoneType") (dunderI "xor") = pure none := by rw [typeLookup_type, builtinLookup_eq_fast]; kernel_rfl
theorem sub_int_set : isSubtype (.type "int") (.type "set") = pure false := by rw [isSubtype_type]; kernel_rfl
theorem sub_set_int : isSubtype (.type "set") (.type "int") = pure false := by rw [isSubtype_type]; kernel_rfl
theorem sub_int_frozenset : isSubtype (.type "int") (.type "frozenset") = pure false := by rw [isSubtype_type]; kernel_rfl
theorem sub_set_set : isSubtype (.type "set") (.type "set") = pure true := by rw [isSubtype_type]; kernel_rfl
theorem entry_set_xor : entryFor table "set.__xor__" = some Builtin.«frozenset.__xor__» := entryFor_alias (id' := "frozenset.__xor__") (by rw [fastTable_eq_tree]; kernel_rfl) rfl (by decide +kernel) (by rw [fastTable_eq_tree]; kernel_rfl)
theorem entry_set_rxor : entryFor table "set.__rxor__" = some Builtin.«frozenset.__rxor__» := entryFor_alias (id' := "frozenset.__rxor__") (by rw [fastTable_eq_tree]; kernel_rfl) rfl (by decide +kernel) (by rw [fastTable_eq_tree]; kernel_rfl)
theorem entry_int_rxor : entryFor table "int.__rxor__" = some Builtin.«int.__rxor__» := entryFor_of_tree (by kernel_rfl)

theorem xor_ref (a : Int) (t : Tok) (l : Addr) : GivesAt (NoPrim l) (Builtin.«int.__xor__» ⟨[.int a t, .ref l], []⟩) (.val .notImplemented) := by
  rintro prog w A R s ⟨⟨oc, od, odt, os⟩, ho, hd⟩ h
  unfold Builtin.«int.__xor__» Builtin.Int.intBinary
  have : ∀ v, odt ≠ .prim v := hd
  refine wpAny_bind ?_
  show wpAny _ _ (pure (Value.int a t, [Value.ref l])) _ _ s
  refine wpAny_pure ?_
  refine wpAny_bind ?_
  show wpAny _ _ (pure a) _ _ s
  refine wpAny_pure ?_
  refine wpAny_bind ?_
  show wpAny _ _ (load l >>= fun o => match o.data with
    | .prim (.int i _) => pure (some i)
    | _ => pure none) _ _ s
  refine wpAny_bind (wpAny_load ho ?_)
  split
  · rename_i i _ h2
    exact absurd h2 (this _)
  · exact wpAny_pure (wpAny_bind (wpAny_rule (wpAny_pure h)))
theorem rxor_ref (a : Int) (t : Tok) (l : Addr) : GivesAt (NoPrim l) (Builtin.«int.__rxor__» ⟨[.int a t, .ref l], []⟩) (.val .notImplemented) := by
  rintro prog w A R s ⟨⟨oc, od, odt, os⟩, ho, hd⟩ h
  unfold Builtin.«int.__rxor__» Builtin.Int.intBinary
  have : ∀ v, odt ≠ .prim v := hd
  refine wpAny_bind ?_
  show wpAny _ _ (pure (Value.int a t, [Value.ref l])) _ _ s
  refine wpAny_pure ?_
  refine wpAny_bind ?_
  show wpAny _ _ (pure a) _ _ s
  refine wpAny_pure ?_
  refine wpAny_bind ?_
  show wpAny _ _ (load l >>= fun o => match o.data with
    | .prim (.int i _) => pure (some i)
    | _ => pure none) _ _ s
  refine wpAny_bind (wpAny_load ho ?_)
  split
  · rename_i i _ h2
    exact absurd h2 (this _)
  · exact wpAny_pure (wpAny_bind (wpAny_rule (wpAny_pure h)))

theorem IsL.noPrim {s : Shared} {a : Addr} {vs : List Value} (x : IsL s.heap a vs) : NoPrim a s := let ⟨o, n, e, _, d, _⟩ := x; ⟨o, e, fun v z => by rw [d] at z; cases z⟩
theorem IsS.noPrim {s : Shared} {a : Addr} {fz : Bool} {xs : List Int} (x : IsS s.heap a fz xs) : NoPrim a s := let ⟨o, es, ep, t, e, _, _, d, _⟩ := x; ⟨o, e, fun v z => by rw [d] at z; cases z⟩
theorem IsS.typeIs {s : Shared} {a : Addr} {xs : List Int} (x : IsS s.heap a false xs) : s.TypeIs (.ref a) "set" := let ⟨o, es, ep, t, e, c, _, _, _⟩ := x; ⟨o, e, c⟩

section
variable {c : Cx} {q : Bool} {k : Nat} {A : Around} {s : Shared} {H : Hd}
theorem te_msg : ∀ T ∈ ["int", "str", "NoneType", "list", "set"], ∀ U ∈ ["int", "str", "NoneType", "list", "set"], ∀ sym, sym = "/=" ∨ sym = "^=" → ((s!"unsupported operand type(s) for {sym}: '{shownName T}' and '{shownName U}'" : String) : Str).length ≤ sizeLine := by
  intro T hT U hU sym hs
  rcases hs with rfl | rfl
  · revert T U; decide +kernel
  · revert T U; decide +kernel
theorem xor_te_l {U : String} {a : Int} {t : Tok} {v : Value} (hm : Rm c q k A s.heap) (hv : s.TypeIs v U) (hU : "int" ≠ U) (hnu : (Value.type U == Value.type "builtin_function_or_method") = false) (nf : fillsNumberSlot (.type U) "xor" = pure false)
    (hmsg : ∀ sym, sym = "/=" ∨ sym = "^=" → ((s!"unsupported operand type(s) for {sym}: '{shownName "int"}' and '{shownName U}'" : String) : Str).length ≤ sizeLine)
    (d : ∀ E, Declines c.M A E (call (.builtin "int.__xor__") [.int a t, v]) s) : Tr c q A H (inplaceOp .BitXor (.int a t) v) (.exc .te) s := fun Q E P => by
  have pr := post_raise (Q' := Q) hm P
  exact inpl_te_plain (T := "int") (U := U) (.inr rfl) (typeIs_int s a t) hv (by decide) hnu F.noI_int_xor (fun Q' h => b1_none_l hU (typeIs_int s a t) hv F.fills_int_xor nf F.slot_int_xor (d E) h) hmsg pr
theorem xor_te_r {U : String} {a : Int} {t : Tok} {v : Value} (hm : Rm c q k A s.heap) (hv : s.TypeIs v U) (hU : U ≠ "int") (hnu : (Value.type U == Value.type "builtin_function_or_method") = false) (hno : typeLookup (.type U) (dunderI "xor") = pure none) (nf : fillsNumberSlot (.type U) "xor" = pure false)
    (hmsg : ∀ sym, sym = "/=" ∨ sym = "^=" → ((s!"unsupported operand type(s) for {sym}: '{shownName U}' and '{shownName "int"}'" : String) : Str).length ≤ sizeLine)
    (d : ∀ E, Declines c.M A E (call (.builtin "int.__rxor__") [.int a t, v]) s) : Tr c q A H (inplaceOp .BitXor v (.int a t)) (.exc .te) s := fun Q E P => by
  have pr := post_raise (Q' := Q) hm P
  exact inpl_te_plain (T := U) (U := "int") (.inr rfl) hv (typeIs_int s a t) hnu (by decide) hno (fun Q' h => b1_none_r hU hv (typeIs_int s a t) nf F.fills_int_xor F.slot_int_rxor (d E) h) hmsg pr
theorem xor_te_is {a : Int} {t u : Tok} {b : Str} (hm : Rm c q k A s.heap) : Tr c q A H (inplaceOp .BitXor (.int a t) (.str b u)) (.exc .te) s :=
  xor_te_l (U := "str") hm rfl (by decide) (by decide) noF_str_xor (te_msg "int" (by decide) "str" (by decide)) fun E => declines_gives F.slot_int_xor (typeIs_int s a t) F.entry_int_xor (F.args_int_xor_2 _ _) (AutoIntG0.int___xor___int_str_0 a t b u)
theorem xor_te_in {a : Int} {t : Tok} (hm : Rm c q k A s.heap) : Tr c q A H (inplaceOp .BitXor (.int a t) .none) (.exc .te) s :=
  xor_te_l (U := "NoneType") hm rfl (by decide) (by decide) noF_none_xor (te_msg "int" (by decide) "NoneType" (by decide)) fun E => declines_gives F.slot_int_xor (typeIs_int s a t) F.entry_int_xor (F.args_int_xor_2 _ _) (AutoIntG9.int___xor___int_none_0 a t)
theorem xor_te_il {a : Int} {t : Tok} {l : Addr} {vs : List Value} (hm : Rm c q k A s.heap) (hl : IsL s.heap l vs) : Tr c q A H (inplaceOp .BitXor (.int a t) (.ref l)) (.exc .te) s :=
  xor_te_l (U := "list") hm hl.isList.typeIs (by decide) (by decide) noF_list_xor (te_msg "int" (by decide) "list" (by decide)) fun E => declines_at F.slot_int_xor (typeIs_int s a t) F.entry_int_xor (F.args_int_xor_2 _ _) (xor_ref a t l) hl.noPrim
theorem xor_te_si {a : Int} {t u : Tok} {b : Str} (hm : Rm c q k A s.heap) : Tr c q A H (inplaceOp .BitXor (.str b u) (.int a t)) (.exc .te) s :=
  xor_te_r (U := "str") hm rfl (by decide) (by decide) noI_str_xor noF_str_xor (te_msg "str" (by decide) "int" (by decide)) fun E => declines_gives F.slot_int_rxor (typeIs_int s a t) entry_int_rxor (F.args_int_rxor_2 _ _) (AutoIntG5.int___rxor___int_str_0 a t b u)
theorem xor_te_ni {a : Int} {t : Tok} (hm : Rm c q k A s.heap) : Tr c q A H (inplaceOp .BitXor .none (.int a t)) (.exc .te) s :=
  xor_te_r (U := "NoneType") hm rfl (by decide) (by decide) noI_none_xor noF_none_xor (te_msg "NoneType" (by decide) "int" (by decide)) fun E => declines_gives F.slot_int_rxor (typeIs_int s a t) entry_int_rxor (F.args_int_rxor_2 _ _) (AutoIntG4.int___rxor___int_none_0 a t)
theorem xor_te_li {a : Int} {t : Tok} {l : Addr} {vs : List Value} (hm : Rm c q k A s.heap) (hl : IsL s.heap l vs) : Tr c q A H (inplaceOp .BitXor (.ref l) (.int a t)) (.exc .te) s :=
  xor_te_r (U := "list") hm hl.isList.typeIs (by decide) (by decide) noI_list_xor noF_list_xor (te_msg "list" (by decide) "int" (by decide)) fun E => declines_at F.slot_int_rxor (typeIs_int s a t) entry_int_rxor (F.args_int_rxor_2 _ _) (rxor_ref a t l) hl.noPrim

/- a set and an int -/
theorem orM_wp {M : Model} {E : Value → Shared → Prop} {x y : Sem Bool} {Q : Bool → Shared → Prop} (h : wpAny M A x (fun b s' => if b = true then Q true s' else wpAny M A y Q E s') E s) : wpAny M A (x <||> y) Q E s := by
  show wpAny M A (x >>= fun b => match toBool b with | true => pure b | false => y) Q E s
  refine wpAny_bind (wpAny_mono h (fun b s' h' => ?_) fun _ _ e => e)
  cases b with
  | true => exact wpAny_pure (by simpa using h')
  | false => exact (show wpAny M A y Q E s' by simpa using h')
theorem andM_wp {M : Model} {E : Value → Shared → Prop} {x y : Sem Bool} {Q : Bool → Shared → Prop} (h : wpAny M A x (fun b s' => if b = true then wpAny M A y Q E s' else Q false s') E s) : wpAny M A (x <&&> y) Q E s := by
  show wpAny M A (x >>= fun b => match toBool b with | true => y | false => pure b) Q E s
  refine wpAny_bind (wpAny_mono h (fun b s' h' => ?_) fun _ _ e => e)
  cases b with
  | true => exact (show wpAny M A y Q E s' by simpa using h')
  | false => exact wpAny_pure (by simpa using h')
theorem anySet_int {M : Model} {E : Value → Shared → Prop} {a : Int} {t : Tok} {Q : Bool → Shared → Prop} (h : Q false s) : wpAny M A (Builtin.Frozenset.isAnySet (.int a t)) Q E s := by
  unfold Builtin.Frozenset.isAnySet
  refine orM_wp (wpAny_isInstance (typeIs_int s a t) sub_int_set ?_)
  rw [if_neg (by decide)]
  exact wpAny_isInstance (typeIs_int s a t) sub_int_frozenset h
theorem anySet_set {M : Model} {E : Value → Shared → Prop} {l : Addr} {xs : List Int} (hs : IsS s.heap l false xs) {Q : Bool → Shared → Prop} (h : Q true s) : wpAny M A (Builtin.Frozenset.isAnySet (.ref l)) Q E s := by
  unfold Builtin.Frozenset.isAnySet
  refine orM_wp (wpAny_isInstance hs.typeIs sub_set_set ?_)
  rw [if_pos rfl]
  exact h
theorem set_ixor_dec {E : Value → Shared → Prop} {a : Int} {t : Tok} {l : Addr} {xs : List Int} (hs : IsS s.heap l false xs) : Declines c.M A E (call (.builtin "set.__ixor__") [.ref l, .int a t]) s := fun Q h => by
  refine wpAny_call_entry F.slot_set_ixor hs.typeIs F.entry_set_ixor ?_ (F.args_set_ixor_2 _ _)
  refine wpAny_bind (m := pure (Value.ref l, Value.int a t)) (wpAny_pure ?_)
  refine wpAny_bind (anySet_int ?_)
  simp only [Bool.not_false, if_true]
  exact wpAny_bind (wpAny_rule (wpAny_pure ⟨_, rfl, h⟩))
theorem set_xor_dec {E : Value → Shared → Prop} {a : Int} {t : Tok} {l : Addr} {xs : List Int} (hs : IsS s.heap l false xs) : Declines c.M A E (call (.builtin "set.__xor__") [.ref l, .int a t]) s := fun Q h => by
  refine wpAny_call_entry F.slot_set_xor hs.typeIs entry_set_xor ?_ (F.args_set_xor_2 _ _)
  refine wpAny_bind (m := pure (Value.ref l, Value.int a t)) (wpAny_pure ?_)
  refine wpAny_bind (andM_wp (anySet_set hs ?_))
  rw [if_pos rfl]
  refine anySet_int ?_
  simp only [Bool.not_false, if_true]
  exact wpAny_bind (wpAny_rule (wpAny_pure ⟨_, rfl, h⟩))
theorem set_rxor_dec {E : Value → Shared → Prop} {a : Int} {t : Tok} {l : Addr} {xs : List Int} (hs : IsS s.heap l false xs) : Declines c.M A E (call (.builtin "set.__rxor__") [.ref l, .int a t]) s := fun Q h => by
  refine wpAny_call_entry F.slot_set_rxor hs.typeIs entry_set_rxor ?_ (F.args_set_rxor_2 _ _)
  refine wpAny_bind (m := pure (Value.ref l, Value.int a t)) (wpAny_pure ?_)
  refine wpAny_bind (andM_wp (anySet_int ?_))
  rw [if_neg (by decide)]
  simp only [Bool.not_false, if_true]
  exact wpAny_bind (wpAny_rule (wpAny_pure ⟨_, rfl, h⟩))
theorem int_set_dec {E : Value → Shared → Prop} {a : Int} {t : Tok} {l : Addr} {xs : List Int} (hs : IsS s.heap l false xs) : Declines c.M A E (call (.builtin "int.__xor__") [.int a t, .ref l]) s :=
  declines_at F.slot_int_xor (typeIs_int s a t) F.entry_int_xor (F.args_int_xor_2 _ _) (xor_ref a t l) hs.noPrim
theorem int_rset_dec {E : Value → Shared → Prop} {a : Int} {t : Tok} {l : Addr} {xs : List Int} (hs : IsS s.heap l false xs) : Declines c.M A E (call (.builtin "int.__rxor__") [.int a t, .ref l]) s :=
  declines_at F.slot_int_rxor (typeIs_int s a t) entry_int_rxor (F.args_int_rxor_2 _ _) (rxor_ref a t l) hs.noPrim
theorem b1_int_set {E : Value → Shared → Prop} {a : Int} {t : Tok} {l : Addr} {xs : List Int} (hs : IsS s.heap l false xs) {Q' : Option Value → Shared → Prop} (h : Q' none s) : wpAny c.M A (binaryOp1 "xor" (.int a t) (.ref l)) Q' E s :=
  b1_none_two (T := "int") (U := "set") (by decide) (typeIs_int s a t) hs.typeIs F.fills_int_xor F.fills_set_xor sub_set_int F.slot_int_xor F.slot_set_rxor (int_set_dec hs) (set_rxor_dec hs) h
theorem b1_set_int {E : Value → Shared → Prop} {a : Int} {t : Tok} {l : Addr} {xs : List Int} (hs : IsS s.heap l false xs) {Q' : Option Value → Shared → Prop} (h : Q' none s) : wpAny c.M A (binaryOp1 "xor" (.ref l) (.int a t)) Q' E s :=
  b1_none_two (T := "set") (U := "int") (by decide) hs.typeIs (typeIs_int s a t) F.fills_set_xor F.fills_int_xor sub_int_set F.slot_set_xor F.slot_int_rxor (set_xor_dec hs) (int_rset_dec hs) h
theorem te_msg_is : ∀ sym, sym = "/=" ∨ sym = "^=" → ((s!"unsupported operand type(s) for {sym}: '{shownName "int"}' and '{shownName "set"}'" : String) : Str).length ≤ sizeLine := te_msg "int" (by decide) "set" (by decide)
theorem te_msg_si : ((s!"unsupported operand type(s) for {"^="}: '{shownName "set"}' and '{shownName "int"}'" : String) : Str).length ≤ sizeLine := te_msg "set" (by decide) "int" (by decide) "^=" (.inr rfl)
theorem xor_te_iS {a : Int} {t : Tok} {l : Addr} {xs : List Int} (hm : Rm c q k A s.heap) (hs : IsS s.heap l false xs) : Tr c q A H (inplaceOp .BitXor (.int a t) (.ref l)) (.exc .te) s := by
  intro Q E P
  have pr := post_raise (Q' := Q) hm P
  have hb : ∀ Q' : Option Value → Shared → Prop, Q' none s → wpAny c.M A (binaryOp1 Operator.BitXor.info.2 (.int a t) (.ref l)) Q' E s := by
    intro Q' h
    have e : Operator.BitXor.info.2 = "xor" := rfl
    rw [e]
    exact b1_int_set hs h
  have ht := hs.typeIs
  exact inpl_te_plain (M := c.M) (A := A) (E := E) (s := s) (T := "int") (U := "set") (op := .BitXor) (Q := Q) (.inr rfl) (typeIs_int s a t) ht (by decide) (by decide) F.noI_int_xor hb te_msg_is pr
theorem fillsI_set_xor : fillsInplaceSlot (.type "set") "xor" false = pure true := by
  unfold fillsInplaceSlot
  show (typeLookup (.type "set") (dunderI "xor") >>= fun fi => pure (fi.isSome && !isSeqSlot fi)) = pure true
  rw [typeLookup_type, builtinLookup_eq_fast]; kernel_rfl
theorem xor_te_Si {a : Int} {t : Tok} {l : Addr} {xs : List Int} (hm : Rm c q k A s.heap) (hs : IsS s.heap l false xs) : Tr c q A H (inplaceOp .BitXor (.ref l) (.int a t)) (.exc .te) s := fun Q E P => by
  have pr := post_raise (Q' := Q) hm P
  unfold inplaceOp
  refine wpAny_holding ?_
  refine wpAny_bind (wpAny_typeOf hs.typeIs (wpAny_bind (wpAny_of_eq (show fillsInplaceSlot (.type "set") Operator.BitXor.info.2 (Operator.BitXor == .Add) = pure true from fillsI_set_xor) ?_)))
  simp only [if_true]
  refine wpAny_bind (try_declines hs.typeIs F.slot_set_ixor (set_ixor_dec hs) ?_)
  simp only
  have e : Operator.BitXor.info.2 = "xor" := rfl
  rw [e]
  refine wpAny_bind (b1_set_int hs ?_)
  simp only
  show wpAny _ _ (binopTypeError "^=" (.ref l) (.int a t) : Sem Value) Q E s
  unfold binopTypeError
  refine wpAny_bind (wpAny_rule (wpAny_bind (wpAny_typeNameOf' hs.typeIs (by decide) (wpAny_bind (wpAny_typeNameOf' (typeIs_int s a t) (by decide) ?_)))))
  exact wpAny_raiseErrorMade plainExc_TypeError pr.1 pr.2 te_msg_si

/- an int and a bool -/
theorem xor_int_bool (a : Int) (t : Tok) (b : Bool) : Gives (Builtin.«int.__xor__» ⟨[.int a t, .bool b], []⟩) (.int (Builtin.bitXor a (b2i b))) := Gives.of_eq rfl
theorem rxor_bool_int (a : Int) (t : Tok) (b : Bool) : Gives (Builtin.«bool.__rxor__» ⟨[.bool b, .int a t], []⟩) (.int (Builtin.bitXor a (b2i b))) :=
  Gives.rule (tag := "bool.bitwise.as-ints") (Gives.again (id' := "int.__xor__") (args' := ⟨[.int a t, .bool b], []⟩) rfl F.slot_int_xor.plain F.entry_int_xor (xor_int_bool a t b))
theorem reflDiffers_int_bool_xor : reflectedDiffers (.type "int") (.type "bool") "xor" = pure true := by
  unfold reflectedDiffers
  show (typeLookup (.type "bool") (dunderR "xor") >>= fun rb => typeLookup (.type "int") (dunderR "xor") >>= fun ra => pure (rb.isSome && rb != ra)) = pure true
  rw [typeLookup_type, typeLookup_type, builtinLookup_eq_fast]; kernel_rfl
theorem try_int {M : Model} {E : Value → Shared → Prop} {a b : Value} {T : String} {name : Str} {id : String} {Q : Option Value → Shared → Prop} {i : Int} {u : Tok} {s' : Shared} (hT : s.TypeIs a T) (hl : Slot T name id) (hc : ∀ Q' : Value → Shared → Prop, Q' (.int i u) s' → wpAny M A (call (.builtin id) [a, b]) Q' E s) (h : Q (some (.int i u)) s') : wpAny M A (tryMethod a name b) Q E s := by
  simp only [tryMethod]
  exact wpAny_bind (wpAny_callSpecial?_slot hT hl (hc _ (wpAny_pure h)))
theorem call_rxor {E : Value → Shared → Prop} {a : Int} {t : Tok} {b : Bool} {Q : Value → Shared → Prop} (h : Q (.int (Builtin.bitXor a (b2i b)) s.toks) { s with toks := s.toks + 1 }) : wpAny c.M A (call (.builtin "bool.__rxor__") [.bool b, .int a t]) Q E s :=
  call_gives F.slot_bool_rxor (show s.TypeIs (.bool b) "bool" from rfl) F.entry_bool_rxor (F.args_bool_rxor_2 _ _) (rxor_bool_int a t b) (show (Made.int (Builtin.bitXor a (b2i b))).post Q s from h)
theorem b1_refl_first {M : Model} {E : Value → Shared → Prop} {a b : Value} {T U nm idr : String} {Q : Option Value → Shared → Prop} {i : Int} {u : Tok} {s' : Shared} (hTU : T ≠ U) (ha : s.TypeIs a T) (hb : s.TypeIs b U) (hfT : fillsNumberSlot (.type T) nm = pure true) (hfU : fillsNumberSlot (.type U) nm = pure true) (hsub : isSubtype (.type U) (.type T) = pure true)
    (hd : reflectedDiffers (.type T) (.type U) nm = pure true) (hr : Slot U (dunderR nm) idr) (hc : ∀ Q' : Value → Shared → Prop, Q' (.int i u) s' → wpAny M A (call (.builtin idr) [b, a]) Q' E s) (h : Q (some (.int i u)) s') : wpAny M A (binaryOp1 nm a b) Q E s := by
  have hne : (Value.type T == Value.type U) = false := by simpa using hTU
  refine wpAny_bind (wpAny_typeOf ha (wpAny_bind (wpAny_typeOf hb (wpAny_bind (wpAny_of_eq hfT (ite_f hne (wpAny_bind (wpAny_of_eq hfU ?_))))))))
  refine wpAny_bind (wpAny_of_eq hsub ?_)
  refine wpAny_bind (wpAny_of_eq hd ?_)
  refine wpAny_bind (wpAny_rule (wpAny_bind (try_int hb hr hc ?_)))
  exact wpAny_pure h
theorem b1_int_bool {E : Value → Shared → Prop} {a : Int} {t : Tok} {b : Bool} {Q : Option Value → Shared → Prop} (h : Q (some (.int (Builtin.bitXor a (b2i b)) s.toks)) { s with toks := s.toks + 1 }) : wpAny c.M A (binaryOp1 "xor" (.int a t) (.bool b)) Q E s := by
  have hT : s.TypeIs (.bool b) "bool" := rfl
  have hc : ∀ Q' : Value → Shared → Prop, Q' (.int (Builtin.bitXor a (b2i b)) s.toks) { s with toks := s.toks + 1 } → wpAny c.M A (call (.builtin "bool.__rxor__") [.bool b, .int a t]) Q' E s := fun Q' q => call_rxor q
  exact b1_refl_first (M := c.M) (T := "int") (U := "bool") (nm := "xor") (idr := "bool.__rxor__") (i := Builtin.bitXor a (b2i b)) (u := s.toks) (s' := { s with toks := s.toks + 1 }) (by decide) (typeIs_int s a t) hT F.fills_int_xor F.fills_bool_xor isSubtype_bool_int reflDiffers_int_bool_xor F.slot_bool_rxor hc h
theorem ibXor_ok {a : Int} {t : Tok} {b : Bool} : Tr c q A H (inplaceOp .BitXor (.int a t) (.bool b)) (.ok (.int (Builtin.bitXor a (b2i b)))) s := fun Q E P => by
  unfold inplaceOp
  refine wpAny_holding ?_
  have hfi : fillsInplaceSlot (.type "int") Operator.BitXor.info.2 (Operator.BitXor == .Add) = pure false := by
    unfold fillsInplaceSlot
    show (typeLookup (.type "int") (dunderI "xor") >>= fun fi => pure (fi.isSome && !isSeqSlot fi)) = pure false
    rw [F.noI_int_xor]; rfl
  refine wpAny_bind (wpAny_typeOf (typeIs_int s a t) (wpAny_bind (wpAny_of_eq hfi ?_)))
  simp only [Bool.false_eq_true, if_false]
  have e : Operator.BitXor.info.2 = "xor" := rfl
  rw [e]
  refine wpAny_bind (b1_int_bool ?_)
  exact wpAny_pure (P _ _ Kp.toks ⟨_, rfl⟩)

noncomputable def xorV : AV → AV → Res
  | .int a, .int b => .ok (.int (Builtin.bitXor a b))
  | .bool a, .bool b => .ok (.bool (a != b))
  | .int a, .bool b => .ok (.int (Builtin.bitXor a (b2i b)))
  | .int _, .str _ => .exc .te
  | .int _, .none => .exc .te
  | .int _, .lst _ => .exc .te
  | .int _, .set false _ => .exc .te
  | .str _, .int _ => .exc .te
  | .none, .int _ => .exc .te
  | .lst _, .int _ => .exc .te
  | .set false _, .int _ => .exc .te
  | _, _ => .stuck
theorem xorV_ok {a b : AV} {va vb : Value} (hm : Rm c q (k + 1) A s.heap) (ra : RepO s.heap H va a) (rb : RepO s.heap H vb b) : Tr c q A H (inplaceOp .BitXor va vb) (xorV a b) s := by
  unfold xorV
  split
  · obtain ⟨t, rfl⟩ := ra; obtain ⟨u, rfl⟩ := rb; exact fun Q E P => PyProof.Rows.ixor_int (P _ _ Kp.toks ⟨_, rfl⟩)
  · cases ra; cases rb; exact fun Q E P => PyProof.Rows.ixor_bool (P _ _ (Kp.refl _ _) rfl)
  · obtain ⟨t, rfl⟩ := ra; cases rb; exact ibXor_ok
  · obtain ⟨t, rfl⟩ := ra; obtain ⟨u, rfl⟩ := rb; exact xor_te_is hm
  · obtain ⟨t, rfl⟩ := ra; cases rb; exact xor_te_in hm
  · obtain ⟨t, rfl⟩ := ra; obtain ⟨_, l, vs, rfl, hl, _⟩ := rb; exact xor_te_il hm hl
  · obtain ⟨t, rfl⟩ := ra; obtain ⟨l, rfl, hl⟩ := rb; exact xor_te_iS hm hl
  · obtain ⟨t, rfl⟩ := ra; obtain ⟨u, rfl⟩ := rb; exact xor_te_si hm
  · cases ra; obtain ⟨u, rfl⟩ := rb; exact xor_te_ni hm
  · obtain ⟨_, l, vs, rfl, hl, _⟩ := ra; obtain ⟨u, rfl⟩ := rb; exact xor_te_li hm hl
  · obtain ⟨l, rfl, hl⟩ := ra; obtain ⟨u, rfl⟩ := rb; exact xor_te_Si hm hl
  · exact Tr.stuck
noncomputable def strCmp (op : CmpOp) (a b : Str) : Option Bool := match op with
  | .Eq => some (a == b)
  | .NotEq => some (a != b)
  | _ => none
theorem strCmp_ok {op : CmpOp} {a b : Str} {t u : Tok} {r : Bool} (h : strCmp op a b = some r) : Tr c q A H (compareOp op (.str a t) (.str b u)) (.ok (.bool r)) s := by
  intro Q E P
  cases op <;> simp only [strCmp, Option.some.injEq, reduceCtorEq] at h <;> subst h
  · exact PyProof.Rows.eq_str (post_bool P)
  · exact PyProof.Rows.ne_str (post_bool P)
end
end Mine
end
section
open PySem PySem.W PyProof.Rows
namespace Mine
set_option maxRecDepth 100000

noncomputable def asPart : AV → Option (Option Int)
  | .none => some none
  | .int i => some (some i)
  | _ => none
theorem asPart_ok {R : Vw} {v : Value} {x : AV} {p : Option Int} (h : asPart x = some p) (r : Rep R v x) : IsPart v p := by
  cases x <;> simp only [asPart, reduceCtorEq, Option.some.injEq] at h
  · subst h; simp only [Rep] at r; subst r; exact .none
  · subst h; simp only [Rep] at r; obtain ⟨t, rfl⟩ := r; exact .int _ _

noncomputable def pickL (xs : List AV) (lo hi st : Option Int) : List AV :=
  (sliceRange (sliceBounds lo hi st xs.length).1 (sliceBounds lo hi st xs.length).2.1 (sliceBounds lo hi st xs.length).2.2).filterMap (xs[·]?)

theorem RepL.pick {R : Vw} {vs : List Value} {xs : List AV} (r : RepL R vs xs) : ∀ is : List Nat, RepL R (is.filterMap (vs[·]?)) (is.filterMap (xs[·]?))
  | [] => by simp [RepL]
  | i :: is => by
    cases hx : xs[i]? with
    | none =>
      have hv : vs[i]? = none := by rw [List.getElem?_eq_none_iff] at hx ⊢; rw [r.length]; exact hx
      simp only [List.filterMap_cons, hx, hv]
      exact RepL.pick r is
    | some x =>
      obtain ⟨v, hv, q⟩ := r.get hx
      simp only [List.filterMap_cons, hx, hv, RepL]
      exact ⟨q, RepL.pick r is⟩

theorem IsL.typeIs {s : Shared} {a : Addr} {vs : List Value} (x : IsL s.heap a vs) : s.TypeIs (.ref a) "list" := x.isList.typeIs

noncomputable def ints? : List AV → Option (List Int)
  | [] => some []
  | .int i :: r => (ints? r).map (i :: ·)
  | _ :: _ => none

theorem ints_items {R : Vw} : ∀ {xs : List AV} {vs : List Value} {ns : List Int}, ints? xs = some ns → RepL R vs xs → ∃ ps : List (Int × Tok), vs.toArray = intItems ps.toArray ∧ ps.map (·.1) = ns
  | [], [], ns, h, _ => by simp [ints?] at h; subst h; exact ⟨[], by simp [intItems], rfl⟩
  | [], _ :: _, _, _, r => by simp [RepL] at r
  | _ :: _, [], _, _, r => by simp [RepL] at r
  | x :: xs, v :: vs, ns, h, r => by
    simp only [RepL] at r
    cases x <;> simp only [ints?, reduceCtorEq, Option.map_eq_some_iff] at h
    rename_i i
    obtain ⟨ms, h, rfl⟩ := h
    obtain ⟨ps, e1, e2⟩ := ints_items h r.2
    obtain ⟨r1, _⟩ := r
    simp only [Rep] at r1
    obtain ⟨t, rfl⟩ := r1
    refine ⟨(i, t) :: ps, ?_, by simp [e2]⟩
    have e3 : vs = ps.map fun p => Value.int p.1 p.2 := by have := congrArg Array.toList e1; simpa [intItems] using this
    rw [e3]; simp [intItems]

/-- the greatest of a row -/
noncomputable def maxI : List Int → Option Int
  | [] => none
  | [a] => some a
  | a :: r => (maxI r).map fun m => if m > a then m else a
noncomputable def minI : List Int → Option Int
  | [] => none
  | [a] => some a
  | a :: r => (minI r).map fun m => if m < a then m else a
theorem maxI_of {m : Int} : ∀ {l : List Int}, m ∈ l → (∀ x ∈ l, x ≤ m) → maxI l = some m
  | [], h, _ => by cases h
  | [a], h, _ => by simp at h; subst h; rfl
  | a :: b :: r, h, k => by
    show (maxI (b :: r)).map _ = _
    by_cases hb : m ∈ b :: r
    · rw [maxI_of hb fun x hx => k x (List.mem_cons_of_mem _ hx)]
      have := k a (List.mem_cons_self ..)
      show some (if m > a then m else a) = some m
      split <;> congr 1 <;> omega
    · have ha : m = a := (List.mem_cons.mp h).resolve_right hb
      subst ha
      have : ∃ y, maxI (b :: r) = some y ∧ y ≤ m := by
        have : ∀ l : List Int, l ≠ [] → ∃ y, maxI l = some y ∧ y ∈ l := by
          intro l
          induction l with
          | nil => intro h; exact absurd rfl h
          | cons a l ih =>
            intro _
            cases l with
            | nil => exact ⟨a, rfl, by simp⟩
            | cons b l =>
              obtain ⟨y, e, h⟩ := ih (by simp)
              refine ⟨if y > a then y else a, by show (maxI (b :: l)).map _ = _; rw [e]; rfl, ?_⟩
              split
              · exact List.mem_cons_of_mem _ h
              · exact List.mem_cons_self ..
        obtain ⟨y, e, h⟩ := this (b :: r) (by simp)
        exact ⟨y, e, k y (List.mem_cons_of_mem _ h)⟩
      obtain ⟨y, e, hy⟩ := this
      rw [e]
      show some (if y > m then y else m) = some m
      rw [if_neg (by omega)]
theorem minI_neg : ∀ l : List Int, minI l = (maxI (l.map (- ·))).map (- ·)
  | [] => rfl
  | [a] => by simp [minI, maxI]
  | a :: b :: r => by
    show (minI (b :: r)).map _ = ((maxI ((b :: r).map (- ·))).map _).map _
    rw [minI_neg (b :: r)]
    cases maxI ((b :: r).map (- ·)) with
    | none => rfl
    | some y => simp only [Option.map_some]; congr 1; split <;> split <;> omega
theorem minI_of {m : Int} {l : List Int} (h : m ∈ l) (k : ∀ x ∈ l, m ≤ x) : minI l = some m := by
  rw [minI_neg, maxI_of (m := -m) (List.mem_map.mpr ⟨m, h, rfl⟩) (fun x hx => by obtain ⟨y, hy, rfl⟩ := List.mem_map.mp hx; have := k y hy; omega)]
  simp

theorem numAt_list (ps : List (Int × Tok)) (i : Nat) (h : i < ps.length) : numAt ps.toArray i = (ps[i]).1 := by simp [numAt, h]

section
variable {c : Cx} {q : Bool} {k : Nat} {A : Around} {s : Shared} {H : Hd}
theorem best_max {ps : List (Int × Tok)} {v : Value} (hne : 0 < ps.length) (h : (intItems ps.toArray)[argBest (fun i j => decide (numAt ps.toArray i > numAt ps.toArray j)) (ps.toArray.size - 1)]? = some v) :
    ∃ m t, v = .int m t ∧ maxI (ps.map (·.1)) = some m := by
  obtain ⟨h1, h2⟩ := argBest_gt (numAt ps.toArray) (ps.toArray.size - 1)
  generalize argBest (fun i j => decide (numAt ps.toArray i > numAt ps.toArray j)) (ps.toArray.size - 1) = b at h h1 h2
  simp only [List.size_toArray] at h1 h2
  have hb : b < ps.length := by omega
  refine ⟨(ps[b]).1, (ps[b]).2, ?_, maxI_of (List.mem_map.mpr ⟨ps[b], List.getElem_mem _, rfl⟩) fun x hx => ?_⟩
  · simp [intItems, hb] at h; exact h.symm
  · obtain ⟨p, hp, rfl⟩ := List.mem_map.mp hx
    obtain ⟨j, hj, rfl⟩ := List.mem_iff_getElem.mp hp
    have := h2 j (by omega)
    rw [numAt_list ps j hj, numAt_list ps b hb] at this
    exact this
theorem best_min {ps : List (Int × Tok)} {v : Value} (hne : 0 < ps.length) (h : (intItems ps.toArray)[argBest (fun i j => decide (numAt ps.toArray i < numAt ps.toArray j)) (ps.toArray.size - 1)]? = some v) :
    ∃ m t, v = .int m t ∧ minI (ps.map (·.1)) = some m := by
  obtain ⟨h1, h2⟩ := argBest_lt (numAt ps.toArray) (ps.toArray.size - 1)
  generalize argBest (fun i j => decide (numAt ps.toArray i < numAt ps.toArray j)) (ps.toArray.size - 1) = b at h h1 h2
  simp only [List.size_toArray] at h1 h2
  have hb : b < ps.length := by omega
  refine ⟨(ps[b]).1, (ps[b]).2, ?_, minI_of (List.mem_map.mpr ⟨ps[b], List.getElem_mem _, rfl⟩) fun x hx => ?_⟩
  · simp [intItems, hb] at h; exact h.symm
  · obtain ⟨p, hp, rfl⟩ := List.mem_map.mp hx
    obtain ⟨j, hj, rfl⟩ := List.mem_iff_getElem.mp hp
    have := h2 j (by omega)
    rw [numAt_list ps j hj, numAt_list ps b hb] at this
    exact this

/-- two lists behind each other -/
theorem lists_add {l b : Addr} {vs ws : List Value} {xs ys : List AV} (hL : Live H s.heap) (hl : IsL s.heap l vs) (hb : IsL s.heap b ws) (hx : RepL (vis s.heap H) vs xs) (hy : RepL (vis s.heap H) ws ys) (hz : xs.length + ys.length ≤ 1048576) :
    Tr c q A H (binaryOp .Add (.ref l) (.ref b)) (.ok (.lst (xs ++ ys))) s := by
  intro Q E P
  obtain ⟨⟨cls, dd, data, sl⟩, n, ho, hc, hd, _⟩ := id hl
  obtain ⟨⟨cls2, dd2, data2, sl2⟩, n2, ho2, hc2, hd2, _⟩ := id hb
  simp only at hc hd hc2 hd2
  subst hc hd hc2 hd2
  have e : vs.toArray ++ ws.toArray = (vs ++ ws).toArray := by simp
  refine concat_meets ⟨_, ho, rfl⟩ ⟨_, ho2, rfl⟩ noFill_list_add seq_list_add PySem.F.slot_list_add PySem.F.entry_list_add (PySem.F.args_list_add_2 _ _) (list_addW l b vs.toArray ws.toArray n n2 dd dd2 sl sl2 (by simp [hx.length, hy.length]; exact line_ok hz)) ⟨ho, ho2, ?_⟩
  rw [e]
  exact P _ _ (Kp.push _) (rep_fresh_list hL (by simpa using hz) (hx.append hy))

noncomputable def idxL (xs : List AV) (i : Int) : Res :=
  if 0 ≤ i then (match xs[i.toNat]? with | some x => .ok x | none => .stuck) else if -(xs.length : Int) ≤ i then (match xs[(i + xs.length).toNat]? with | some x => .ok x | none => .stuck) else .stuck
theorem idxL_ok {l : Addr} {vs : List Value} {xs : List AV} {i : Int} {t : Tok} (hl : IsL s.heap l vs) (hz : xs.length ≤ 1048576) (r : RepL (vis s.heap H) vs xs) : Tr c q A H (getItem (.ref l) (.int i t)) (idxL xs i) s := by
  intro Q E P
  unfold idxL at P
  by_cases h0 : 0 ≤ i
  · rw [if_pos h0] at P
    cases hx : xs[i.toNat]? with
    | none => rw [hx] at P; exact P.elim
    | some x =>
      rw [hx] at P
      obtain ⟨v, hv, rv⟩ := r.get hx
      have : i.toNat < xs.length := by obtain ⟨h, _⟩ := List.getElem?_eq_some_iff.mp hx; exact h
      exact wpAny_getItem_list hl.isList h0 (by omega) (x := v) (by simpa using hv) (P _ _ (Kp.refl _ _) rv)
  · rw [if_neg h0] at P
    by_cases h1 : -(xs.length : Int) ≤ i
    · rw [if_pos h1] at P
      cases hx : xs[(i + xs.length).toNat]? with
      | none => rw [hx] at P; exact P.elim
      | some x =>
        rw [hx] at P
        obtain ⟨v, hv, rv⟩ := r.get hx
        exact wpAny_getItem_list_neg hl.isList (by omega) (by simpa [r.length] using h1) (by omega) (x := v) (by simpa [r.length] using hv) (P _ _ (Kp.refl _ _) rv)
    · rw [if_neg h1] at P; exact P.elim

noncomputable def sliceL (xs : List AV) (a b z : AV) : Res := match asPart a, asPart b, asPart z with
  | some lo, some hi, some st => if st = some 0 then .stuck else .ok (.lst (pickL xs lo hi st))
  | _, _, _ => .stuck
theorem sliceL_ok {l r : Addr} {vs : List Value} {xs : List AV} {x y z : AV} {ux uy uz : Value} (hL : Live H s.heap) (hl : IsL s.heap l vs) (hz : xs.length ≤ 1048576) (rr : RepL (vis s.heap H) vs xs) (h1 : Rep (vis s.heap H) ux x) (h2 : Rep (vis s.heap H) uy y) (h3 : Rep (vis s.heap H) uz z)
    (hr : s.heap.get? r = some { cls := .type "slice", data := .fields #[ux, uy, uz] }) : Tr c q A H (getItem (.ref l) (.ref r)) (sliceL xs x y z) s := by
  intro Q E P
  unfold sliceL at P
  cases e1 : asPart x with
  | none => rw [e1] at P; exact P.elim
  | some lo =>
    cases e2 : asPart y with
    | none => rw [e1, e2] at P; exact P.elim
    | some hi =>
      cases e3 : asPart z with
      | none => rw [e1, e2, e3] at P; exact P.elim
      | some st =>
        rw [e1, e2, e3] at P
        simp only at P
        by_cases h0 : st = some 0
        · rw [if_pos h0] at P; exact P.elim
        · rw [if_neg h0] at P
          refine wpAny_getItem_list_slice hl.isList ⟨_, hr, rfl, rfl⟩ (asPart_ok e1 h1) (asPart_ok e2 h2) (asPart_ok e3 h3) h0 ?_ (by simp [rr.length]; exact line_ok hz)
          have e : slicePick vs.toArray lo hi st = ((sliceRange (sliceBounds lo hi st xs.length).1 (sliceBounds lo hi st xs.length).2.1 (sliceBounds lo hi st xs.length).2.2).filterMap (vs[·]?)).toArray := by
            unfold slicePick; simp [rr.length]
          have hsz := slicePick_size_le vs.toArray lo hi st
          rw [e]
          rw [e] at hsz
          have rp := rr.pick (sliceRange (sliceBounds lo hi st xs.length).1 (sliceBounds lo hi st xs.length).2.1 (sliceBounds lo hi st xs.length).2.2)
          refine P _ _ (Kp.push _) (rep_fresh_list hL ?_ rp)
          have := rp.length
          simp only [List.size_toArray, rr.length] at hsz
          show (List.filterMap _ _).length ≤ _
          rw [← this]; omega
end
end Mine
end
section
open PySem PySem.W PyProof.Rows
namespace Mine
set_option maxRecDepth 100000

noncomputable def rangeL (a b s : Int) : List AV := (List.range (Builtin.Range.rangeSize a b s).toNat).map fun (i : Nat) => .int (a + i * s)

noncomputable def itemsV : AV → Option (List AV)
  | .lst xs => some xs
  | .tup xs => some xs
  | .range a b s => if Builtin.Range.small a b s = true then (if (Builtin.Range.rangeSize a b s).toNat ≤ 1048576 then some (rangeL a b s) else none) else none
  | _ => none

section
variable {c : Cx} {A : Around}
theorem itr_list (hh : A.handled = none) {I l : Addr} {vs : List Value} (hI : l ≠ I) : Itr c A I (fun b => b = I ∨ b = l) (fun i v => vs[i]? = some v) vs.length (fun i h => h.IsListIter I l i ∧ h.IsList l vs.toArray) where
  fld := fun i h ⟨⟨o, e, hc, hd⟩, _⟩ => ⟨o, _, e, hd, by rw [hc]; unfold okC; decide +kernel⟩
  nt := fun i h ⟨⟨o, e, hc, hd⟩, _⟩ => ⟨o, _, e, hc, by decide +kernel⟩
  frame := fun i h h' ⟨⟨o, e, hc, hd⟩, ⟨o2, e2, hc2, n, hd2⟩⟩ fr => by
    refine ⟨⟨o, (fr I o (.inl rfl) e).1 ⟨_, hd⟩, hc, hd⟩, ?_⟩
    obtain ⟨sl, e3⟩ := (fr l o2 (.inr rfl) e2).2
    exact ⟨_, e3, hc2, n, hd2⟩
  item := fun i s Q E hi ⟨hit, hl⟩ h => by
    refine wpAny_pyNext_list_item hit hl (x := vs[i]) (by simp [hi]) fun h' hit' sb => ?_
    exact h _ h' s.toks (by simp [hi]) ⟨hit', hl.extBut (fun b o hb e => (sb.2 b hb).trans e) hI⟩ (fun b o hb e => (sb.2 b hb).trans e) (let ⟨o, e, _⟩ := hit'; ⟨o, e⟩)
  done := fun s Q E ⟨hit, hl⟩ h => wpAny_pyNext_list_end hh hit hl (by simp) fun h' eb => h h' s.toks fun b o hb e => eb b o hb e
  self := fun i s Q E ⟨hit, _⟩ h => wpAny_pyIter_listiter hit h

theorem itr_tup (hh : A.handled = none) {I l : Addr} {vs : List Value} (hI : l ≠ I) : Itr c A I (fun b => b = I ∨ b = l) (fun i v => vs[i]? = some v) vs.length (fun i h => h.IsTupleIter I l i ∧ h.IsTuple l vs.toArray) where
  fld := fun i h ⟨⟨o, e, hc, hd⟩, _⟩ => ⟨o, _, e, hd, by rw [hc]; unfold okC; decide +kernel⟩
  nt := fun i h ⟨⟨o, e, hc, hd⟩, _⟩ => ⟨o, _, e, hc, by decide +kernel⟩
  frame := fun i h h' ⟨⟨o, e, hc, hd⟩, ⟨o2, e2, hc2, n, hd2⟩⟩ fr => by
    refine ⟨⟨o, (fr I o (.inl rfl) e).1 ⟨_, hd⟩, hc, hd⟩, ?_⟩
    obtain ⟨sl, e3⟩ := (fr l o2 (.inr rfl) e2).2
    exact ⟨_, e3, hc2, n, hd2⟩
  item := fun i s Q E hi ⟨hit, hl⟩ h => by
    refine wpAny_pyNext_tuple_item hit hl (x := vs[i]) (by simp [hi]) fun h' hit' sb => ?_
    exact h _ h' s.toks (by simp [hi]) ⟨hit', hl.extBut (fun b o hb e => (sb.2 b hb).trans e) hI⟩ (fun b o hb e => (sb.2 b hb).trans e) (let ⟨o, e, _⟩ := hit'; ⟨o, e⟩)
  done := fun s Q E ⟨hit, hl⟩ h => wpAny_pyNext_tuple_end hh hit hl (by simp) fun h' eb => h h' s.toks fun b o hb e => eb b o hb e
  self := fun i s Q E ⟨hit, _⟩ h => wpAny_pyIter_tupleiter hit h

theorem itr_range (hh : A.handled = none) {I : Addr} {a b st : Int} (hs : 0 ≤ Builtin.Range.rangeSize a b st) : Itr c A I (fun b => b = I) (fun i v => ∃ t, v = .int (a + i * st) t) (Builtin.Range.rangeSize a b st).toNat
    (fun i h => IsRangeIter h I (a + i * st) (Builtin.Range.rangeSize a b st - i) st) where
  fld := fun i h hit => ⟨_, _, hit, rfl, by show ¬ okC (.type "range_iterator"); unfold okC; decide +kernel⟩
  nt := fun i h hit => ⟨_, _, hit, rfl, by decide +kernel⟩
  frame := fun i h h' hit fr => (fr I _ rfl hit).1 ⟨_, rfl⟩
  item := fun i s Q E hi hit h => by
    refine wpAny_pyNext_range_item hit (by omega) fun h' hit' sb => ?_
    refine h _ h' (s.toks + 1) ⟨_, rfl⟩ ?_ (fun b o hb e => (sb.2 b hb).trans e) ⟨_, hit'⟩
    have e1 : a + (i : Int) * st + st = a + ((i + 1 : Nat) : Int) * st := by rw [Int.natCast_add, Int.add_mul]; omega
    have e2 : Builtin.Range.rangeSize a b st - (i : Int) - 1 = Builtin.Range.rangeSize a b st - ((i + 1 : Nat) : Int) := by omega
    rw [e1, e2] at hit'
    exact hit'
  done := fun s Q E hit h => wpAny_pyNext_range_end hh hit (by omega) fun h' eb => h h' s.toks fun b o hb e => eb b o hb e
  self := fun i s Q E hit h => wpAny_pyIter_rangeiter hit h

theorem rangeSize_nonneg (a b s : Int) : 0 ≤ Builtin.Range.rangeSize a b s := by
  unfold Builtin.Range.rangeSize
  split
  · split
    · exact Int.add_nonneg (Int.ediv_nonneg (by omega) (by omega)) (by omega)
    · omega
  · split
    · exact Int.add_nonneg (Int.ediv_nonneg (by omega) (by omega)) (by omega)
    · omega

theorem itemsV_ref {a : AV} {xs : List AV} (h : itemsV a = some xs) : (∀ n, a ≠ .ptr n) ∧ (∀ k ys, a ≠ .itr k ys) ∧ a ≠ .any :=
  ⟨by rintro b rfl; simp [itemsV] at h, by rintro k ys rfl; simp [itemsV] at h, by rintro rfl; simp [itemsV] at h⟩

theorem itemsV_ok {q : Bool} {k : Nat} {s : Shared} {H : Hd} {a : AV} {va : Value} {xs : List AV} (hm : Rm c q (k + 1) A s.heap) (hq : q = true) (r : RepO s.heap H va a) (h : itemsV a = some xs) (Q E : Value → Shared → Prop)
    (K : ∀ I fp P St h' tk, (∀ b o, s.heap.get? b = some o → h'.get? b = some o) → s.heap.get? I = none → fp I → (∀ b, fp b → ∃ o, h'.get? b = some o) → (∀ b, fp b → b = I ∨ va = .ref b) → xs.length ≤ 1048576 → Itr c A I fp P xs.length St → St 0 h' →
      (∀ (i : Nat) v x, P i v → xs[i]? = some x → Rep (vis s.heap H) v x) → Q (.ref I) { s with heap := h', toks := tk }) : wpAny c.M A (pyIter va) Q E s := by
  have hh := hm.hand hq
  cases a <;> simp only [itemsV, reduceCtorEq] at h
  · rename_i a b st
    by_cases hsm : Builtin.Range.small a b st = true
    case neg => rw [if_neg hsm] at h; cases h
    rw [if_pos hsm] at h
    by_cases hsz : (Builtin.Range.rangeSize a b st).toNat ≤ 1048576
    case neg => rw [if_neg hsz] at h; cases h
    rw [if_pos hsz] at h
    cases h
    simp only [RepO, Rep] at r
    obtain ⟨r, ta, tb, ts, rfl, _, o, e, hc, hd, hdi, _, hsl⟩ := r
    have hr : IsRange s.heap r a b st ta tb ts := by
      show s.heap.get? r = _
      rw [e]; obtain ⟨c', d', da', sl'⟩ := o
      simp only at hc hd hdi hsl
      rw [hc, hd, hdi, hsl ⟨_, rfl⟩]
    refine wpAny_pyIter_range hr hsm ?_
    refine K s.heap.objs.size (fun b => b = s.heap.objs.size) (fun i v => ∃ t, v = .int (a + i * st) t) (fun i h => IsRangeIter h s.heap.objs.size (a + i * st) (Builtin.Range.rangeSize a b st - i) st) _ s.toks (fun b o e => Heap.get?_push_of_some _ e) (Heap.get?_none_of_le (Nat.le_refl _)) rfl (fun b hb => by subst hb; exact ⟨_, Heap.get?_push_size _ rfl⟩) (fun b hb => .inl hb) (by simpa [rangeL] using hsz)
      (by simp only [rangeL, List.length_map, List.length_range]; exact itr_range hh (rangeSize_nonneg a b st)) ?_ ?_
    · simp only [Int.natCast_zero, Int.zero_mul, Int.add_zero, Int.sub_zero]
      exact Heap.get?_push_size _ rfl
    · rintro i v x ⟨t, rfl⟩ hx
      simp only [rangeL, List.getElem?_map, Option.map_eq_some_iff] at hx
      obtain ⟨j, hj, rfl⟩ := hx
      obtain ⟨hj1, hj2⟩ := List.getElem?_eq_some_iff.mp hj
      simp at hj2
      subst hj2
      exact ⟨t, rfl⟩
  · cases h
    simp only [RepO, Rep] at r
    obtain ⟨hz, l, vs, n, rfl, ⟨_, o, e, hc, hd, _⟩, rl⟩ := r
    have ht : s.heap.IsTuple l vs.toArray := ⟨o, e, hc, n, hd⟩
    have hlt := Heap.lt_size e
    refine wpAny_pyIter_tuple ht ?_
    refine K s.heap.objs.size (fun b => b = s.heap.objs.size ∨ b = l) (fun i v => vs[i]? = some v) (fun i h => h.IsTupleIter s.heap.objs.size l i ∧ h.IsTuple l vs.toArray) _ s.toks (fun b o e => Heap.get?_push_of_some _ e) (Heap.get?_none_of_le (Nat.le_refl _)) (.inl rfl) (fun b hb => ?_) (fun b hb => hb.imp id fun x => by rw [x]) hz
      (by rw [← rl.length]; exact itr_tup hh (l := l) (vs := vs) (Nat.ne_of_lt hlt)) ⟨⟨_, Heap.get?_push_size _ rfl, rfl, rfl⟩, ht.push _⟩ ?_
    · rcases hb with rfl | rfl
      · exact ⟨_, Heap.get?_push_size _ rfl⟩
      · exact ⟨o, Heap.get?_push_of_some _ e⟩
    · intro i v x hv hx
      obtain ⟨v', hv', rv⟩ := rl.get hx
      rw [hv] at hv'; cases hv'; exact rv
  · cases h
    simp only [RepO] at r
    obtain ⟨hz, l, vs, rfl, hl, rl⟩ := r
    obtain ⟨o, n, e, hc, hd, _⟩ := id hl
    have hlt := Heap.lt_size e
    refine wpAny_pyIter_list hl.isList ?_
    refine K s.heap.objs.size (fun b => b = s.heap.objs.size ∨ b = l) (fun i v => vs[i]? = some v) (fun i h => h.IsListIter s.heap.objs.size l i ∧ h.IsList l vs.toArray) _ s.toks (fun b o e => Heap.get?_push_of_some _ e) (Heap.get?_none_of_le (Nat.le_refl _)) (.inl rfl) (fun b hb => ?_) (fun b hb => hb.imp id fun x => by rw [x]) hz
      (by rw [← rl.length]; exact itr_list hh (l := l) (vs := vs) (Nat.ne_of_lt hlt)) ⟨⟨_, Heap.get?_push_size _ rfl, rfl, rfl⟩, hl.isList.push _⟩ ?_
    · rcases hb with rfl | rfl
      · exact ⟨_, Heap.get?_push_size _ rfl⟩
      · exact ⟨o, Heap.get?_push_of_some _ e⟩
    · intro i v x hv hx
      obtain ⟨v', hv', rv⟩ := rl.get hx
      rw [hv] at hv'; cases hv'; exact rv
end

noncomputable def MO.isItr : MO → Bool
  | .itr _ _ => true
  | _ => false
theorem getItem_tupleI {prog : Program} {w : World} {A : Around} {E : Value → Shared → Prop} {s : Shared} {t : Addr} {items : Array Value} {i : Int} {u : Tok} {x : Value} {Q : Value → Shared → Prop} (ht : s.heap.IsTuple t items) (h0 : 0 ≤ i) (hi : i < 1048576) (hx : items[i.toNat]? = some x) (h : Q x s) : wpAny (model prog w) A (getItem (.ref t) (.int i u)) Q E s := by
  have hlt : i.toNat < items.size := by
    rcases Nat.lt_or_ge i.toNat items.size with h | h
    · exact h
    · rw [Array.getElem?_eq_none h] at hx; cases hx
  refine PyProof.Rows.getItem_tuple (j := i.toNat) ht (by omega) (by omega) ?_ hx h
  simp [seqIndex?, h0, hlt]
  omega
theorem RepM.notFields {h : Heap} {R : Vw} {a : Addr} : ∀ {mo : MO}, mo.isItr = false → RepM h R a mo → ∃ o, h.get? a = some o ∧ ∀ vs, o.data ≠ .fields vs
  | .lst _, _, ⟨_, _, ⟨o, n, e, _, d, _⟩, _⟩ => ⟨o, e, fun _ z => by (rw [d] at z; cases z)⟩
  | .set _, _, ⟨o, es, ep, t, e, _, _, d, _⟩ => ⟨o, e, fun _ z => by (rw [d] at z; cases z)⟩
  | .itr _ _, h, _ => by cases h
theorem RepM.isFields {h : Heap} {R : Vw} {a : Addr} : ∀ {mo : MO}, mo.isItr = true → RepM h R a mo → ∃ o fs, h.get? a = some o ∧ o.data = .fields fs
  | .lst _, h, _ => by cases h
  | .set _, h, _ => by cases h
  | .itr k _, _, r => by
    obtain ⟨o, e, _, _, _, r⟩ := r
    cases k with
    | list => rcases r with ⟨_, t, d⟩ | ⟨l, vs, n, i, d, _⟩ <;> exact ⟨o, _, e, d⟩
    | tuple => rcases r with ⟨_, t, d⟩ | ⟨l, vs, n, i, d, _⟩ <;> exact ⟨o, _, e, d⟩
    | range =>
      obtain ⟨cur, left, st, it, _⟩ := r
      exact ⟨_, _, it, rfl⟩
/-- a thing of the store is written -/
theorem write_ss {A : Around} {lo : Nat} {σ : Store} {H : Hd} {s : Shared} {h' : Heap} {n : Nat} {a : Addr} {mo mo₀ : MO} {tk : Nat} (S : Sto σ H s.heap) (L : Live H s.heap) (hs : σ[n]? = some (some mo₀)) (hm : H.m n = some a) (hlo : lo ≤ n) (sb : Heap.SameBut a s.heap h') (r : RepM h' (vis h' H) a mo) (hk : mo.isItr = mo₀.isItr) :
    Ss A lo σ H s (σ.set n (some mo)) H { s with heap := h', toks := tk } := by
  have hn : n < σ.length := S.lt n a hm
  have le : (vis s.heap H).Le (vis h' H) := (Kv.of_sameBut (F := fun _ => False) (W := fun b => b = a) sb rfl).vis fun b z => z ▸ S.hidden hm
  have al : ∀ b o, s.heap.get? b = some o → ∃ o', h'.get? b = some o' := fun b o e => by
    by_cases hb : b = a
    · obtain ⟨o', e', _⟩ := r.data; exact ⟨o', hb ▸ e'⟩
    · exact ⟨o, (sb.2 b hb).trans e⟩
  have gs : ∀ (i : Nat) mo', (σ.set n (some mo))[i]? = some (some mo') → (i = n ∧ mo' = mo) ∨ (i ≠ n ∧ σ[i]? = some (some mo')) := fun i mo' e => by
    rw [List.getElem?_set] at e
    split at e
    · rename_i h
      subst h
      first
        | (simp at e; exact .inl ⟨rfl, e.symm⟩)
        | (split at e
           · simp at e; exact .inl ⟨rfl, e.symm⟩
           · cases e)
    · rename_i h; exact .inr ⟨Ne.symm h, e⟩
  exact {
    rest := ⟨h', tk, rfl⟩
    kv := Kv.of_sameBut sb ⟨n, mo₀, hlo, hs, hm⟩
    lv := al
    nf := fun b o e nf => by
      by_cases hb : b = a
      · subst hb
        obtain ⟨b', e1, r1⟩ := S.at' n _ hs
        rw [hm] at e1; cases e1
        cases hi : mo₀.isItr with
        | true =>
          obtain ⟨o', fs, e2, d2⟩ := r1.isFields hi
          rw [e] at e2; cases e2
          exact absurd d2 (nf _)
        | false => rw [hi] at hk; exact r.notFields hk
      · exact ⟨o, (sb.2 b hb).trans e, nf⟩
    hp := fun _ z => z
    hid := fun _ z => .inl z
    mx := fun _ _ z => z
    mn := fun _ _ z => .inl z
    o := rfl
    sto := ⟨fun i mo' e => by
        rcases gs i mo' e with ⟨rfl, rfl⟩ | ⟨ne, e⟩
        · exact ⟨a, hm, r⟩
        · obtain ⟨b, e1, r1⟩ := S.at' i mo' e
          exact ⟨b, e1, r1.kv (Kv.of_sameBut (F := fun _ => False) (W := fun b => b = a) sb rfl) (fun (z : b = a) => ne (S.inj i n b e1 (by rw [z]; exact hm))) le⟩, S.inj, fun i b e => by rw [List.length_set]; exact S.lt i b e, fun i b mo' _ e => S.hidden e, fun i b e => by
        obtain ⟨o, e'⟩ := S.al i b e; exact al b o e', fun i b e => by
        by_cases hi : i = n
        · subst hi; exact ⟨mo, by simp [hn]⟩
        · obtain ⟨mo', e'⟩ := S.tot i b e
          exact ⟨mo', by rw [List.getElem?_set_ne (Ne.symm hi)]; exact e'⟩⟩
    live := fun b z => by obtain ⟨o, e⟩ := L b z; exact al b o e
    len := by simp
    rv := fun i mo' _ e => by
      rcases gs i mo' e with ⟨rfl, _⟩ | ⟨_, e⟩
      · exact ⟨_, hs⟩
      · exact ⟨_, e⟩
    hm0 := S.lt }

/- the built-ins' calls -/
noncomputable def tyName : AV → Option String
  | .none => some "NoneType"
  | .bool _ => some "bool"
  | .int _ => some "int"
  | .float _ => some "float"
  | .str _ => some "str"
  | .bytes _ => some "bytes"
  | .lst _ => some "list"
  | .tup _ => some "tuple"
  | .range _ _ _ => some "range"
  | _ => none
theorem tyName_ok {s : Shared} {H : Hd} {v : Value} {x : AV} {T : String} (h : tyName x = some T) (r : RepO s.heap H v x) : s.TypeIs v T := by
  cases x <;> simp only [tyName, reduceCtorEq, Option.some.injEq] at h <;> subst h <;> simp only [RepO, Rep] at r
  · subst r; rfl
  · subst r; rfl
  · obtain ⟨t, rfl⟩ := r; rfl
  · obtain ⟨t, rfl⟩ := r; rfl
  · obtain ⟨t, rfl⟩ := r; rfl
  · obtain ⟨t, rfl⟩ := r; rfl
  · obtain ⟨r, ta, tb, ts, rfl, _, o, e, hc, _⟩ := r; exact ⟨o, e, hc⟩
  · obtain ⟨_, l, vs, n, rfl, ⟨_, o, e, hc, _⟩, _⟩ := r; exact ⟨o, e, hc⟩
  · obtain ⟨_, l, vs, rfl, hl, _⟩ := r; exact hl.typeIs

theorem tyName_nb {x : AV} {T : String} (h : tyName x = some T) : (Value.type T == Value.type "builtin_function_or_method") = false := by
  cases x <;> simp only [tyName, reduceCtorEq, Option.some.injEq] at h <;> subst h <;> decide

noncomputable def callB (f : BI) (xs : List AV) : Res := match f, xs with
  | .len, [.lst ys] => .ok (.int ys.length)
  | .sum, [.lst ys] => (match ints? ys with | some ns => .ok (.int ns.sum) | none => .stuck)
  | .abs, [.int a] => .ok (.int (if a < 0 then -a else a))
  | .range, [.int n] => .ok (.range 0 n 1)
  | .range, [.int a, .int b] => .ok (.range a b 1)
  | .max, [.lst ys] => (match ints? ys with | some ns => (match maxI ns with | some m => .ok (.int m) | none => .stuck) | none => .stuck)
  | .min, [.lst ys] => (match ints? ys with | some ns => (match minI ns with | some m => .ok (.int m) | none => .stuck) | none => .stuck)
  | .type, [x] => (match tyName x with | some T => .ok (.type T) | none => .stuck)
  | _, _ => .stuck

theorem repOL1 {h : Heap} {H : Hd} {vs : List Value} {x : AV} (r : RepOL h H vs [x]) : ∃ v, vs = [v] ∧ RepO h H v x := by
  cases vs with
  | nil => exact r.elim
  | cons v vs => cases vs with
    | nil => exact ⟨v, rfl, r.1⟩
    | cons => exact r.2.elim
theorem repOL2 {h : Heap} {H : Hd} {vs : List Value} {x y : AV} (r : RepOL h H vs [x, y]) : ∃ v w, vs = [v, w] ∧ RepO h H v x ∧ RepO h H w y := by
  cases vs with
  | nil => exact r.elim
  | cons v vs =>
    obtain ⟨w, rfl, q⟩ := repOL1 r.2
    exact ⟨v, w, rfl, r.1, q⟩

theorem rep_fresh_range {H : Hd} {s : Shared} {a b st : Int} {t u v : Tok} (hL : Live H s.heap) :
    Rep (vis (s.heap.push { cls := .type "range", data := .fields #[.int a t, .int b u, .int st v] }) H) (.ref s.heap.objs.size) (.range a b st) := by
  simp only [Rep]
  exact ⟨_, t, u, v, rfl, hL.fresh, _, Heap.get?_push_size _ rfl, rfl, rfl, rfl, .inr (.inr (.inl rfl)), fun _ => rfl⟩

section
variable {c : Cx} {q : Bool} {k : Nat} {A : Around} {s : Shared} {H : Hd} {Q E : Value → Shared → Prop}
theorem call_sum_ok {l : Addr} {vs : List Value} {xs : List AV} {ns : List Int} (hh : A.handled = none) (hl : IsL s.heap l vs) (rl : RepL (vis s.heap H) vs xs) (hn : ints? xs = some ns) (P : Post q A H (.ok (.int ns.sum)) s Q E) :
    wpAny c.M A (PySem.call (.builtin "sum") [.ref l]) Q E s := by
  obtain ⟨ps, e1, e2⟩ := ints_items hn rl
  have hl' := hl.isList
  rw [e1] at hl'
  refine sum_intListG hh hl' fun h' tk t' kp => ?_
  rw [preSum_eq, List.take_of_length_le (by simp)]
  have e3 : (ps.toArray.toList.map (·.1)).sum = ns.sum := by rw [← e2]
  rw [e3]
  exact P _ _ (Kp.of kp) ⟨t', rfl⟩
theorem call_max_ok {l : Addr} {vs : List Value} {xs : List AV} {ns : List Int} {m : Int} (hh : A.handled = none) (hl : IsL s.heap l vs) (rl : RepL (vis s.heap H) vs xs) (hn : ints? xs = some ns) (hx : maxI ns = some m) (P : Post q A H (.ok (.int m)) s Q E) :
    wpAny c.M A (PySem.call (.builtin "max") [.ref l]) Q E s := by
  obtain ⟨ps, e1, e2⟩ := ints_items hn rl
  have hl' := hl.isList
  rw [e1] at hl'
  have hne : 0 < ps.length := by
    cases ps with
    | nil => subst e2; cases hx
    | cons => simp
  refine max_intList hh hl' (by simpa using hne) fun v h' tk hv kp => ?_
  obtain ⟨m', t, rfl, hm'⟩ := best_max hne hv
  rw [e2, hx] at hm'; cases hm'
  exact P _ _ (Kp.of kp) ⟨t, rfl⟩
theorem call_min_ok {l : Addr} {vs : List Value} {xs : List AV} {ns : List Int} {m : Int} (hh : A.handled = none) (hl : IsL s.heap l vs) (rl : RepL (vis s.heap H) vs xs) (hn : ints? xs = some ns) (hx : minI ns = some m) (P : Post q A H (.ok (.int m)) s Q E) :
    wpAny c.M A (PySem.call (.builtin "min") [.ref l]) Q E s := by
  obtain ⟨ps, e1, e2⟩ := ints_items hn rl
  have hl' := hl.isList
  rw [e1] at hl'
  have hne : 0 < ps.length := by
    cases ps with
    | nil => subst e2; cases hx
    | cons => simp
  refine min_intList hh hl' (by simpa using hne) fun v h' tk hv kp => ?_
  obtain ⟨m', t, rfl, hm'⟩ := best_min hne hv
  rw [e2, hx] at hm'; cases hm'
  exact P _ _ (Kp.of kp) ⟨t, rfl⟩
end

theorem callB_ok {c : Cx} {k : Nat} {A : Around} {s : Shared} {H : Hd} {f : BI} {v : Value} {xs : List AV} {vs : List Value} (hm : Rm c true (k + 1) A s.heap) (hL : Live H s.heap) (r : RepOL s.heap H vs xs) (hv : bootBuiltins (f.name : Str) = some v) :
    Tr c true A H (PySem.call v vs) (callB f xs) s := by
  intro Q E P
  have hh := hm.hand rfl
  have e : v = f.val := by have := BI.boot f; exact Option.some.inj (hv.symm.trans this)
  subst e
  unfold callB at P
  split at P
  · obtain ⟨v, rfl, rr⟩ := repOL1 r
    obtain ⟨hz, l, ws, rfl, hl, rl⟩ := rr
    refine PySem.Calls.call_len_list hl.isList (by simp [rl.length]; omega) ?_
    exact P _ _ Kp.toks ⟨_, by simp [rl.length]; rfl⟩
  · obtain ⟨v, rfl, rr⟩ := repOL1 r
    obtain ⟨hz, l, ws, rfl, hl, rl⟩ := rr
    split at P
    · rename_i ns hn; exact call_sum_ok hh hl rl hn P
    · exact P.elim
  · obtain ⟨v, rfl, rr⟩ := repOL1 r
    obtain ⟨t, rfl⟩ := rr
    exact call_abs_int fun u tk => P _ _ Kp.toks ⟨u, rfl⟩
  · obtain ⟨v, rfl, rr⟩ := repOL1 r
    obtain ⟨t, rfl⟩ := rr
    refine call_range_1 (P _ _ (Kp.of fun _ _ e => Heap.get?_push_of_some _ e) (rep_fresh_range hL))
  · obtain ⟨v, w, rfl, r1, r2⟩ := repOL2 r
    obtain ⟨t, rfl⟩ := r1
    obtain ⟨u, rfl⟩ := r2
    refine call_range_2 (P _ _ (Kp.of fun _ _ e => Heap.get?_push_of_some _ e) (rep_fresh_range hL))
  · obtain ⟨v, rfl, rr⟩ := repOL1 r
    obtain ⟨hz, l, ws, rfl, hl, rl⟩ := rr
    split at P
    · rename_i ns hn
      split at P
      · rename_i m hx; exact call_max_ok hh hl rl hn hx P
      · exact P.elim
    · exact P.elim
  · obtain ⟨v, rfl, rr⟩ := repOL1 r
    obtain ⟨hz, l, ws, rfl, hl, rl⟩ := rr
    split at P
    · rename_i ns hn
      split at P
      · rename_i m hx; exact call_min_ok hh hl rl hn hx P
      · exact P.elim
    · exact P.elim
  · obtain ⟨v, rfl, rr⟩ := repOL1 r
    split at P
    · rename_i T hT
      exact call_type_of (tyName_ok hT rr) (tyName_nb hT) (P _ _ (Kp.refl _ _) rfl)
    · exact P.elim
  · exact P.elim

/- the words together -/
theorem ints_are {R : Vw} : ∀ {xs : List AV} {vs : List Value} {ns : List Int}, ints? xs = some ns → RepL R vs xs → IntsAre vs ns
  | [], [], ns, h, _ => by simp only [ints?, Option.some.injEq] at h; subst h; exact .nil
  | [], _ :: _, _, _, r => by simp [RepL] at r
  | _ :: _, [], _, _, r => by simp [RepL] at r
  | x :: xs, v :: vs, ns, h, r => by
    simp only [RepL] at r
    cases x <;> simp only [ints?, reduceCtorEq] at h
    rename_i i
    simp only [Option.map_eq_some_iff] at h
    obtain ⟨ms, h1, rfl⟩ := h
    obtain ⟨t, e⟩ := r.1
    subst e
    exact .cons i t (ints_are h1 r.2)
noncomputable def opBin (op : Operator) : AV → AV → Res
  | .int a, .int b => intBin op a b
  | .lst a, .lst b => match op with | .Add => if a.length + b.length ≤ 1048576 then .ok (.lst (a ++ b)) else .stuck | _ => .stuck
  | _, _ => .stuck
noncomputable def opInpl (op : Operator) (x y : AV) : Res := match op with
  | .BitXor => xorV x y
  | .Add => (match x, y with | .int a, .int b => .ok (.int (a + b)) | _, _ => .stuck)
  | .Sub => (match x, y with | .int a, .int b => .ok (.int (a - b)) | _, _ => .stuck)
  | .Mult => (match x, y with | .int a, .int b => if mulOk a b = true then .ok (.int (a * b)) else .stuck | _, _ => .stuck)
  | .FloorDiv => (match x, y with | .int a, .int b => if (b == 0) = true then .stuck else if Builtin.divisionGoesByPylong a b = true then .stuck else .ok (.int (a.fdiv b)) | _, _ => .stuck)
  | _ => .stuck
noncomputable def opUn (op : UnaryOp) : AV → Res
  | .int a => match op with | .USub => .ok (.int (-a)) | _ => .stuck
  | _ => .stuck
noncomputable def inCmp (op : CmpOp) (a : Int) (ns : List Int) : Option Bool := match op with
  | .In => some (ns.any (· == a))
  | .NotIn => some (!(ns.any (· == a)))
  | _ => none
noncomputable def boolCmp (op : CmpOp) (a b : Bool) : Option Bool := match op with
  | .Eq => some (a == b)
  | .NotEq => some (a != b)
  | _ => none
noncomputable def opCmp (op : CmpOp) : AV → AV → Option Bool
  | .int a, .int b => intCmp op a b
  | .bool a, .bool b => boolCmp op a b
  | .int a, .lst ys => (match ints? ys with | some ns => inCmp op a ns | none => none)
  | .str a, .str b => strCmp op a b
  | _, _ => none
noncomputable def opTruth : AV → Option Bool
  | .bool b => some b
  | .int a => some (a != 0)
  | .none => some false
  | _ => none
noncomputable def opIdx : AV → AV → Res
  | .lst xs, .int i => idxL xs i
  | .tup xs, .int i => if 0 ≤ i then (match xs[i.toNat]? with | some x => .ok x | none => .stuck) else .stuck
  | _, _ => .stuck
noncomputable def opSlice : AV → AV → AV → AV → Res
  | .lst xs, a, b, z => sliceL xs a b z
  | _, _, _, _ => .stuck
noncomputable def opIs : AV → AV → Option Bool
  | .type a, .type b => some (a == b)
  | _, _ => none
noncomputable def opEmeth (m : EMI) (σ : Store) (lo : Nat) (a : AV) (xs : List AV) : ER := match m, a, xs with
  | .append, .ptr n, [x] => if lo ≤ n then (match σ[n]? with | some (some (.lst ys)) => if ys.length < 1000000 then .ok (.av .none) (σ.set n (some (.lst (ys ++ [x])))) else .stuck | _ => .stuck) else .stuck
  | _, _, _ => .stuck
noncomputable def opOmeth (m : OMI) (xs args : List AV) : Option (List AV) := match m, args with
  | .append, [x] => if xs.length < 1000000 then some (xs ++ [x]) else none
  | _, _ => none

noncomputable def ops : OpsF where
  bin := opBin
  inpl := opInpl
  un := opUn
  cmp := opCmp
  truth := opTruth
  idx := opIdx
  slice := opSlice
  bcall := callB
  items := itemsV
  is_ := opIs
  emeth := opEmeth
  ometh := opOmeth
section
variable {c : Cx} {q : Bool} {k : Nat} {A : Around} {s : Shared} {H : Hd}
theorem opBin_ok {op : Operator} {a b : AV} {va vb : Value} (hm : Rm c q (k + 1) A s.heap) (hL : Live H s.heap) (ra : RepO s.heap H va a) (rb : RepO s.heap H vb b) : Tr c q A H (binaryOp op va vb) (opBin op a b) s := by
  unfold opBin
  split
  · obtain ⟨t, rfl⟩ := ra; obtain ⟨u, rfl⟩ := rb; exact intBin_ok hm
  · obtain ⟨hz, l, vs, rfl, hl, rl⟩ := ra; obtain ⟨hz', l', vs', rfl, hl', rl'⟩ := rb
    split
    · split
      · exact lists_add hL hl hl' rl rl' (by assumption)
      · exact Tr.stuck
    · exact Tr.stuck
  · exact Tr.stuck
theorem opInpl_ok {op : Operator} {a b : AV} {va vb : Value} (hm : Rm c q (k + 1) A s.heap) (ra : RepO s.heap H va a) (rb : RepO s.heap H vb b) : Tr c q A H (inplaceOp op va vb) (opInpl op a b) s := by
  unfold opInpl
  split
  · exact xorV_ok hm ra rb
  · split
    · obtain ⟨t, rfl⟩ := ra; obtain ⟨u, rfl⟩ := rb; exact fun Q E P => PySem.P.iadd_int (P _ _ Kp.toks ⟨_, rfl⟩)
    · exact Tr.stuck
  · split
    · obtain ⟨t, rfl⟩ := ra; obtain ⟨u, rfl⟩ := rb; exact fun Q E P => PySem.P.isub_int (P _ _ Kp.toks ⟨_, rfl⟩)
    · exact Tr.stuck
  · split
    · obtain ⟨t, rfl⟩ := ra; obtain ⟨u, rfl⟩ := rb
      split
      · rename_i h; exact fun Q E P => PySem.P.imul_int (P _ _ Kp.toks ⟨_, rfl⟩) (mulOk_iff.mp h)
      · exact Tr.stuck
    · exact Tr.stuck
  · split
    · obtain ⟨t, rfl⟩ := ra; obtain ⟨u, rfl⟩ := rb
      split
      · exact Tr.stuck
      · rename_i h
        split
        · exact Tr.stuck
        · rename_i h2; exact fun Q E P => AutoIntOps.ifloordiv_1 h h2 (post_int P)
    · exact Tr.stuck
  · exact Tr.stuck
theorem opUn_ok {op : UnaryOp} {a : AV} {va : Value} (ra : RepO s.heap H va a) : Tr c q A H (unaryOp op va) (opUn op a) s := by
  unfold opUn
  split
  · obtain ⟨t, rfl⟩ := ra
    split
    · exact fun Q E P => PySem.P.neg_int (P _ _ Kp.toks ⟨_, rfl⟩)
    · exact Tr.stuck
  · exact Tr.stuck
theorem type_beq (x y : String) : (Value.type x == Value.type y) = (x == y) := by
  by_cases hxy : x = y
  · subst hxy; simp
  · rw [beq_eq_false_iff_ne.mpr hxy, beq_eq_false_iff_ne.mpr (fun z => hxy (by injection z))]
theorem opCmp_ok {op : CmpOp} {a b : AV} {va vb : Value} {r : Bool} (ra : RepO s.heap H va a) (rb : RepO s.heap H vb b) (h : opCmp op a b = some r) : Tr c q A H (compareOp op va vb) (.ok (.bool r)) s := by
  unfold opCmp at h
  split at h
  · obtain ⟨t, rfl⟩ := ra; obtain ⟨u, rfl⟩ := rb; exact intCmp_ok h
  · cases ra; cases rb
    intro Q E P
    cases op <;> simp only [boolCmp, Option.some.injEq, reduceCtorEq] at h <;> subst h
    · exact PyProof.Rows.eq_bool (post_bool P)
    · exact PyProof.Rows.ne_bool (post_bool P)
  · split at h
    · rename_i ns hn
      obtain ⟨t, rfl⟩ := ra
      obtain ⟨hz, l, vs, rfl, hl, rl⟩ := rb
      intro Q E P
      cases op <;> simp only [inCmp, Option.some.injEq, reduceCtorEq] at h <;> subst h
      · exact PyProof.Rows.in_list_ints hl.isList (ints_are hn rl) (post_bool P)
      · exact PyProof.Rows.notin_list_ints hl.isList (ints_are hn rl) (post_bool P)
    · cases h
  · obtain ⟨t, rfl⟩ := ra; obtain ⟨u, rfl⟩ := rb; exact strCmp_ok h
  · cases h
theorem opTruth_ok {a : AV} {va : Value} {r : Bool} (ra : RepO s.heap H va a) (h : opTruth a = some r) : TrB c A (truthy va) r s := by
  unfold opTruth at h
  split at h
  · cases h; cases ra; exact fun Q E P => wpAny_truthy_bool (P _ (Kp.refl _ _))
  · cases h; obtain ⟨t, rfl⟩ := ra; exact fun Q E P => PySem.P.truthy_int (P _ (Kp.refl _ _))
  · cases h; cases ra; exact fun Q E P => truthy_none (P _ (Kp.refl _ _))
  · cases h
theorem opIdx_ok {a b : AV} {va vb : Value} (ra : RepO s.heap H va a) (rb : RepO s.heap H vb b) : Tr c q A H (getItem va vb) (opIdx a b) s := by
  unfold opIdx
  split
  · obtain ⟨hz, l, vs, rfl, hl, rl⟩ := ra; obtain ⟨u, rfl⟩ := rb
    exact idxL_ok hl hz rl
  · rename_i xs i
    have ra : Rep (vis s.heap H) va (.tup xs) := ra
    simp only [Rep] at ra
    obtain ⟨hz, l, vs, n, rfl, ⟨_, ⟨oc, od, odt, os⟩, e, hc, hd, hdi, _⟩, rl⟩ := ra
    obtain ⟨u, rfl⟩ := rb
    split
    · rename_i h0
      split
      · rename_i x hx
        intro Q E P
        obtain ⟨v, hv, rv⟩ := rl.get hx
        have hlt : i.toNat < xs.length := by obtain ⟨h, _⟩ := List.getElem?_eq_some_iff.mp hx; exact h
        have hsz : vs.toArray.size = xs.length := by rw [List.size_toArray, rl.length]
        exact getItem_tupleI ⟨_, e, hc, n, hd⟩ h0 (by omega) (by simpa using hv) (P _ _ (Kp.refl _ _) rv)
      · exact Tr.stuck
    · exact Tr.stuck
  · exact Tr.stuck
theorem opIdx_ty {a b : AV} {va : Value} (ra : RepO s.heap H va a) (h : opIdx a b ≠ .stuck) : ∃ T id, s.TypeIs va T ∧ typeLookup (.type T) "__getitem__" = pure (some (.builtin id)) := by
  unfold opIdx at h
  split at h
  · obtain ⟨hz, l, vs, rfl, hl, rl⟩ := ra
    exact ⟨"list", _, hl.typeIs, list_getitem_lookup⟩
  · rename_i xs i
    have ra : Rep (vis s.heap H) va (.tup xs) := ra
    simp only [Rep] at ra
    obtain ⟨hz, l, vs, n, rfl, ⟨_, o, e, hc, _⟩, rl⟩ := ra
    exact ⟨"tuple", _, ⟨o, e, hc⟩, F.slot_tuple_getitem.lookup⟩
  · exact absurd rfl h
theorem opSlice_ok {a x y z : AV} {va : Value} {r : Addr} {ux uy uz : Value} (hL : Live H s.heap) (ra : RepO s.heap H va a) (h1 : Rep (vis s.heap H) ux x) (h2 : Rep (vis s.heap H) uy y) (h3 : Rep (vis s.heap H) uz z)
    (hr : s.heap.get? r = some { cls := .type "slice", data := .fields #[ux, uy, uz] }) : Tr c q A H (getItem va (.ref r)) (opSlice a x y z) s := by
  unfold opSlice
  split
  · obtain ⟨hz, l, vs, rfl, hl, rl⟩ := ra
    exact sliceL_ok hL hl hz rl h1 h2 h3 hr
  · exact Tr.stuck
theorem opSlice_ty {a x y z : AV} {va : Value} (ra : RepO s.heap H va a) (h : opSlice a x y z ≠ .stuck) : ∃ T id, s.TypeIs va T ∧ typeLookup (.type T) "__getitem__" = pure (some (.builtin id)) := by
  unfold opSlice at h
  split at h
  · obtain ⟨hz, l, vs, rfl, hl, rl⟩ := ra
    exact ⟨"list", _, hl.typeIs, list_getitem_lookup⟩
  · exact absurd rfl h
theorem opIs_ok {op : CmpOp} {a b : AV} {va vb : Value} {r : Bool} (ra : Rep (vis s.heap H) va a) (rb : Rep (vis s.heap H) vb b) (h : opIs a b = some r) (hop : op = .Is ∨ op = .IsNot) : Tr c q A H (compareOp op va vb) (.ok (.bool (if op = .Is then r else !r))) s := by
  unfold opIs at h
  split at h
  · rename_i x y
    cases h
    simp only [Rep] at ra rb
    subst ra; subst rb
    rcases hop with rfl | rfl
    · rw [if_pos rfl]
      refine plainCmp_ok rfl ?_
      rw [type_beq]; rfl
    · rw [if_neg (by decide)]
      refine plainCmp_ok rfl ?_
      rw [type_beq]; rfl
  · cases h
theorem opOmeth_ok {m : OMI} {D : Addr} {vs : List Value} {xs : List AV} {ws : List Value} {args xs' : List AV} (hl : IsL s.heap D vs) (hz : xs.length ≤ 1048576) (r : RepL (vis s.heap H) vs xs) (ra : RepL (vis s.heap H) ws args) (h : opOmeth m xs args = some xs') (Q E : Value → Shared → Prop)
    (K : ∀ h' vs' tk, IsL h' D vs' → xs'.length ≤ 1048576 → RepL (vis s.heap H) vs' xs' → Heap.SameBut D s.heap h' → Q .none { s with heap := h', toks := tk }) : wpAny c.M A (PySem.call (.builtin ("list." ++ m.name)) (.ref D :: ws)) Q E s := by
  unfold opOmeth at h
  split at h
  · rename_i x
    split at h
    · rename_i hlt
      cases h
      obtain ⟨w, rfl, rw⟩ : ∃ w, ws = [w] ∧ Rep (vis s.heap H) w x := by
        rcases ws with _ | ⟨w, _ | ⟨w', ws⟩⟩
        · simp [RepL] at ra
        · simp only [RepL] at ra; exact ⟨w, rfl, ra.1⟩
        · simp [RepL] at ra
      exact list_appendL (by rw [List.size_toArray, r.length]; exact line_ok (by omega)) hl fun h' l' sb => K h' _ s.toks l' (by simp; omega) (r.append (by simp only [RepL]; exact ⟨rw, trivial⟩)) sb
    · cases h
  · cases h
theorem opEmeth_ok {m : EMI} {lo : Nat} {σ : Store} {a : AV} {va : Value} {xs : List AV} {vs : List Value} (hL : Live H s.heap) (S : Sto σ H s.heap) (ra : Rep (vis s.heap H) va a) (rx : RepL (vis s.heap H) vs xs) : Ev c q A lo σ H (PySem.call (.builtin ("list." ++ m.name)) (va :: vs)) (opEmeth m σ lo a xs) s := by
  unfold opEmeth
  split
  · rename_i n x
    split
    · rename_i hlo
      split
      · rename_i ys hs
        split
        · rename_i hlt
          simp only [Rep] at ra
          obtain ⟨D, hD, rfl⟩ := ra
          obtain ⟨w, rfl, rw'⟩ : ∃ w, vs = [w] ∧ Rep (vis s.heap H) w x := by
            rcases vs with _ | ⟨w, _ | ⟨w', ws⟩⟩
            · simp [RepL] at rx
            · simp only [RepL] at rx; exact ⟨w, rfl, rx.1⟩
            · simp [RepL] at rx
          obtain ⟨D', hD', hz, us, hl, ru⟩ := S.at' n _ hs
          have hD : H.m n = some D := hD
          rw [hD] at hD'; cases hD'
          intro Q E P
          refine list_appendL (by rw [List.size_toArray, ru.length]; exact line_ok (by omega)) hl fun h' l' sb => P _ H _ (write_ss (mo := .lst (ys ++ [x])) S hL hs hD hlo sb ?_ rfl) (by simp [RepW, Rep])
          exact ⟨by simp; omega, _, l', RepL.mono ((Kv.of_sameBut (F := fun _ => False) (W := fun b => b = D) sb rfl).vis (H := H) fun b z => z ▸ S.hidden hD) (ru.append (by simp only [RepL]; exact ⟨rw', trivial⟩))⟩
        · exact Ev.stuck
      · exact Ev.stuck
    · exact Ev.stuck
  · exact Ev.stuck
end
theorem ops_ok (c : Cx) : OpsOk c ops where
  bin := fun hm hL ra rb => opBin_ok hm hL ra rb
  inpl := fun hm _ ra rb => opInpl_ok hm ra rb
  un := fun _ _ ra => opUn_ok ra
  cmp := fun _ _ ra rb h => opCmp_ok ra rb h
  truth := fun _ _ ra h => opTruth_ok ra h
  idx := fun _ _ ra rb => opIdx_ok ra rb
  idxT := fun ra h => opIdx_ty ra h
  slice := fun _ hL ra h1 h2 h3 hr => opSlice_ok hL ra h1 h2 h3 hr
  sliceT := fun ra h => opSlice_ty ra h
  bcall := fun hq hm _ hL r hv => by subst hq; exact callB_ok hm hL r hv
  itemsR := fun h => itemsV_ref h
  items := fun hm hq _ ra h Q E K => itemsV_ok hm hq ra h Q E K
  emeth := fun _ _ hL S ra rx => opEmeth_ok hL S ra rx
  ometh := fun _ _ _ hl hz r ra h Q E K => opOmeth_ok hl hz r ra h Q E K
  is_ := fun _ _ ra rb h hop => opIs_ok ra rb h hop
theorem ops_bin : ops.bin = opBin := rfl
theorem ops_inpl : ops.inpl = opInpl := rfl
theorem ops_un : ops.un = opUn := rfl
theorem ops_cmp : ops.cmp = opCmp := rfl
theorem ops_truth : ops.truth = opTruth := rfl
theorem ops_idx : ops.idx = opIdx := rfl
theorem ops_slice : ops.slice = opSlice := rfl
theorem ops_bcall : ops.bcall = callB := rfl
theorem ops_items : ops.items = itemsV := rfl
theorem ops_is : ops.is_ = opIs := rfl
end Mine
end
section
open PySem PySem.W PyProof.Rows
namespace Mine
set_option maxRecDepth 100000
theorem lookup_zip_some : ∀ {ns : List Str} {vs : List Value} {x : Str}, vs.length = ns.length → x ∈ ns → ((ns.zip vs).lookup x).isNone = false
  | [], _, _, _, h => by cases h
  | _ :: _, [], _, h, _ => by simp at h
  | n :: ns, v :: vs, x, h, hx => by
    simp only [List.zip_cons_cons, List.lookup_cons]
    cases hb : x == n with
    | true => rfl
    | false =>
      rcases List.mem_cons.mp hx with e | hx
      · subst e; simp at hb
      · exact lookup_zip_some (by simpa using h) hx
theorem zip_binds : ∀ {ns : List Str} {vs : List Value}, vs.length = ns.length → ns.Nodup → ns.filterMap (fun n => ((ns.zip vs).lookup n).map (n, ·)) = ns.zip vs
  | [], _, _, _ => rfl
  | _ :: _, [], h, _ => by simp at h
  | n :: ns, v :: vs, h, nd => by
    obtain ⟨n1, n2⟩ := List.nodup_cons.mp nd
    have e : ∀ x ∈ ns, (((n, v) :: ns.zip vs).lookup x).map (x, ·) = ((ns.zip vs).lookup x).map (x, ·) := fun x hx => by
      rw [List.lookup_cons]
      have : (x == n) = false := by
        cases hb : x == n with
        | false => rfl
        | true => have := eq_of_beq hb; subst this; exact absurd hx n1
      rw [this]
    simp only [List.zip_cons_cons, List.filterMap_cons]
    have e0 : (((n, v) :: ns.zip vs).lookup n) = some v := by simp [List.lookup_cons]
    rw [e0, Option.map_some]
    simp only
    have e2 : ns.filterMap (fun x => (((n, v) :: ns.zip vs).lookup x).map (x, ·)) = ns.filterMap (fun x => ((ns.zip vs).lookup x).map (x, ·)) := by
      clear e0 nd n2 h
      revert e
      generalize (n, v) :: ns.zip vs = A
      generalize ns.zip vs = B
      intro e
      induction ns with
      | nil => rfl
      | cons y ys ih =>
        simp only [List.filterMap_cons]
        rw [e y (List.mem_cons_self ..), ih (fun q => n1 (List.mem_cons_of_mem _ q)) fun x hx => e x (List.mem_cons_of_mem _ hx)]
    rw [e2, zip_binds (by simpa using h) n2]
theorem bind_plain {f : Str} {as : List Arg} {body : List Stmt} {scope : Scope} {pm code doc : Value} {vs : List Value} (hl : vs.length = as.length) (nd : (as.map (·.arg)).Nodup) :
    bindArgs (PySem.Calls.docDef f ⟨[], as, none, [], [], none, []⟩ body scope pm code doc) ⟨vs, []⟩ = pure ((as.map (·.arg)).zip vs) := by
  have hmiss : ((as.map (·.arg)).take (as.map (·.arg)).length).filter (fun n => (((as.map (·.arg)).zip vs).lookup n).isNone) = [] := by
    rw [List.filter_eq_nil_iff]
    intro x hx
    rw [lookup_zip_some (by simpa using hl) (List.mem_of_mem_take hx)]
    simp
  have hbinds : (as.map (·.arg)).filterMap (fun n => (((as.map (·.arg)).zip vs).lookup n).map (n, ·)) = (as.map (·.arg)).zip vs := zip_binds (by simpa using hl) nd
  unfold bindArgs
  simp only [PySem.Calls.docDef, List.map_nil, List.nil_append, seqItems?, pure_bind, List.forIn_nil, List.append_nil, Option.getD_none, List.drop_nil, List.zip_nil_right, Nat.sub_zero, List.length_nil, hmiss, hbinds]
  have hns : notAStandIn .none = pure () := rfl
  have hnil : ((none : Option (Array Value)).getD #[]).toList = [] := rfl
  have hgt : (decide (vs.length > (as.map (·.arg)).length) && true) = false := by simp [hl]
  simp only [hns, hnil, pure_bind, List.forIn'_nil, List.forIn_nil, List.drop_nil, List.length_nil, Nat.sub_zero, List.zip_nil_right, hmiss, hbinds, Option.isNone_none, hgt, Bool.false_eq_true, if_false, List.isEmpty_nil, Bool.not_true, Bool.not_eq_true]

noncomputable def plainParams (a : Arguments) (xs : List Str) : Bool := a.posonlyargs.isEmpty && a.vararg.isNone && a.kwonlyargs.isEmpty && a.kw_defaults.isEmpty && a.kwarg.isNone && a.defaults.isEmpty && a.args.map (·.arg) == xs
/-- a def of the text, looked at -/
noncomputable def defOk (p : Program) (frees : List Str) (fname : Nat → Str) (f : Str) (ns : List Str) (np : Nat) (q : PSs) : Bool := match (recsOf p).find? (fun d => d.name == f) with
  | some d => fnOk frees fname d.scope ns np q d.body && plainParams d.params (ns.take np)
  | none => false
noncomputable def freesOk (p : Program) (loose : List Str) (frees : List Str) : Bool := frees.all fun x => !startupNames.contains x && !loose.contains x && !((recsOf p).map (·.name)).contains x && !((litsOf p).map (·.1)).contains x && !((clssOf p loose).map (·.name)).contains x

theorem frees_of {p : Program} {loose : List Str} {mean : ExcName → Option Value} {mg mb : Str → Option Value} {h : Heap} (T : Top p loose mean mg mb h) {frees : List Str} (hf : freesOk p loose frees = true) : ∀ x ∈ frees, mg x = none := fun x hx => by
  have := List.all_eq_true.mp hf x hx
  simp only [Bool.and_eq_true, Bool.not_eq_true'] at this
  obtain ⟨⟨⟨⟨h1, h2⟩, h3⟩, h4⟩, h5⟩ := this
  exact T.free x (fun z => by rw [List.contains_iff_mem.mpr z] at h1; cases h1) (fun z => by rw [List.contains_iff_mem.mpr z] at h2; cases h2) (fun z => by rw [List.contains_iff_mem.mpr z] at h3; cases h3)
    (fun z => by rw [List.contains_iff_mem.mpr z] at h4; cases h4) (fun z => by rw [List.contains_iff_mem.mpr z] at h5; cases h5)

/-- what a def's text says, ready for calls_of -/
structure DefIs (c : Cx) (frees : List Str) (fname : Nat → Str) (f : Str) (ns : List Str) (np : Nat) (q : PSs) : Prop where
  all : ∃ params body scope, FnIs c f params body scope ∧ fnOk frees fname scope ns np q body = true ∧ ∀ pm code doc vs, vs.length = np → bindArgs (PySem.Calls.docDef f params body scope pm code doc) ⟨vs, []⟩ = pure ((ns.take np).zip vs)

theorem def_of {prog : Program} {w : World} {p : Program} {loose : List Str} {mean : ExcName → Option Value} {mg mb : Str → Option Value} {h : Heap} (T : Top p loose mean mg mb h) {frees : List Str} {fname : Nat → Str} {f : Str} {ns : List Str} {np : Nat} {q : PSs}
    (hd : defOk p frees fname f ns np q = true) : DefIs ⟨prog, w, h, mg, mb, T.g, T.b, T.builtins, T.nolimit⟩ frees fname f ns np q := by
  unfold defOk at hd
  cases e : (recsOf p).find? (fun d => d.name == f) with
  | none => rw [e] at hd; cases hd
  | some d =>
    rw [e] at hd
    simp only [Bool.and_eq_true] at hd
    obtain ⟨h1, h2⟩ := hd
    have hn : d.name = f := by have := List.find?_some e; simpa using this
    have hm := List.mem_of_find?_eq_some e
    subst hn
    refine ⟨d.params, d.body, d.scope, T.fn d hm, h1, fun pm code doc vs hl => ?_⟩
    unfold plainParams at h2
    simp only [Bool.and_eq_true, List.isEmpty_iff, Option.isNone_iff_eq_none, beq_iff_eq] at h2
    obtain ⟨⟨⟨⟨⟨⟨a1, a2⟩, a3⟩, a4⟩, a5⟩, a6⟩, a7⟩ := h2
    have hp : d.params = ⟨[], d.params.args, none, [], [], none, []⟩ := by
      rcases hq : d.params with ⟨x1, x2, x3, x4, x5, x6, x7⟩
      rw [hq] at a1 a2 a3 a4 a5 a6
      simp only at a1 a2 a3 a4 a5 a6
      rw [a1, a2, a3, a4, a5, a6]
    simp only [fnOk, Bool.and_eq_true, decide_eq_true_eq] at h1
    rw [hp]
    have hlen : vs.length = d.params.args.length := by
      have := congrArg List.length a7
      simp only [List.length_map, List.length_take] at this
      have h6 := h1.1.2
      omega
    rw [← a7]
    exact bind_plain hlen (by rw [a7]; exact h1.1.1.2)

section
variable {c : Cx} {O : OpsF} (OK : OpsOk c O) {k : Nat} {cal : Cal} {fname : Nat → Str} (CO : CallsOk c k cal fname) {frees : List Str} (hfree : ∀ x ∈ frees, c.mg x = none)
include OK CO hfree
theorem DefIs.calls {f : Str} {ns : List Str} {np : Nat} {p : PSs} {args : List AV} {σ : Store} {lo : Nat} (D : DefIs c frees fname f ns np p) (hargs : args.length = np) : Calls c (k + 2) f σ lo args (fnRes (pxs O cal true (st0 args ns.length σ lo) p)) := by
  obtain ⟨params, body, scope, h1, h2, h3⟩ := D.all
  exact calls_of OK CO hfree h1 h2 h3 hargs
theorem DefIs.code {f : Str} {ns : List Str} {np : Nat} {p : PSs} {args : List AV} {σ : Store} {lo : Nat} (D : DefIs c frees fname f ns np p) (hargs : args.length = np)
    {A : Around} {s : Shared} {H : Hd} {vs : List Value} {a : Addr} {Q E : Value → Shared → Prop} (hm : Rm c true (k + 2) A s.heap) (hst : c.h0.StaysIn s.heap) (hL : Live H s.heap) (S : Sto σ H s.heap) (hm0 : ∀ n a, H.m n = some a → c.h0.get? a = none) (hr : RepL (vis s.heap H) vs args) (hmg : c.mg f = some (.ref a))
    (P : PostE true A lo σ H (fnRes (pxs O cal true (st0 args ns.length σ lo) p)) s Q E) : codeAny c.M A (.call (.ref a) ⟨vs, []⟩) (fun r s' => match r with | .ok (.ret v) => Q v s' | .ok _ => False | .error e => E e s') s := by
  obtain ⟨params, body, scope, h1, h2, h3⟩ := D.all
  exact code_of OK CO hfree h1 h2 h3 hargs hm hst hL S hm0 hr hmg P
end
theorem DefIs.obj {c : Cx} {frees : List Str} {fname : Nat → Str} {f : Str} {ns : List Str} {np : Nat} {q : PSs} (D : DefIs c frees fname f ns np q) : FnObj c f := by
  obtain ⟨params, body, scope, h1, h2, h3⟩ := D.all
  exact h1.obj

theorem Calls.mono {c : Cx} {k k' : Nat} {f : Str} {σ : Store} {lo : Nat} {args : List AV} {r : ER} (h : Calls c k f σ lo args r) (hk : k ≤ k') : Calls c k' f σ lo args r := fun A s H vs a hm => h A s H vs a ⟨by have := hm.depth; omega, by have := hm.units; omega, hm.hand, hm.frames⟩

/-- nothing is hidden -/
noncomputable def H0 : Hd := ⟨fun _ => False, fun _ => none, fun _ => none⟩
theorem sto0 (h : Heap) : Sto [] H0 h where
  at' := fun n mo e => by simp at e
  inj := fun n n' a e => by cases e
  lt := fun n a e => by cases e
  hid := fun n a mo _ e => by cases e
  al := fun n a e => by cases e
  tot := fun n a e => by cases e
/-- the script as a value -/
theorem script_rep {h : Heap} {l : Addr} {vs : List Value} {ns : List Int} (hl : IsL h l vs) (hI : IntsAre vs ns) (hz : ns.length ≤ 1048576) : RepL (vis h H0) [.ref l] [.lst (ns.map .int)] := by
  obtain ⟨o, n, e, hc, hd, hdi⟩ := hl
  have : ∀ {vs : List Value} {ns : List Int}, IntsAre vs ns → RepL (vis h H0) vs (ns.map .int) := by
    intro vs ns hI
    induction hI with
    | nil => simp [RepL]
    | cons n t _ ih => simp only [List.map_cons, RepL, Rep]; exact ⟨⟨t, rfl⟩, ih⟩
  simp only [RepL, Rep, and_true]
  exact ⟨by simpa using hz, l, vs, n, rfl, ⟨(fun z => z : ¬ H0.p l), o, e, hc, hd, hdi, .inl rfl, fun ⟨fs, z⟩ => by cases z⟩, this hI⟩

/-- the top: a law that comes to True -/
theorem kp_top {s s' : Shared} (k : Kp callerA s s') : (∀ b o, s.heap.get? b = some o → s'.heap.get? b = some o) ∧ s'.os = s.os ∧ s'.gens = s.gens := by
  obtain ⟨h', tk, rfl, kh⟩ := k
  refine ⟨fun b o e => (kh b o e).1 (.inl ?_), rfl, rfl⟩
  rintro ⟨l, hl, hb⟩
  cases hl
  simp at hb

theorem isL_of_well {P : Params} {h : Heap} {l : Addr} {vs : List Value} {ys : List WData} {d : WData} (hL : h.IsList l vs.toArray) (w : Well P h (.ref l) d) (e : d = .list ys) : IsL h l vs := by
  cases w <;> try (cases e)
  rename_i vs' e _
  obtain ⟨o', e', hc', n', hd'⟩ := hL
  rw [e] at e'; cases e'
  exact ⟨_, _, e, rfl, hd', rfl⟩
end Mine
end
section
open PySem PySem.W PyProof.Rows
namespace Mine
set_option maxRecDepth 100000
section
variable {O : OpsF} {cal : Cal} {q : Bool} {st : Fs}
theorem pe_const {v : AV} : pe O cal q st (.const v) = .of O.truth st.ρ (.ok (.av v) st.σ) := by rw [pe]
theorem pe_name {i : Nat} : pe O cal q st (.name i) = .of O.truth st.ρ (slotV st i) := by rw [pe]
theorem pe_glob {b : BI} : pe O cal q st (.glob b) = .of O.truth st.ρ (.ok (.av (.type b.name)) st.σ) := by rw [pe]
theorem pe_bin {op : Operator} {l r : PE} : pe O cal q st (.bin op l r) = .of O.truth st.ρ ((pe O cal q st l).v.bind fun a σ₁ => (pe O cal q (st.at σ₁) r).v.bind fun b σ₂ => ofRes (O.bin op (derefS st.ρ σ₂ a) (derefS st.ρ σ₂ b)) σ₂) := by rw [pe]
theorem pe_not {x : PE} : pe O cal q st (.un .Not x) = ⟨(pe O cal q st x).v.bind fun a σ₁ => ofRes (O.un .Not (derefS st.ρ σ₁ a)) σ₁, (pe O cal q st x).t.map fun p => (!p.1, p.2)⟩ := by rw [pe]
theorem pe_neg {x : PE} : pe O cal q st (.un .USub x) = .of O.truth st.ρ ((pe O cal q st x).v.bind fun a σ₁ => ofRes (O.un .USub (derefS st.ρ σ₁ a)) σ₁) := by rw [pe] <;> first | rfl | (intro h; cases h)
theorem pe_is {l r : PE} : pe O cal q st (.cmp .Is l r) = .of O.truth st.ρ ((pe O cal q st l).v.bindA fun a σ₁ => (pe O cal q (st.at σ₁) r).v.bindA fun b σ₂ => ofB (O.is_ a b) σ₂) := by rw [pe]
theorem pe_isnot {l r : PE} : pe O cal q st (.cmp .IsNot l r) = .of O.truth st.ρ ((pe O cal q st l).v.bindA fun a σ₁ => (pe O cal q (st.at σ₁) r).v.bindA fun b σ₂ => ofB ((O.is_ a b).map (!·)) σ₂) := by rw [pe]
noncomputable def isIs : CmpOp → Bool
  | .Is => true
  | .IsNot => true
  | _ => false
theorem pe_cmp {op : CmpOp} {l r : PE} (h : isIs op = false) : pe O cal q st (.cmp op l r) = .of O.truth st.ρ ((pe O cal q st l).v.bind fun a σ₁ => (pe O cal q (st.at σ₁) r).v.bind fun b σ₂ => ofB (O.cmp op (derefS st.ρ σ₂ a) (derefS st.ρ σ₂ b)) σ₂) := by
  cases op <;> first | (cases h; done) | (rw [pe] <;> first | rfl | (intro h'; cases h'))
theorem pe_eq {l r : PE} : pe O cal q st (.cmp .Eq l r) = .of O.truth st.ρ ((pe O cal q st l).v.bind fun a σ₁ => (pe O cal q (st.at σ₁) r).v.bind fun b σ₂ => ofB (O.cmp .Eq (derefS st.ρ σ₂ a) (derefS st.ρ σ₂ b)) σ₂) := pe_cmp rfl
theorem pe_ne {l r : PE} : pe O cal q st (.cmp .NotEq l r) = .of O.truth st.ρ ((pe O cal q st l).v.bind fun a σ₁ => (pe O cal q (st.at σ₁) r).v.bind fun b σ₂ => ofB (O.cmp .NotEq (derefS st.ρ σ₂ a) (derefS st.ρ σ₂ b)) σ₂) := pe_cmp rfl
theorem pe_lt {l r : PE} : pe O cal q st (.cmp .Lt l r) = .of O.truth st.ρ ((pe O cal q st l).v.bind fun a σ₁ => (pe O cal q (st.at σ₁) r).v.bind fun b σ₂ => ofB (O.cmp .Lt (derefS st.ρ σ₂ a) (derefS st.ρ σ₂ b)) σ₂) := pe_cmp rfl
theorem pe_le {l r : PE} : pe O cal q st (.cmp .LtE l r) = .of O.truth st.ρ ((pe O cal q st l).v.bind fun a σ₁ => (pe O cal q (st.at σ₁) r).v.bind fun b σ₂ => ofB (O.cmp .LtE (derefS st.ρ σ₂ a) (derefS st.ρ σ₂ b)) σ₂) := pe_cmp rfl
theorem pe_gt {l r : PE} : pe O cal q st (.cmp .Gt l r) = .of O.truth st.ρ ((pe O cal q st l).v.bind fun a σ₁ => (pe O cal q (st.at σ₁) r).v.bind fun b σ₂ => ofB (O.cmp .Gt (derefS st.ρ σ₂ a) (derefS st.ρ σ₂ b)) σ₂) := pe_cmp rfl
theorem pe_ge {l r : PE} : pe O cal q st (.cmp .GtE l r) = .of O.truth st.ρ ((pe O cal q st l).v.bind fun a σ₁ => (pe O cal q (st.at σ₁) r).v.bind fun b σ₂ => ofB (O.cmp .GtE (derefS st.ρ σ₂ a) (derefS st.ρ σ₂ b)) σ₂) := pe_cmp rfl
theorem pe_in {l r : PE} : pe O cal q st (.cmp .In l r) = .of O.truth st.ρ ((pe O cal q st l).v.bind fun a σ₁ => (pe O cal q (st.at σ₁) r).v.bind fun b σ₂ => ofB (O.cmp .In (derefS st.ρ σ₂ a) (derefS st.ρ σ₂ b)) σ₂) := pe_cmp rfl
theorem pe_notin {l r : PE} : pe O cal q st (.cmp .NotIn l r) = .of O.truth st.ρ ((pe O cal q st l).v.bind fun a σ₁ => (pe O cal q (st.at σ₁) r).v.bind fun b σ₂ => ofB (O.cmp .NotIn (derefS st.ρ σ₂ a) (derefS st.ρ σ₂ b)) σ₂) := pe_cmp rfl
theorem pe_bop {op : BoolOp} {xs : PEs} : pe O cal q st (.bop op xs) = ⟨pbop O cal q st op xs, pall O cal q st op xs⟩ := by rw [pe]
theorem pe_ife {t a b : PE} : pe O cal q st (.ife t a b) = match (pe O cal q st t).t with
    | some (true, σ₁) => pe O cal q (st.at σ₁) a
    | some (false, σ₁) => pe O cal q (st.at σ₁) b
    | none => ⟨.stuck, none⟩ := by rw [pe] <;> rfl
theorem pe_list {xs : PEs} : pe O cal q st (.list xs) = .of O.truth st.ρ (onP (pes O cal q st xs) fun l σ₁ => if l.length ≤ 100 then .ok (.av (.lst l)) σ₁ else .stuck) := by rw [pe]
theorem pe_tup {xs : PEs} : pe O cal q st (.tup xs) = .of O.truth st.ρ (onP (pes O cal q st xs) fun l σ₁ => if l.length ≤ 100 then .ok (.av (.tup l)) σ₁ else .stuck) := by rw [pe]
theorem pe_newl {xs : PEs} : pe O cal q st (.newl xs) = .of O.truth st.ρ (onP (pes O cal q st xs) fun l σ₁ => if l.length ≤ 100 then .ok (.av (.ptr σ₁.length)) (σ₁ ++ [some (.lst l)]) else .stuck) := by rw [pe]
theorem pe_sub {o i : PE} : pe O cal q st (.sub o i) = .of O.truth st.ρ ((pe O cal q st o).v.bind fun a σ₁ => (pe O cal q (st.at σ₁) i).v.bind fun b σ₂ => ofRes (O.idx (derefS st.ρ σ₂ a) (derefS st.ρ σ₂ b)) σ₂) := by rw [pe]
theorem pe_slice {o a b s : PE} : pe O cal q st (.slice o a b s) = .of O.truth st.ρ ((pe O cal q st o).v.bind fun v σ₁ => (pe O cal q (st.at σ₁) a).v.bindA fun x σ₂ => (pe O cal q (st.at σ₂) b).v.bindA fun y σ₃ => (pe O cal q (st.at σ₃) s).v.bindA fun z σ₄ => ofRes (O.slice (derefS st.ρ σ₄ v) x y z) σ₄) := by rw [pe]
theorem pe_call {f : Nat} {xs : PEs} : pe O cal true st (.call f xs) = .of O.truth st.ρ (onP (pes O cal true st xs) fun l σ₁ => cal σ₁ st.lo f l) := by rw [pe]
theorem pe_bcall {f : BI} {xs : PEs} : pe O cal true st (.bcall f xs) = .of O.truth st.ρ (onL (pes O cal true st xs) fun l σ₁ => ofRes (O.bcall f (l.map (derefS st.ρ σ₁))) σ₁) := by rw [pe]
theorem pe_emeth {o : PE} {m : EMI} {xs : PEs} : pe O cal true st (.emeth o m xs) = .of O.truth st.ρ ((pe O cal true st o).v.bindA fun a σ₁ => (match deref σ₁ a with
      | .lst _ => onP (pes O cal true (st.at σ₁) xs) fun l σ₂ => O.emeth m σ₂ st.lo a l
      | _ => .stuck)) := by rw [pe] <;> rfl
theorem pe_setd {x : PE} : pe O cal q st (.setd x) = .of O.truth st.ρ ((pe O cal q st x).v.bindA fun a σ₁ => match a with | .int i => .ok (.av (.set false [i])) σ₁ | _ => .stuck) := by rw [pe] <;> rfl
theorem pes_nil' : pes O cal q st .nil = some ([], st.σ) := by rw [pes]
theorem pes_cons {e : PE} {es : PEs} : pes O cal q st (.cons e es) = match (pe O cal q st e).v with
    | .ok v σ₁ => (match pes O cal q (st.at σ₁) es with
      | some (l, σ₂) => some (v :: l, σ₂)
      | none => none)
    | _ => none := by rw [pes] <;> rfl
theorem pr_v {tr : AV → Option Bool} {ρ : List (Option Ent)} {r : ER} : (PR.of tr ρ r).v = r := rfl
theorem pr_t {tr : AV → Option Bool} {ρ : List (Option Ent)} {r : ER} : (PR.of tr ρ r).t = r.truth tr ρ := rfl
theorem bind_ok {v : OV} {σ : Store} {f : OV → Store → ER} : (ER.ok v σ).bind f = f v σ := rfl
theorem bindA_ok {v : AV} {σ : Store} {f : AV → Store → ER} : (ER.ok (.av v) σ).bindA f = f v σ := rfl
theorem truth_ok {tr : AV → Option Bool} {ρ : List (Option Ent)} {v : OV} {σ : Store} : (ER.ok v σ).truth tr ρ = (tr (derefS ρ σ v)).map fun b => (b, σ) := rfl
theorem ofB_some {b : Bool} {σ : Store} : ofB (some b) σ = .ok (.av (.bool b)) σ := rfl
theorem ofRes_ok {v : AV} {σ : Store} : ofRes (.ok v) σ = .ok (.av v) σ := rfl
theorem ofRes_exc {v : EX} {σ : Store} : ofRes (.exc v) σ = .exc v σ := rfl
theorem onL_some {l : List OV} {σ : Store} {f : List OV → Store → ER} : onL (some (l, σ)) f = f l σ := rfl
theorem onP_some {l : List OV} {σ : Store} {f : List AV → Store → ER} : onP (some (l, σ)) f = match plains l with | some l => f l σ | none => .stuck := rfl
theorem plains_nil : plains [] = some [] := rfl
theorem plains_cons {x : AV} {r : List OV} : plains (.av x :: r) = (plains r).map (x :: ·) := rfl
theorem pall_and_nil : pall O cal q st .And .nil = some (true, st.σ) := by rw [pall]; rfl
theorem pall_or_nil : pall O cal q st .Or .nil = some (false, st.σ) := by rw [pall]; rfl
theorem pall_and_cons {e : PE} {es : PEs} : pall O cal q st .And (.cons e es) = match (pe O cal q st e).t with | some (false, σ₁) => some (false, σ₁) | some (true, σ₁) => pall O cal q (st.at σ₁) .And es | none => none := by
  rw [pall.eq_def]
  dsimp only
  cases (pe O cal q st e).t with
  | none => rfl
  | some p => obtain ⟨b, σ⟩ := p; cases b <;> rfl
theorem pall_or_cons {e : PE} {es : PEs} : pall O cal q st .Or (.cons e es) = match (pe O cal q st e).t with | some (true, σ₁) => some (true, σ₁) | some (false, σ₁) => pall O cal q (st.at σ₁) .Or es | none => none := by
  rw [pall.eq_def]
  dsimp only
  cases (pe O cal q st e).t with
  | none => rfl
  | some p => obtain ⟨b, σ⟩ := p; cases b <;> rfl
theorem pbop_one {op : BoolOp} {e : PE} : pbop O cal q st op (.cons e .nil) = (pe O cal q st e).v := by rw [pbop]
theorem pbop_and {e e' : PE} {es : PEs} : pbop O cal q st .And (.cons e (.cons e' es)) = (pe O cal q st e).v.bind fun v σ₁ => match O.truth (derefS st.ρ σ₁ v) with | some false => .ok v σ₁ | some true => pbop O cal q (st.at σ₁) .And (.cons e' es) | none => .stuck := by
  rw [pbop]
  congr 1
  funext v σ₁
  cases O.truth (derefS st.ρ σ₁ v) with
  | none => rfl
  | some b => cases b <;> rfl
theorem pbop_or {e e' : PE} {es : PEs} : pbop O cal q st .Or (.cons e (.cons e' es)) = (pe O cal q st e).v.bind fun v σ₁ => match O.truth (derefS st.ρ σ₁ v) with | some true => .ok v σ₁ | some false => pbop O cal q (st.at σ₁) .Or (.cons e' es) | none => .stuck := by
  rw [pbop]
  congr 1
  funext v σ₁
  cases O.truth (derefS st.ρ σ₁ v) with
  | none => rfl
  | some b => cases b <;> rfl
theorem pe_comp {caps : List Nat} {elt src : PE} {conds : PEs} {a : OV} {σ₁ : Store} {l ys : List AV} (h1 : (pe O cal true st src).v = .ok a σ₁) (h2 : O.items (derefS st.ρ σ₁ a) = some l)
    (h3 : mapF (fun x => compF σ₁.length (pall O cal true ((st.at σ₁).inner caps x) .And conds) (pe O cal true ((st.at σ₁).inner caps x) elt).v) l = some ys) : pe O cal true st (.comp caps elt src conds) = .of O.truth st.ρ (.ok (.av (.lst ys)) σ₁) := by
  rw [pe, h1]
  simp only [ER.bind, h2, onItems, h3]
end
theorem mapF_gen {α : Type} {f : AV → Option (Option AV)} {g : α → AV} {h : α → Option AV} : ∀ {l : List α}, (∀ j ∈ l, f (g j) = some (h j)) → mapF f (l.map g) = some (l.filterMap h)
  | [], _ => rfl
  | a :: l, k => by
    have ih := mapF_gen (f := f) (g := g) (h := h) (l := l) fun j hj => k j (List.mem_cons_of_mem _ hj)
    simp only [List.map_cons, mapF, k a (List.mem_cons_self ..), List.filterMap_cons]
    cases h a with
    | none => exact ih
    | some y => simp only [ih, Option.map_some]
theorem mapF_map {α : Type} {f : AV → Option (Option AV)} {g h : α → AV} {l : List α} (k : ∀ j ∈ l, f (g j) = some (some (h j))) : mapF f (l.map g) = some (l.map h) := by
  rw [mapF_gen (h := fun j => some (h j)) k]
  congr 1
  rw [← List.filterMap_eq_map]; rfl
theorem compF_t {n : Nat} {σ : Store} {e : ER} {v : AV} {σ' : Store} (h : e = .ok (.av v) σ') (hn : σ'.length = n) : compF n (some (true, σ)) e = some (some v) := by
  subst h
  simp [compF, elemF, hn]
/- what holds of the end of a row of statements -/
section
variable {O : OpsF} {cal : Cal} {q : Bool} {st : Fs} {K : FR → Prop} {r : PSs}
noncomputable def thenK (O : OpsF) (cal : Cal) (q : Bool) (r : PSs) (K : FR → Prop) : FR → Prop
  | .next st' => K (pxs O cal q st' r)
  | f => K f
theorem pk_cons {s : PS} (h : thenK O cal q r K (px O cal q st s)) : K (pxs O cal q st (.cons s r)) := by
  rw [pxs]
  revert h
  cases px O cal q st s <;> exact fun h => h
theorem pk_step {s : PS} {st' : Fs} (h : px O cal q st s = .next st') (k : K (pxs O cal q st' r)) : K (pxs O cal q st (.cons s r)) := by
  rw [pxs, h]; exact k
theorem pk_nil (h : K (.next st)) : K (pxs O cal q st .nil) := by rw [pxs]; exact h
theorem tk_nil (h : K (pxs O cal q st r)) : thenK O cal q r K (pxs O cal q st .nil) := by rw [pxs]; exact h
theorem pk_assign {i : Nat} {e : PE} {v : AV} {σ : Store} (h : (pe O cal q st e).v = .ok (.av v) σ) (k : K (pxs O cal q ((st.at σ).set i (.val v)) r)) : K (pxs O cal q st (.cons (.assign i e) r)) := by
  refine pk_step ?_ k
  rw [px, h]; rfl
theorem pk_if {t : PE} {a b : PSs} {c : Bool} {σ : Store} (h : (pe O cal q st t).t = some (c, σ)) (k : if c = true then thenK O cal q r K (pxs O cal q (st.at σ) a) else thenK O cal q r K (pxs O cal q (st.at σ) b)) : K (pxs O cal q st (.cons (.ite t a b) r)) := by
  refine pk_cons ?_
  rw [px, h]
  cases c <;> simpa using k
theorem pk_if_t {t : PE} {a b : PSs} {σ : Store} (h : (pe O cal q st t).t = some (true, σ)) (k : thenK O cal q r K (pxs O cal q (st.at σ) a)) : K (pxs O cal q st (.cons (.ite t a b) r)) := pk_if h (by simpa using k)
theorem pk_if_f {t : PE} {a b : PSs} {σ : Store} (h : (pe O cal q st t).t = some (false, σ)) (k : thenK O cal q r K (pxs O cal q (st.at σ) b)) : K (pxs O cal q st (.cons (.ite t a b) r)) := pk_if h (by simpa using k)
/-- an if that is passed by -/
theorem pk_skip {t : PE} {a : PSs} {σ : Store} (h : (pe O cal q st t).t = some (false, σ)) (k : K (pxs O cal q (st.at σ) r)) : K (pxs O cal q st (.cons (.ite t a .nil) r)) := pk_if_f h (by rw [pxs]; exact k)
theorem pk_ret {e : PE} {v : AV} {σ : Store} (h : (pe O cal q st e).v = .ok (.av v) σ) (k : K (.ret v σ)) : K (pxs O cal q st (.cons (.ret e) r)) := by
  refine pk_cons ?_
  rw [px, h]; exact k
/-- what holds of a turn's end -/
noncomputable def loopK (I : Fs → Prop) (K : FR → Prop) : FR → Prop
  | .next st' => I st'
  | .cont st' => I st'
  | .brk st' => K (.next st')
  | .ret v σ => K (.ret v σ)
  | _ => False
theorem forF_inv {f : AV → Fs → FR} (I : Nat → Fs → Prop) : ∀ (l : List AV) (n : Nat) (st : Fs), I n st → (∀ j x st, l[j]? = some x → I (n + j) st → loopK (I (n + j + 1)) K (f x st)) → (∀ st, I (n + l.length) st → K (.next st)) → K (forF f l st)
  | [], n, st, h0, _, hd => hd st (by simpa using h0)
  | x :: l, n, st, h0, hs, hd => by
    have h1 := hs 0 x st (by simp) (by simpa using h0)
    have go : ∀ st', I (n + 0 + 1) st' → K (forF f l st') := fun st' h' => by
      refine forF_inv I l (n + 1) st' (by simpa using h') (fun j y st hj hI => ?_) (fun st hI => hd st ?_)
      · have := hs (j + 1) y st (by simpa using hj) (by rw [show n + (j + 1) = n + 1 + j by omega]; exact hI)
        rw [show n + (j + 1) + 1 = n + 1 + j + 1 by omega] at this
        exact this
      · rw [List.length_cons, show n + (l.length + 1) = n + 1 + l.length by omega]; exact hI
    rw [forF]
    revert h1
    cases f x st with
    | next st' => exact fun h => go st' h
    | cont st' => exact fun h => go st' h
    | brk st' => exact fun h => h
    | ret v σ => exact fun h => h
    | exc _ _ => exact fun h => h.elim
    | stuck => exact fun h => h.elim
theorem pk_for {i : Nat} {src : PE} {body : PSs} {v : AV} {σ : Store} {l : List AV} (I : Nat → Fs → Prop) (h : (pe O cal true st src).v = .ok (.av v) σ) (hi : O.items v = some l) (h0 : I 0 (st.at σ))
    (hs : ∀ j x st, l[j]? = some x → I j st → loopK (I (j + 1)) (thenK O cal true r K) (pxs O cal true (st.set i (.val x)) body)) (hd : ∀ st, I l.length st → K (pxs O cal true st r)) : K (pxs O cal true st (.cons (.for_ i src body) r)) := by
  refine pk_cons ?_
  have e : px O cal true st (.for_ i src body) = forF (fun x st => pxs O cal true (st.set i (.val x)) body) l (st.at σ) := by
    rw [px.eq_def]
    simp only [h, hi]
  rw [e]
  refine forF_inv (K := thenK O cal true r K) I l 0 _ h0 (fun j x st hj hI => ?_) fun st hI => hd st (by simpa using hI)
  simp only [Nat.zero_add] at hI ⊢
  exact hs j x st hj hI
theorem whileF_inv {t : Fs → Option (Bool × Store)} {f : Fs → FR} (I : Nat → Fs → Prop) : ∀ (n m : Nat) (st : Fs), m < n → I m st →
    (∀ m st, I m st → (∃ σ, t st = some (false, σ) ∧ K (.next (st.at σ))) ∨ (∃ σ, t st = some (true, σ) ∧ loopK (fun st' => ∃ m', m' < m ∧ I m' st') K (f (st.at σ)))) → K (whileF t f n st)
  | 0, m, st, h, _, _ => by omega
  | n + 1, m, st, h, hI, hs => by
    rw [whileF]
    rcases hs m st hI with ⟨σ, h1, h2⟩ | ⟨σ, h1, h2⟩
    · rw [h1]; exact h2
    · rw [h1]
      have go : ∀ st', (∃ m', m' < m ∧ I m' st') → K (whileF t f n st') := fun st' ⟨m', hm, hI'⟩ => whileF_inv I n m' st' (by omega) hI' hs
      revert h2
      show loopK _ K (f (st.at σ)) → K (match f (st.at σ) with | .next st' => _ | .cont st' => _ | .brk st' => _ | .ret v σ => _ | .exc _ _ => _ | .stuck => _)
      cases f (st.at σ) with
      | next st' => exact fun h => go st' h
      | cont st' => exact fun h => go st' h
      | brk st' => exact fun h => h
      | ret v σ => exact fun h => h
      | exc _ _ => exact fun h => h.elim
      | stuck => exact fun h => h.elim
theorem pk_while {n m : Nat} {t : PE} {body : PSs} (I : Nat → Fs → Prop) (hm : m < n) (h0 : I m st)
    (hs : ∀ m st, I m st → (∃ σ, (pe O cal q st t).t = some (false, σ) ∧ K (pxs O cal q (st.at σ) r)) ∨ (∃ σ, (pe O cal q st t).t = some (true, σ) ∧ loopK (fun st' => ∃ m', m' < m ∧ I m' st') (thenK O cal q r K) (pxs O cal q (st.at σ) body))) : K (pxs O cal q st (.cons (.while_ n t body) r)) := by
  refine pk_cons ?_
  rw [px]
  exact whileF_inv (K := thenK O cal q r K) I n m st hm h0 hs
/-- a def's result -/
noncomputable def Ends (v : ER) (fr : FR) : Prop := fnRes fr = v
theorem fn_ret {p : PSs} {v : ER} (h : Ends v (pxs O cal q st p)) : fnRes (pxs O cal q st p) = v := h
theorem ends_ret {v : AV} {σ : Store} : Ends (.ok (.av v) σ) (.ret v σ) := rfl
end
section
variable {σ : Store} {ρ : List (Option Ent)}
theorem dS_av {x : AV} : derefS ρ σ (.av x) = deref σ x := rfl
theorem dr_none : deref σ .none = .none := rfl
theorem dr_bool {x : Bool} : deref σ (.bool x) = .bool x := rfl
theorem dr_int {x : Int} : deref σ (.int x) = .int x := rfl
theorem dr_str {x : Str} : deref σ (.str x) = .str x := rfl
theorem dr_type {x : String} : deref σ (.type x) = .type x := rfl
theorem dr_range {a b c : Int} : deref σ (.range a b c) = .range a b c := rfl
theorem dr_tup {x : List AV} : deref σ (.tup x) = .tup x := rfl
theorem dr_lst {x : List AV} : deref σ (.lst x) = .lst x := rfl
theorem dr_set {b : Bool} {x : List Int} : deref σ (.set b x) = .set b x := rfl
end
/- numbers -/
theorem pylong_small (a b : Int) (h0 : 0 < b) (h1 : b < 2 ^ 62) : Builtin.divisionGoesByPylong a b = false := by
  unfold Builtin.divisionGoesByPylong
  have hb : (b == 0) = false := by simp; omega
  have hn : b.natAbs < 2 ^ 62 := by omega
  have hlog : b.natAbs.log2 < 62 := by
    rw [Nat.log2_lt (by omega)]; exact hn
  simp only [hb, Bool.false_eq_true, if_false, Bool.and_eq_false_imp, decide_eq_true_eq]
  omega
theorem floordiv_small (a b : Int) (h0 : 0 < b) (h1 : b < 2 ^ 62) : intBin .FloorDiv a b = .ok (.int (a / b)) := by
  unfold intBin
  simp only [pylong_small a b h0 h1, Bool.false_eq_true, if_false]
  rw [if_neg (by simp; omega), Int.fdiv_eq_ediv_of_nonneg _ (by omega)]
theorem mod_pos (a b : Int) (h0 : 0 < b) : intBin .Mod a b = .ok (.int (a % b)) := by
  unfold intBin
  simp only
  rw [if_neg (by simp; omega), Int.fmod_eq_emod_of_nonneg _ (by omega)]
theorem mult_right (a b : Int) (h0 : -(2 ^ 62) < b) (h1 : b < 2 ^ 62) : intBin .Mult a b = .ok (.int (a * b)) := by
  unfold intBin
  simp only
  rw [if_pos (mulOk_iff.mpr (.of_right (intBits_le_64 (by omega) (by omega))))]
theorem mult_left (a b : Int) (h0 : -(2 ^ 62) < a) (h1 : a < 2 ^ 62) : intBin .Mult a b = .ok (.int (a * b)) := by
  unfold intBin
  simp only
  rw [if_pos (mulOk_iff.mpr (.of_left (intBits_le_64 (by omega) (by omega))))]
theorem ib_add (a b : Int) : intBin .Add a b = .ok (.int (a + b)) := rfl
theorem ib_sub (a b : Int) : intBin .Sub a b = .ok (.int (a - b)) := rfl
theorem ic_eq (a b : Int) : intCmp .Eq a b = some (a == b) := rfl
theorem ic_ne (a b : Int) : intCmp .NotEq a b = some (a != b) := rfl
theorem ic_lt (a b : Int) : intCmp .Lt a b = some (decide (a < b)) := rfl
theorem ic_le (a b : Int) : intCmp .LtE a b = some (decide (a ≤ b)) := rfl
theorem ic_gt (a b : Int) : intCmp .Gt a b = some (decide (a > b)) := rfl
theorem ic_ge (a b : Int) : intCmp .GtE a b = some (decide (a ≥ b)) := rfl
theorem ob_ii (op : Operator) (a b : Int) : opBin op (.int a) (.int b) = intBin op a b := rfl
theorem oc_ii (op : CmpOp) (a b : Int) : opCmp op (.int a) (.int b) = intCmp op a b := rfl
theorem ou_i (a : Int) : opUn .USub (.int a) = .ok (.int (-a)) := rfl
theorem ot_b (b : Bool) : opTruth (.bool b) = some b := rfl
theorem ot_i (a : Int) : opTruth (.int a) = some (a != 0) := rfl
theorem ot_n : opTruth .none = some false := rfl
theorem oi_l (xs : List AV) (i : Int) : opIdx (.lst xs) (.int i) = idxL xs i := rfl
theorem os_l (xs : List AV) (a b z : AV) : opSlice (.lst xs) a b z = sliceL xs a b z := rfl
theorem idxL_nat {xs : List AV} {i : Int} {x : AV} (h0 : 0 ≤ i) (h : xs[i.toNat]? = some x) : idxL xs i = .ok x := by
  unfold idxL; rw [if_pos h0, h]
theorem cb_len (ys : List AV) : callB .len [.lst ys] = .ok (.int ys.length) := rfl
theorem cb_abs (a : Int) : callB .abs [.int a] = .ok (.int (if a < 0 then -a else a)) := rfl
theorem cb_range (n : Int) : callB .range [.int n] = .ok (.range 0 n 1) := rfl
theorem cb_range2 (a n : Int) : callB .range [.int a, .int n] = .ok (.range a n 1) := rfl
theorem ints_map (l : List Int) : ints? (l.map .int) = some l := by
  induction l with
  | nil => rfl
  | cons a l ih => simp [ints?, ih]
theorem cb_sum {ys : List AV} {ns : List Int} (h : ints? ys = some ns) : callB .sum [.lst ys] = .ok (.int ns.sum) := by simp only [callB, h]
noncomputable def pickI (xs : List Int) (lo hi st : Option Int) : List Int :=
  (sliceRange (sliceBounds lo hi st xs.length).1 (sliceBounds lo hi st xs.length).2.1 (sliceBounds lo hi st xs.length).2.2).filterMap (xs[·]?)
theorem pickL_ints (ns : List Int) (lo hi st : Option Int) : pickL (ns.map .int) lo hi st = (pickI ns lo hi st).map .int := by
  unfold pickL pickI
  rw [List.length_map, List.map_filterMap]
  congr 1
  funext i
  rw [List.getElem?_map]
theorem slice_step (ns : List Int) (k step : Int) (hs : step ≠ 0) : sliceL (ns.map .int) (.int k) .none (.int step) = .ok (.lst ((pickI ns (some k) none (some step)).map .int)) := by
  show (if some step = some 0 then Res.stuck else .ok (.lst (pickL (ns.map .int) (some k) none (some step)))) = _
  rw [if_neg (by simpa using hs), pickL_ints]
noncomputable def nth (l : List Int) (k : Nat) : Int := l.getD k 0
theorem nth_mem {l : List Int} {k : Nat} (h : k < l.length) : nth l k ∈ l := by
  unfold nth
  rw [List.getD_eq_getElem?_getD, List.getElem?_eq_getElem h]
  exact List.getElem_mem _
theorem nth_get {l : List Int} {k : Nat} (h : k < l.length) : l[k]? = some (nth l k) := by
  unfold nth
  rw [List.getD_eq_getElem?_getD, List.getElem?_eq_getElem h]; rfl
theorem range2_items (a : Int) (n : Nat) (h : n ≤ 1000) (h1 : -1000000 ≤ a) (h2 : a ≤ 1000000) : itemsV (.range a (a + n) 1) = some ((List.range n).map fun (i : Nat) => .int (a + i)) := by
  have hs : Builtin.Range.small a (a + n) 1 = true := small_one (by omega) (by omega) (by omega) (by omega)
  have hz : Builtin.Range.rangeSize a (a + n) 1 = n := by rw [rangeSize_one]; split <;> omega
  unfold itemsV
  simp only [hs, if_true, hz, Int.toNat_natCast]
  rw [if_pos (by omega)]
  unfold rangeL
  rw [hz]
  simp only [Int.toNat_natCast, Int.mul_one]
theorem range_items (n : Nat) (h : n ≤ 1000) : itemsV (.range 0 n 1) = some ((List.range n).map fun (i : Nat) => .int i) := by
  have := range2_items 0 n h (by omega) (by omega)
  simpa using this
theorem range_get {n j : Nat} {x : AV} (h : ((List.range n).map fun (i : Nat) => AV.int i)[j]? = some x) : j < n ∧ x = .int j := by
  rw [List.getElem?_map] at h
  by_cases hj : j < n
  · rw [List.getElem?_range hj] at h
    simp at h
    exact ⟨hj, h.symm⟩
  · rw [List.getElem?_eq_none (by simpa using hj)] at h
    cases h
end Mine
end
section
open PySem PySem.W PyProof.Rows
namespace Mine
set_option maxRecDepth 100000
/- the defs, by number: 0 ixor, 1 _law_cut, 2 _law_table, 3 _law_sum, 4 _law_won, 5 _law_refused, 6 law -/
noncomputable def fname : Nat → Str
  | 0 => PySem.Str.ofString "ixor"
  | 1 => PySem.Str.ofString "_law_cut"
  | 2 => PySem.Str.ofString "_law_table"
  | 3 => PySem.Str.ofString "_law_sum"
  | 4 => PySem.Str.ofString "_law_won"
  | 5 => PySem.Str.ofString "_law_refused"
  | 6 => PySem.Str.ofString "law"
  | _ => PySem.Str.ofString ""
/- ixor; slots: 0 a, 1 b -/
noncomputable def ixor_ns : List Str := [PySem.Str.ofString "a", PySem.Str.ofString "b"]
noncomputable def ixor_p : PSs :=
 .cons (.aug 0 .BitXor (.name 1))
 (.cons (.ret (.name 0)) .nil)
/- _law_cut; slots: 0 x, 1 top, 2 rest -/
noncomputable def law_cut_ns : List Str := [PySem.Str.ofString "x", PySem.Str.ofString "top", PySem.Str.ofString "rest"]
noncomputable def law_cut_p : PSs :=
 .cons (.assign 2 (.bin .Mod (.bcall .abs (.cons (.name 0) .nil)) (.name 1)))
 (.cons (.ret (.ife (.cmp .Lt (.name 0) (.const (.int 0))) (.un .USub (.name 2)) (.name 2))) .nil)
/- _law_table; slots: 0 table, 1 i, 2 j, 3 met, 4 least -/
noncomputable def law_table_ns : List Str := [PySem.Str.ofString "table", PySem.Str.ofString "i", PySem.Str.ofString "j", PySem.Str.ofString "met", PySem.Str.ofString "least"]
noncomputable def law_table_b3 : PSs :=
 .cons (.assign 4 (.bin .Add (.name 4) (.const (.int 1)))) .nil
noncomputable def law_table_b2 : PSs :=
 .cons (.assign 3 (.bin .Add (.sub (.name 0) (.name 1)) (.comp [0, 2] (.sub (.sub (.name 0) (.name 5)) (.name 2)) (.bcall .range (.cons (.name 1) .nil)) (.nil))))
 (.cons (.assign 4 (.const (.int 0)))
 (.cons (.while_ 2000 (.cmp .In (.name 4) (.name 3)) law_table_b3)
 (.cons (.expr (.emeth (.sub (.name 0) (.name 1)) .append (.cons (.name 4) .nil))) .nil)))
noncomputable def law_table_b1 : PSs :=
 .cons (.ometh 0 .append (.cons (.newl (.nil)) .nil) none)
 (.cons (.for_ 2 (.bcall .range (.cons (.const (.int 8)) .nil)) law_table_b2) .nil)
noncomputable def law_table_p : PSs :=
 .cons (.ownl 0 (.nil))
 (.cons (.for_ 1 (.bcall .range (.cons (.const (.int 8)) .nil)) law_table_b1)
 (.cons (.retOwn 0) .nil))
/- _law_sum; slots: 0 a, 1 b, 2 table, 3 below, 4 out, 5 worth -/
noncomputable def law_sum_ns : List Str := [PySem.Str.ofString "a", PySem.Str.ofString "b", PySem.Str.ofString "table", PySem.Str.ofString "below", PySem.Str.ofString "out", PySem.Str.ofString "worth"]
noncomputable def law_sum_b1 : PSs :=
 .cons (.assign 4 (.bin .Add (.name 4) (.bin .Mult (.name 5) (.sub (.sub (.name 2) (.bin .Mod (.name 0) (.const (.int 8)))) (.bin .Mod (.name 1) (.const (.int 8)))))))
 (.cons (.assign 0 (.bin .FloorDiv (.name 0) (.const (.int 8))))
 (.cons (.assign 1 (.bin .FloorDiv (.name 1) (.const (.int 8))))
 (.cons (.assign 5 (.bin .Mult (.name 5) (.const (.int 8)))) .nil)))
noncomputable def law_sum_p : PSs :=
 .cons (.assign 3 (.cmp .NotEq (.cmp .Lt (.name 0) (.const (.int 0))) (.cmp .Lt (.name 1) (.const (.int 0)))))
 (.cons (.ite (.cmp .Lt (.name 0) (.const (.int 0)))
 (.cons (.assign 0 (.bin .Sub (.un .USub (.const (.int 1))) (.name 0))) .nil)
 (.nil))
 (.cons (.ite (.cmp .Lt (.name 1) (.const (.int 0)))
 (.cons (.assign 1 (.bin .Sub (.un .USub (.const (.int 1))) (.name 1))) .nil)
 (.nil))
 (.cons (.assign 4 (.const (.int 0)))
 (.cons (.assign 5 (.const (.int 1)))
 (.cons (.while_ 2000 (.bop .Or (.cons (.cmp .Gt (.name 0) (.const (.int 0))) (.cons (.cmp .Gt (.name 1) (.const (.int 0))) .nil))) law_sum_b1)
 (.cons (.ret (.ife (.name 3) (.bin .Sub (.un .USub (.const (.int 1))) (.name 4)) (.name 4))) .nil))))))
/- _law_won; slots: 0 won, 1 place, 2 heaps, 3 good, 4 h, 5 step, 6 less -/
noncomputable def law_won_ns : List Str := [PySem.Str.ofString "won", PySem.Str.ofString "place", PySem.Str.ofString "heaps", PySem.Str.ofString "good", PySem.Str.ofString "h", PySem.Str.ofString "step", PySem.Str.ofString "less"]
noncomputable def law_won_b3 : PSs :=
 .cons (.ite (.un .Not (.sub (.name 0) (.bin .Sub (.name 1) (.bin .Mult (.name 6) (.name 5)))))
 (.cons (.assign 3 (.const (.bool true))) .nil)
 (.nil)) .nil
noncomputable def law_won_b2 : PSs :=
 .cons (.assign 5 (.sub (.tup (.cons (.const (.int 16)) (.cons (.const (.int 4)) (.cons (.const (.int 1)) .nil)))) (.name 4)))
 (.cons (.for_ 6 (.bcall .range (.cons (.const (.int 1)) (.cons (.bin .Add (.sub (.name 2) (.name 4)) (.const (.int 1))) .nil))) law_won_b3) .nil)
noncomputable def law_won_b1 : PSs :=
 .cons (.assign 2 (.list (.cons (.bin .FloorDiv (.name 1) (.const (.int 16))) (.cons (.bin .Mod (.bin .FloorDiv (.name 1) (.const (.int 4))) (.const (.int 4))) (.cons (.bin .Mod (.name 1) (.const (.int 4))) .nil)))))
 (.cons (.assign 3 (.const (.bool false)))
 (.cons (.for_ 4 (.bcall .range (.cons (.const (.int 3)) .nil)) law_won_b2)
 (.cons (.ometh 0 .append (.cons (.name 3) .nil) none) .nil)))
noncomputable def law_won_p : PSs :=
 .cons (.ownl 0 (.nil))
 (.cons (.for_ 1 (.bcall .range (.cons (.const (.int 64)) .nil)) law_won_b1)
 (.cons (.retOwn 0) .nil))
/- _law_refused; slots: 0 a, 1 b -/
noncomputable def law_refused_ns : List Str := [PySem.Str.ofString "a", PySem.Str.ofString "b"]
noncomputable def law_refused_p : PSs :=
 .cons (.try_ (.cons (.expr (.call 0 (.cons (.name 0) (.cons (.name 1) .nil)))) .nil) (.cons .te (.cons (.ret (.const (.bool true))) .nil) (.nil)))
 (.cons (.ret (.const (.bool false))) .nil)
/- law; slots: 0 script, 1 table, 2 won, 3 numbers, 4 k, 5 a, 6 b, 7 made, 8 first, 9 second, 10 third, 11 rest, 12 up, 13 down, 14 both, 15 mixed, 16 bad -/
noncomputable def law_ns : List Str := [PySem.Str.ofString "script", PySem.Str.ofString "table", PySem.Str.ofString "won", PySem.Str.ofString "numbers", PySem.Str.ofString "k", PySem.Str.ofString "a", PySem.Str.ofString "b", PySem.Str.ofString "made", PySem.Str.ofString "first", PySem.Str.ofString "second", PySem.Str.ofString "third", PySem.Str.ofString "rest", PySem.Str.ofString "up", PySem.Str.ofString "down", PySem.Str.ofString "both", PySem.Str.ofString "mixed", PySem.Str.ofString "bad"]
noncomputable def law_b2 : PSs :=
 .cons (.ite (.bop .Or (.cons (.un .Not (.call 5 (.cons (.name 5) (.cons (.name 16) .nil)))) (.cons (.un .Not (.call 5 (.cons (.name 16) (.cons (.name 5) .nil)))) .nil)))
 (.cons (.ret (.const (.bool false))) .nil)
 (.nil)) .nil
noncomputable def law_b1 : PSs :=
 .cons (.assign 5 (.sub (.name 3) (.name 4)))
 (.cons (.assign 6 (.sub (.name 3) (.bin .Sub (.name 4) (.const (.int 1)))))
 (.cons (.assign 7 (.call 0 (.cons (.name 5) (.cons (.name 6) .nil))))
 (.cons (.ite (.bop .Or (.cons (.cmp .IsNot (.bcall .type (.cons (.name 7) .nil)) (.glob .int)) (.cons (.cmp .NotEq (.name 7) (.call 3 (.cons (.name 5) (.cons (.name 6) (.cons (.name 1) .nil))))) .nil)))
 (.cons (.ret (.const (.bool false))) .nil)
 (.nil))
 (.cons (.ite (.bop .Or (.cons (.cmp .NotEq (.call 0 (.cons (.name 7) (.cons (.name 6) .nil))) (.name 5)) (.cons (.cmp .NotEq (.call 0 (.cons (.name 7) (.cons (.name 5) .nil))) (.name 6)) (.cons (.cmp .NotEq (.call 0 (.cons (.name 5) (.cons (.name 5) .nil))) (.const (.int 0))) .nil))))
 (.cons (.ret (.const (.bool false))) .nil)
 (.nil))
 (.cons (.assign 8 (.bin .Mod (.name 5) (.const (.int 4))))
 (.cons (.assign 9 (.bin .Mod (.name 6) (.const (.int 4))))
 (.cons (.assign 10 (.bin .Mod (.sub (.name 3) (.bin .Sub (.name 4) (.const (.int 2)))) (.const (.int 4))))
 (.cons (.assign 11 (.call 0 (.cons (.call 0 (.cons (.name 8) (.cons (.name 9) .nil))) (.cons (.name 10) .nil))))
 (.cons (.ite (.cmp .NotEq (.cmp .NotEq (.name 11) (.const (.int 0))) (.sub (.name 2) (.bin .Add (.bin .Add (.bin .Mult (.const (.int 16)) (.name 8)) (.bin .Mult (.const (.int 4)) (.name 9))) (.name 10))))
 (.cons (.ret (.const (.bool false))) .nil)
 (.nil))
 (.cons (.assign 12 (.cmp .Gt (.name 5) (.name 6)))
 (.cons (.assign 13 (.cmp .Gt (.name 5) (.const (.int 0))))
 (.cons (.assign 14 (.call 0 (.cons (.name 12) (.cons (.name 13) .nil))))
 (.cons (.assign 15 (.call 0 (.cons (.name 5) (.cons (.name 12) .nil))))
 (.cons (.ite (.bop .Or (.cons (.cmp .IsNot (.bcall .type (.cons (.name 14) .nil)) (.glob .bool)) (.cons (.cmp .NotEq (.name 14) (.cmp .NotEq (.name 12) (.name 13))) .nil)))
 (.cons (.ret (.const (.bool false))) .nil)
 (.nil))
 (.cons (.ite (.bop .Or (.cons (.cmp .IsNot (.bcall .type (.cons (.name 15) .nil)) (.glob .int)) (.cons (.cmp .NotEq (.name 15) (.call 3 (.cons (.name 5) (.cons (.ife (.name 12) (.const (.int 1)) (.const (.int 0))) (.cons (.name 1) .nil))))) .nil)))
 (.cons (.ret (.const (.bool false))) .nil)
 (.nil))
 (.cons (.for_ 16 (.tup (.cons (.const .none) (.cons (.const (.str (PySem.Str.ofString "a"))) (.cons (.list (.cons (.name 5) .nil)) (.cons (.setd (.name 5)) .nil))))) law_b2) .nil))))))))))))))))
noncomputable def law_p : PSs :=
 .cons (.assign 1 (.call 2 (.nil)))
 (.cons (.assign 2 (.call 4 (.nil)))
 (.cons (.assign 3 (.bin .Add (.comp [0] (.call 1 (.cons (.bcall .sum (.cons (.slice (.name 0) (.name 17) (.const .none) (.const (.int 8))) .nil)) (.cons (.bin .Pow (.const (.int 10)) (.const (.int 40))) .nil))) (.bcall .range (.cons (.const (.int 8)) .nil)) (.nil)) (.list (.cons (.un .USub (.const (.int 6))) (.cons (.const (.int 13)) (.cons (.bin .Pow (.const (.int 2)) (.const (.int 64))) (.cons (.un .USub (.const (.int 1))) .nil)))))))
 (.cons (.for_ 4 (.bcall .range (.cons (.bcall .len (.cons (.name 3) .nil)) .nil)) law_b1)
 (.cons (.ret (.const (.bool true))) .nil))))
noncomputable def frees : List Str := ["abs", "range", "TypeError", "len", "type", "int", "bool", "sum"]
noncomputable def cal0 : Cal := fun _ _ _ _ => .stuck
theorem calls0 (c : Cx) (fname : Nat → Str) : CallsOk c 0 cal0 fname := ⟨fun _ _ _ _ h => absurd rfl h⟩
/-- level 1: ixor -/
noncomputable def cal1 : Cal := fun σ lo f args => match f with
  | 0 => if args.length = 2 then fnRes (pxs ops cal0 true (st0 args ixor_ns.length σ lo) ixor_p) else .stuck
  | _ => cal0 σ lo f args
theorem cal1_hit (σ : Store) (lo : Nat) (args : List AV) (h : args.length = 2) : cal1 σ lo 0 args = fnRes (pxs ops cal0 true (st0 args ixor_ns.length σ lo) ixor_p) := if_pos h
theorem calls1 {c : Cx} (hfree : ∀ x ∈ frees, c.mg x = none) (D0 : DefIs c frees fname (fname 0) ixor_ns 2 ixor_p) : CallsOk c 2 cal1 fname := ⟨fun σ lo f args h => by
  unfold cal1 at h ⊢
  split at h
  · split at h
    · rename_i hl; rw [if_pos hl]; exact ⟨D0.calls (ops_ok c) (calls0 c fname) hfree hl, D0.obj⟩
    · exact absurd rfl h
  · obtain ⟨a, b⟩ := (calls0 c fname).ok σ lo f args h
    exact ⟨a.mono (by omega), b⟩⟩
/-- level 2: _law_refused -/
noncomputable def cal2 : Cal := fun σ lo f args => match f with
  | 5 => if args.length = 2 then fnRes (pxs ops cal1 true (st0 args law_refused_ns.length σ lo) law_refused_p) else .stuck
  | _ => cal1 σ lo f args
theorem cal2_hit (σ : Store) (lo : Nat) (args : List AV) (h : args.length = 2) : cal2 σ lo 5 args = fnRes (pxs ops cal1 true (st0 args law_refused_ns.length σ lo) law_refused_p) := if_pos h
theorem calls2 {c : Cx} (hfree : ∀ x ∈ frees, c.mg x = none) (D0 : DefIs c frees fname (fname 0) ixor_ns 2 ixor_p) (D5 : DefIs c frees fname (fname 5) law_refused_ns 2 law_refused_p) : CallsOk c 4 cal2 fname := ⟨fun σ lo f args h => by
  unfold cal2 at h ⊢
  split at h
  · split at h
    · rename_i hl; rw [if_pos hl]; exact ⟨D5.calls (ops_ok c) (calls1 hfree D0) hfree hl, D5.obj⟩
    · exact absurd rfl h
  · obtain ⟨a, b⟩ := (calls1 hfree D0).ok σ lo f args h
    exact ⟨a.mono (by omega), b⟩⟩
/-- level 3: _law_sum -/
noncomputable def cal3 : Cal := fun σ lo f args => match f with
  | 3 => if args.length = 3 then fnRes (pxs ops cal2 true (st0 args law_sum_ns.length σ lo) law_sum_p) else .stuck
  | _ => cal2 σ lo f args
theorem cal3_hit (σ : Store) (lo : Nat) (args : List AV) (h : args.length = 3) : cal3 σ lo 3 args = fnRes (pxs ops cal2 true (st0 args law_sum_ns.length σ lo) law_sum_p) := if_pos h
theorem calls3 {c : Cx} (hfree : ∀ x ∈ frees, c.mg x = none) (D0 : DefIs c frees fname (fname 0) ixor_ns 2 ixor_p) (D5 : DefIs c frees fname (fname 5) law_refused_ns 2 law_refused_p) (D3 : DefIs c frees fname (fname 3) law_sum_ns 3 law_sum_p) : CallsOk c 6 cal3 fname := ⟨fun σ lo f args h => by
  unfold cal3 at h ⊢
  split at h
  · split at h
    · rename_i hl; rw [if_pos hl]; exact ⟨D3.calls (ops_ok c) (calls2 hfree D0 D5) hfree hl, D3.obj⟩
    · exact absurd rfl h
  · obtain ⟨a, b⟩ := (calls2 hfree D0 D5).ok σ lo f args h
    exact ⟨a.mono (by omega), b⟩⟩
/-- level 4: _law_cut -/
noncomputable def cal4 : Cal := fun σ lo f args => match f with
  | 1 => if args.length = 2 then fnRes (pxs ops cal3 true (st0 args law_cut_ns.length σ lo) law_cut_p) else .stuck
  | _ => cal3 σ lo f args
theorem cal4_hit (σ : Store) (lo : Nat) (args : List AV) (h : args.length = 2) : cal4 σ lo 1 args = fnRes (pxs ops cal3 true (st0 args law_cut_ns.length σ lo) law_cut_p) := if_pos h
theorem calls4 {c : Cx} (hfree : ∀ x ∈ frees, c.mg x = none) (D0 : DefIs c frees fname (fname 0) ixor_ns 2 ixor_p) (D5 : DefIs c frees fname (fname 5) law_refused_ns 2 law_refused_p) (D3 : DefIs c frees fname (fname 3) law_sum_ns 3 law_sum_p) (D1 : DefIs c frees fname (fname 1) law_cut_ns 2 law_cut_p) : CallsOk c 8 cal4 fname := ⟨fun σ lo f args h => by
  unfold cal4 at h ⊢
  split at h
  · split at h
    · rename_i hl; rw [if_pos hl]; exact ⟨D1.calls (ops_ok c) (calls3 hfree D0 D5 D3) hfree hl, D1.obj⟩
    · exact absurd rfl h
  · obtain ⟨a, b⟩ := (calls3 hfree D0 D5 D3).ok σ lo f args h
    exact ⟨a.mono (by omega), b⟩⟩
/-- level 5: _law_won -/
noncomputable def cal5 : Cal := fun σ lo f args => match f with
  | 4 => if args.length = 0 then fnRes (pxs ops cal4 true (st0 args law_won_ns.length σ lo) law_won_p) else .stuck
  | _ => cal4 σ lo f args
theorem calls5 {c : Cx} (hfree : ∀ x ∈ frees, c.mg x = none) (D0 : DefIs c frees fname (fname 0) ixor_ns 2 ixor_p) (D5 : DefIs c frees fname (fname 5) law_refused_ns 2 law_refused_p) (D3 : DefIs c frees fname (fname 3) law_sum_ns 3 law_sum_p) (D1 : DefIs c frees fname (fname 1) law_cut_ns 2 law_cut_p) (D4 : DefIs c frees fname (fname 4) law_won_ns 0 law_won_p) : CallsOk c 10 cal5 fname := ⟨fun σ lo f args h => by
  unfold cal5 at h ⊢
  split at h
  · split at h
    · rename_i hl; rw [if_pos hl]; exact ⟨D4.calls (ops_ok c) (calls4 hfree D0 D5 D3 D1) hfree hl, D4.obj⟩
    · exact absurd rfl h
  · obtain ⟨a, b⟩ := (calls4 hfree D0 D5 D3 D1).ok σ lo f args h
    exact ⟨a.mono (by omega), b⟩⟩
/-- level 6: _law_table -/
noncomputable def cal6 : Cal := fun σ lo f args => match f with
  | 2 => if args.length = 0 then fnRes (pxs ops cal5 true (st0 args law_table_ns.length σ lo) law_table_p) else .stuck
  | _ => cal5 σ lo f args
theorem calls6 {c : Cx} (hfree : ∀ x ∈ frees, c.mg x = none) (D0 : DefIs c frees fname (fname 0) ixor_ns 2 ixor_p) (D5 : DefIs c frees fname (fname 5) law_refused_ns 2 law_refused_p) (D3 : DefIs c frees fname (fname 3) law_sum_ns 3 law_sum_p) (D1 : DefIs c frees fname (fname 1) law_cut_ns 2 law_cut_p) (D4 : DefIs c frees fname (fname 4) law_won_ns 0 law_won_p) (D2 : DefIs c frees fname (fname 2) law_table_ns 0 law_table_p) : CallsOk c 12 cal6 fname := ⟨fun σ lo f args h => by
  unfold cal6 at h ⊢
  split at h
  · split at h
    · rename_i hl; rw [if_pos hl]; exact ⟨D2.calls (ops_ok c) (calls5 hfree D0 D5 D3 D1 D4) hfree hl, D2.obj⟩
    · exact absurd rfl h
  · obtain ⟨a, b⟩ := (calls5 hfree D0 D5 D3 D1 D4).ok σ lo f args h
    exact ⟨a.mono (by omega), b⟩⟩
noncomputable def lawRes (ns : List Int) : ER := fnRes (pxs ops cal6 true (st0 [.lst (ns.map .int)] law_ns.length [] 0) law_p)
noncomputable def textOk (p : Program) (loose : List Str) : Bool := freesOk p loose frees && defOk p frees fname (fname 0) ixor_ns 2 ixor_p && defOk p frees fname (fname 5) law_refused_ns 2 law_refused_p && defOk p frees fname (fname 3) law_sum_ns 3 law_sum_p && defOk p frees fname (fname 1) law_cut_ns 2 law_cut_p && defOk p frees fname (fname 4) law_won_ns 0 law_won_p && defOk p frees fname (fname 2) law_table_ns 0 law_table_p && defOk p frees fname (fname 6) law_ns 1 law_p
theorem law_code {prog : Program} {w : World} {p : Program} {loose : List Str} {mean : ExcName → Option Value} {mg mb : Str → Option Value} {s : Shared} (T : Top p loose mean mg mb s.heap) (ht : textOk p loose = true) {ns : List Int} (hres : ∃ σ, lawRes ns = .ok (.av (.bool true)) σ) (hz : ns.length ≤ 1048576)
    {l fa : Addr} {vs : List Value} (hl : IsL s.heap l vs) (hI : IntsAre vs ns) (hmg : mg (fname 6) = some (.ref fa)) {R : Result → Shared → Prop}
    (K : ∀ s', (∀ b o, s.heap.get? b = some o → s'.heap.get? b = some o) → s'.os = s.os → s'.gens = s.gens → R (.ok (.ret (.bool true))) s') : codeAny (model prog w) callerA (.call (.ref fa) ⟨[.ref l], []⟩) R s := by
  simp only [textOk, Bool.and_eq_true] at ht
  obtain ⟨⟨⟨⟨⟨⟨⟨h1, hd0⟩, hd5⟩, hd3⟩, hd1⟩, hd4⟩, hd2⟩, hd6⟩ := ht
  obtain ⟨σ', hres⟩ := hres
  have hfree := frees_of T h1
  have D0 := def_of (prog := prog) (w := w) T hd0
  have D5 := def_of (prog := prog) (w := w) T hd5
  have D3 := def_of (prog := prog) (w := w) T hd3
  have D1 := def_of (prog := prog) (w := w) T hd1
  have D4 := def_of (prog := prog) (w := w) T hd4
  have D2 := def_of (prog := prog) (w := w) T hd2
  have D6 := def_of (prog := prog) (w := w) T hd6
  have rr := script_rep hl hI hz
  have := D6.code (ops_ok _) (calls6 hfree D0 D5 D3 D1 D4 D2) hfree (args := [.lst (ns.map .int)]) (σ := []) (lo := 0) rfl (A := callerA) (s := s) (H := H0) (vs := [.ref l]) (a := fa)
    (Q := fun v s' => v = .bool true ∧ (∀ b o, s.heap.get? b = some o → s'.heap.get? b = some o) ∧ s'.os = s.os ∧ s'.gens = s.gens) (E := fun _ _ => False)
    ⟨by decide, by decide, fun _ => rfl, [], rfl, trivial⟩ (fun _ _ e => e) (fun _ z => z.elim) (sto0 _) (fun _ _ e => by cases e) rr hmg (by
      show PostE true callerA _ _ _ (lawRes ns) s _ _
      rw [hres]
      exact fun v H' s' x r => ⟨r, kp_top (x.kp (Nat.le_refl _))⟩)
  refine codeAny_mono this fun r s' h => ?_
  match r, h with
  | .ok (.ret v), ⟨hv, h1, h2, h3⟩ => rw [hv]; exact K s' h1 h2 h3
end Mine
end
section
open PySem PySem.W PyProof.Rows
namespace Mine
set_option maxRecDepth 100000
set_option linter.unusedSimpArgs false

/- plain xor -/
theorem nat_xor_and : ∀ (a b : Nat), a + b = (a ^^^ b) + 2 * (a &&& b) := by
  intro a
  induction a using Nat.strongRecOn with
  | _ a ih =>
    intro b
    by_cases ha : a = 0
    · subst ha; simp
    · have h := ih (a / 2) (by omega) (b / 2)
      have h1 := Nat.xor_div_two (a := a) (b := b)
      have h2 := Nat.and_div_two (a := a) (b := b)
      have h3 := Nat.xor_mod_two_pow (a := a) (b := b) (n := 1)
      have h4 := Nat.and_mod_two_pow (a := a) (b := b) (n := 1)
      rw [← h1, ← h2] at h
      simp only [Nat.pow_one] at h3 h4
      rcases Nat.mod_two_eq_zero_or_one a with x | x <;> rcases Nat.mod_two_eq_zero_or_one b with y | y <;> rw [x, y] at h3 h4 <;> simp only [Nat.xor_self, Nat.zero_xor, Nat.xor_zero, Nat.and_self, Nat.zero_and, Nat.and_zero, Nat.or_self, Nat.zero_or, Nat.or_zero] at h3 h4 <;> omega
theorem nat_or_and : ∀ (a b : Nat), a + b = (a ||| b) + (a &&& b) := by
  intro a
  induction a using Nat.strongRecOn with
  | _ a ih =>
    intro b
    by_cases ha : a = 0
    · subst ha; simp
    · have h := ih (a / 2) (by omega) (b / 2)
      have h1 := Nat.or_div_two (a := a) (b := b)
      have h2 := Nat.and_div_two (a := a) (b := b)
      have h3 := Nat.or_mod_two_pow (a := a) (b := b) (n := 1)
      have h4 := Nat.and_mod_two_pow (a := a) (b := b) (n := 1)
      rw [← h1, ← h2] at h
      simp only [Nat.pow_one] at h3 h4
      rcases Nat.mod_two_eq_zero_or_one a with x | x <;> rcases Nat.mod_two_eq_zero_or_one b with y | y <;> rw [x, y] at h3 h4 <;> simp only [Nat.xor_self, Nat.zero_xor, Nat.xor_zero, Nat.and_self, Nat.zero_and, Nat.and_zero, Nat.or_self, Nat.zero_or, Nat.or_zero] at h3 h4 <;> omega
/-- how far from nought, or from -1 -/
noncomputable def far (a : Int) : Nat := (if a < 0 then -1 - a else a).toNat
noncomputable def xorP (a b : Int) : Int := if (decide (a < 0) != decide (b < 0)) = true then -1 - ((far a ^^^ far b : Nat) : Int) else (far a ^^^ far b : Nat)
theorem xor_eq (a b : Int) : Builtin.bitXor a b = xorP a b := by
  rw [bitXor_and]
  unfold Builtin.bitAnd xorP far Builtin.bitNot
  by_cases ha : a < 0 <;> by_cases hb : b < 0
  · have h1 : decide (0 ≤ a) = false := by simpa using ha
    have h2 : decide (0 ≤ b) = false := by simpa using hb
    simp only [h1, h2, ha, hb, decide_true, bne_self_eq_false, Bool.false_eq_true, if_false, if_true]
    have e1 : -a - 1 = -1 - a := by omega
    have e2 : -b - 1 = -1 - b := by omega
    rw [e1, e2]
    have x1 := nat_xor_and (-1 - a).toNat (-1 - b).toNat
    have x2 := nat_or_and (-1 - a).toNat (-1 - b).toNat
    omega
  · have h1 : decide (0 ≤ a) = false := by simpa using ha
    have h2 : decide (0 ≤ b) = true := by simp; omega
    simp only [h1, h2, ha, hb, decide_true, decide_false, Bool.true_bne, Bool.not_false, if_true, if_false]
    have e1 : -a - 1 = -1 - a := by omega
    rw [e1]
    have x1 := nat_xor_and (-1 - a).toNat b.toNat
    rw [Nat.and_comm b.toNat]
    omega
  · have h1 : decide (0 ≤ a) = true := by simp; omega
    have h2 : decide (0 ≤ b) = false := by simpa using hb
    simp only [h1, h2, ha, hb, decide_true, decide_false, Bool.false_bne, if_true, if_false]
    have e1 : -b - 1 = -1 - b := by omega
    rw [e1]
    have x1 := nat_xor_and a.toNat (-1 - b).toNat
    omega
  · have h1 : decide (0 ≤ a) = true := by simp; omega
    have h2 : decide (0 ≤ b) = true := by simp; omega
    simp only [h1, h2, ha, hb, decide_false, bne_self_eq_false, Bool.false_eq_true, if_false]
    have x1 := nat_xor_and a.toNat b.toNat
    omega
theorem xorP_lt (a b : Int) : decide (xorP a b < 0) = (decide (a < 0) != decide (b < 0)) := by
  unfold xorP
  cases h : (decide (a < 0) != decide (b < 0)) with
  | true => rw [if_pos rfl]; simp; omega
  | false => rw [if_neg (by simp)]; simp
theorem far_xorP (a b : Int) : far (xorP a b) = far a ^^^ far b := by
  unfold far
  have := xorP_lt a b
  cases h : (decide (a < 0) != decide (b < 0)) with
  | true =>
    rw [h] at this
    rw [if_pos (by simpa using this)]
    unfold xorP far
    rw [if_pos h]; omega
  | false =>
    rw [h] at this
    rw [if_neg (by simpa using this)]
    unfold xorP far
    rw [h, if_neg (by simp)]; omega
theorem far_inj {a b : Int} (h1 : decide (a < 0) = decide (b < 0)) (h2 : far a = far b) : a = b := by
  unfold far at h2
  by_cases ha : a < 0 <;> by_cases hb : b < 0 <;> simp [ha, hb] at h1 h2 <;> omega
theorem xorP_back (a b : Int) : xorP (xorP a b) b = a := by
  refine far_inj ?_ ?_
  · rw [xorP_lt, xorP_lt]; cases decide (a < 0) <;> cases decide (b < 0) <;> rfl
  · rw [far_xorP, far_xorP, Nat.xor_assoc, Nat.xor_self, Nat.xor_zero]
theorem xorP_comm (a b : Int) : xorP a b = xorP b a := by
  unfold xorP
  rw [Nat.xor_comm, show (decide (a < 0) != decide (b < 0)) = (decide (b < 0) != decide (a < 0)) by cases decide (a < 0) <;> cases decide (b < 0) <;> rfl]
theorem xorP_back' (a b : Int) : xorP (xorP a b) a = b := by rw [xorP_comm a b, xorP_back]
theorem xorP_self (a : Int) : xorP a a = 0 := by
  unfold xorP
  rw [Nat.xor_self, bne_self_eq_false, if_neg (by simp)]; rfl

/- the small defs -/
theorem ixor_eq (σ : Store) (lo : Nat) (a b : AV) : cal1 σ lo 0 [a, b] = ofRes (xorV (deref σ a) (deref σ b)) σ := by
  rw [cal1_hit _ _ _ rfl]
  show fnRes (pxs ops cal0 true ⟨[some (.val a), some (.val b)], σ, lo, _⟩ ixor_p) = _
  unfold ixor_p
  rw [pxs, px]
  simp only [pe_const, pe_name, slotV, pe_glob, pe_bin, pe_not, pe_neg, pe_is, pe_isnot, pe_eq, pe_ne, pe_lt, pe_le, pe_gt, pe_ge, pe_in, pe_notin, pe_bop, pe_ife, pe_list, pe_tup, pe_sub, pe_slice, pe_call, pe_bcall, pe_newl, pe_emeth, pe_setd, pes_nil', pes_cons, pr_v, pr_t, bind_ok, bindA_ok, truth_ok, ofB_some, ofRes_ok, ofRes_exc, onL_some, onP_some, plains_nil, plains_cons, pall_and_nil, pall_or_nil, pall_and_cons, pall_or_cons, pbop_one, pbop_and, pbop_or, Option.map_some, List.map_cons, List.map_nil, List.getElem?_cons_zero, List.getElem?_cons_succ, dS_av, dr_none, dr_bool, dr_int, dr_str, dr_type, dr_range, dr_tup, dr_lst, dr_set, ops_bin, ops_inpl, ops_un, ops_cmp, ops_truth, ops_idx, ops_slice, ops_bcall, ops_items, ops_is, ob_ii, oc_ii, ou_i, ot_b, ot_i, ot_n, ib_add, ib_sub, ic_eq, ic_ne, ic_lt, ic_le, ic_gt, ic_ge, oi_l, os_l, cb_len, cb_abs, cb_range, cb_range2, List.length_cons, List.length_nil, Bool.not_true, Bool.not_false, Nat.reduceAdd, Nat.reduceLeDiff, if_true]
  show fnRes (match resS (ofRes (xorV (deref σ a) (deref σ b)) σ) _ _ with | .next st' => _ | f => f) = _
  cases xorV (deref σ a) (deref σ b) with
  | ok v => rfl
  | exc x => rfl
  | stuck => rfl
theorem refused_eq {σ : Store} {lo : Nat} {a b : AV} (h : xorV (deref σ a) (deref σ b) = .exc .te) : cal2 σ lo 5 [a, b] = .ok (.av (.bool true)) σ := by
  rw [cal2_hit _ _ _ rfl]
  show fnRes (pxs ops cal1 true ⟨[some (.val a), some (.val b)], σ, lo, σ.length⟩ law_refused_p) = _
  have e : pxs ops cal1 true ⟨[some (.val a), some (.val b)], σ, lo, σ.length⟩ (.cons (.expr (.call 0 (.cons (.name 0) (.cons (.name 1) .nil)))) .nil) = .exc .te ⟨[some (.val a), some (.val b)], σ, lo, σ.length⟩ := by
    rw [pxs, px]
    simp only [pe_const, pe_name, slotV, pe_glob, pe_bin, pe_not, pe_neg, pe_is, pe_isnot, pe_eq, pe_ne, pe_lt, pe_le, pe_gt, pe_ge, pe_in, pe_notin, pe_bop, pe_ife, pe_list, pe_tup, pe_sub, pe_slice, pe_call, pe_bcall, pe_newl, pe_emeth, pe_setd, pes_nil', pes_cons, pr_v, pr_t, bind_ok, bindA_ok, truth_ok, ofB_some, ofRes_ok, ofRes_exc, onL_some, onP_some, plains_nil, plains_cons, pall_and_nil, pall_or_nil, pall_and_cons, pall_or_cons, pbop_one, pbop_and, pbop_or, Option.map_some, List.map_cons, List.map_nil, List.getElem?_cons_zero, List.getElem?_cons_succ, dS_av, dr_none, dr_bool, dr_int, dr_str, dr_type, dr_range, dr_tup, dr_lst, dr_set, ops_bin, ops_inpl, ops_un, ops_cmp, ops_truth, ops_idx, ops_slice, ops_bcall, ops_items, ops_is, ob_ii, oc_ii, ou_i, ot_b, ot_i, ot_n, ib_add, ib_sub, ic_eq, ic_ne, ic_lt, ic_le, ic_gt, ic_ge, oi_l, os_l, cb_len, cb_abs, cb_range, cb_range2, List.length_cons, List.length_nil, Bool.not_true, Bool.not_false, Nat.reduceAdd, Nat.reduceLeDiff, if_true, ixor_eq, h, resS]
  unfold law_refused_p
  rw [pxs, px, e]
  rfl
noncomputable def cutI (x top : Int) : Int := if x < 0 then -((if x < 0 then -x else x) % top) else (if x < 0 then -x else x) % top
theorem cut_eq (σ : Store) (lo : Nat) (x top : Int) (h : 0 < top) : cal4 σ lo 1 [.int x, .int top] = .ok (.av (.int (cutI x top))) σ := by
  rw [cal4_hit _ _ _ rfl]
  show fnRes (pxs ops cal3 true ⟨[some (.val (.int x)), some (.val (.int top)), none], σ, lo, σ.length⟩ law_cut_p) = _
  have m := mod_pos (if x < 0 then -x else x) top h
  refine fn_ret (pk_assign (v := .int ((if x < 0 then -x else x) % top)) (σ := σ) ?_ ?_)
  · simp only [pe_const, pe_name, slotV, pe_glob, pe_bin, pe_not, pe_neg, pe_is, pe_isnot, pe_eq, pe_ne, pe_lt, pe_le, pe_gt, pe_ge, pe_in, pe_notin, pe_bop, pe_ife, pe_list, pe_tup, pe_sub, pe_slice, pe_call, pe_bcall, pe_newl, pe_emeth, pe_setd, pes_nil', pes_cons, pr_v, pr_t, bind_ok, bindA_ok, truth_ok, ofB_some, ofRes_ok, ofRes_exc, onL_some, onP_some, plains_nil, plains_cons, pall_and_nil, pall_or_nil, pall_and_cons, pall_or_cons, pbop_one, pbop_and, pbop_or, Option.map_some, List.map_cons, List.map_nil, List.getElem?_cons_zero, List.getElem?_cons_succ, dS_av, dr_none, dr_bool, dr_int, dr_str, dr_type, dr_range, dr_tup, dr_lst, dr_set, ops_bin, ops_inpl, ops_un, ops_cmp, ops_truth, ops_idx, ops_slice, ops_bcall, ops_items, ops_is, ob_ii, oc_ii, ou_i, ot_b, ot_i, ot_n, ib_add, ib_sub, ic_eq, ic_ne, ic_lt, ic_le, ic_gt, ic_ge, oi_l, os_l, cb_len, cb_abs, cb_range, cb_range2, List.length_cons, List.length_nil, Bool.not_true, Bool.not_false, Nat.reduceAdd, Nat.reduceLeDiff, if_true, m]
  · dsimp only [Fs.at, Fs.set, List.set_cons_zero, List.set_cons_succ]
    refine pk_ret (v := .int (cutI x top)) ?_ ends_ret
    unfold cutI
    by_cases hx : x < 0
    · simp only [pe_const, pe_name, slotV, pe_glob, pe_bin, pe_not, pe_neg, pe_is, pe_isnot, pe_eq, pe_ne, pe_lt, pe_le, pe_gt, pe_ge, pe_in, pe_notin, pe_bop, pe_ife, pe_list, pe_tup, pe_sub, pe_slice, pe_call, pe_bcall, pe_newl, pe_emeth, pe_setd, pes_nil', pes_cons, pr_v, pr_t, bind_ok, bindA_ok, truth_ok, ofB_some, ofRes_ok, ofRes_exc, onL_some, onP_some, plains_nil, plains_cons, pall_and_nil, pall_or_nil, pall_and_cons, pall_or_cons, pbop_one, pbop_and, pbop_or, Option.map_some, List.map_cons, List.map_nil, List.getElem?_cons_zero, List.getElem?_cons_succ, dS_av, dr_none, dr_bool, dr_int, dr_str, dr_type, dr_range, dr_tup, dr_lst, dr_set, ops_bin, ops_inpl, ops_un, ops_cmp, ops_truth, ops_idx, ops_slice, ops_bcall, ops_items, ops_is, ob_ii, oc_ii, ou_i, ot_b, ot_i, ot_n, ib_add, ib_sub, ic_eq, ic_ne, ic_lt, ic_le, ic_gt, ic_ge, oi_l, os_l, cb_len, cb_abs, cb_range, cb_range2, List.length_cons, List.length_nil, Bool.not_true, Bool.not_false, Nat.reduceAdd, Nat.reduceLeDiff, if_true, hx, decide_true, if_true]
    · simp only [pe_const, pe_name, slotV, pe_glob, pe_bin, pe_not, pe_neg, pe_is, pe_isnot, pe_eq, pe_ne, pe_lt, pe_le, pe_gt, pe_ge, pe_in, pe_notin, pe_bop, pe_ife, pe_list, pe_tup, pe_sub, pe_slice, pe_call, pe_bcall, pe_newl, pe_emeth, pe_setd, pes_nil', pes_cons, pr_v, pr_t, bind_ok, bindA_ok, truth_ok, ofB_some, ofRes_ok, ofRes_exc, onL_some, onP_some, plains_nil, plains_cons, pall_and_nil, pall_or_nil, pall_and_cons, pall_or_cons, pbop_one, pbop_and, pbop_or, Option.map_some, List.map_cons, List.map_nil, List.getElem?_cons_zero, List.getElem?_cons_succ, dS_av, dr_none, dr_bool, dr_int, dr_str, dr_type, dr_range, dr_tup, dr_lst, dr_set, ops_bin, ops_inpl, ops_un, ops_cmp, ops_truth, ops_idx, ops_slice, ops_bcall, ops_items, ops_is, ob_ii, oc_ii, ou_i, ot_b, ot_i, ot_n, ib_add, ib_sub, ic_eq, ic_ne, ic_lt, ic_le, ic_gt, ic_ge, oi_l, os_l, cb_len, cb_abs, cb_range, cb_range2, List.length_cons, List.length_nil, Bool.not_true, Bool.not_false, Nat.reduceAdd, Nat.reduceLeDiff, if_true, hx, decide_false, if_false]
theorem cutI_lt (x top : Int) (h : 0 < top) : (cutI x top).natAbs < top.natAbs := by
  unfold cutI
  generalize (if x < 0 then -x else x) = y
  have h1 := Int.emod_nonneg y (Int.ne_of_gt h)
  have h2 := Int.emod_lt_of_pos y h
  split <;> omega

/- the table -/
noncomputable def tabP : List AV := (List.range 8).map .ptr
noncomputable def tabS : Store := (List.range 8).map fun i => some (.lst ((List.range 8).map fun j => .int ((i ^^^ j : Nat) : Int)))
theorem table_eq : cal6 [] 0 2 [] = .ok (.av (.lst tabP)) tabS := by kernel_rfl
noncomputable def wonL : List Bool := (List.range 64).map fun p => (p / 16 ^^^ (p / 4 % 4) ^^^ (p % 4)) != 0
theorem won_eq (σ : Store) : cal5 σ 0 4 [] = .ok (.av (.lst (wonL.map .bool))) σ := by kernel_rfl
end Mine
end
section
open PySem PySem.W PyProof.Rows
namespace Mine
set_option maxRecDepth 100000
set_option linter.unusedSimpArgs false

noncomputable def rowT (i : Nat) : List AV := (List.range 8).map fun j => .int ((i ^^^ j : Nat) : Int)
theorem t_ptr (x : Nat) : idxL tabP ((x : Int) % 8) = .ok (.ptr (x % 8)) := by
  have h : x % 8 < 8 := Nat.mod_lt _ (by decide)
  have e : ((x : Int) % 8) = ((x % 8 : Nat) : Int) := by omega
  rw [e]
  refine idxL_nat (by omega) ?_
  rw [Int.toNat_natCast, tabP, List.getElem?_map, List.getElem?_range h]; rfl
theorem t_row {i : Nat} (h : i < 8) : deref tabS (.ptr i) = .lst (rowT i) := by
  have e : tabS[i]? = some (some (.lst (rowT i))) := by rw [tabS, List.getElem?_map, List.getElem?_range h]; rfl
  simp only [deref, e]
theorem t_num (i y : Nat) : idxL (rowT i) ((y : Int) % 8) = .ok (.int ((i ^^^ (y % 8) : Nat) : Int)) := by
  have h : y % 8 < 8 := Nat.mod_lt _ (by decide)
  have e : ((y : Int) % 8) = ((y % 8 : Nat) : Int) := by omega
  rw [e]
  refine idxL_nat (by omega) ?_
  rw [Int.toNat_natCast, rowT, List.getElem?_map, List.getElem?_range h]; rfl
theorem xor8 (x y : Nat) : x ^^^ y = (x % 8 ^^^ y % 8) + 8 * (x / 8 ^^^ y / 8) := by
  have h1 := Nat.xor_mod_two_pow (a := x) (b := y) (n := 3)
  have h2 := Nat.xor_div_two_pow (a := x) (b := y) (n := 3)
  have e : (2 : Nat) ^ 3 = 8 := rfl
  rw [e] at h1 h2
  rw [← h1, ← h2]; omega
theorem xor_lt8 (x y : Nat) : (x % 8 ^^^ y % 8) < 8 := by
  have h1 := Nat.xor_mod_two_pow (a := x) (b := y) (n := 3)
  have e : (2 : Nat) ^ 3 = 8 := rfl
  rw [e] at h1
  rw [← h1]; omega

theorem sum_loop {K : FR → Prop} {r : PSs} {lo n0 : Nat} (e3 : Option Ent) (x y : Nat) (hx : x < 8 ^ 100) (hy : y < 8 ^ 100)
    (hK : ∀ w, K (pxs ops cal2 true ⟨[some (.val (.int (0 : Nat))), some (.val (.int (0 : Nat))), some (.val (.lst tabP)), e3, some (.val (.int ((x ^^^ y : Nat) : Int))), some (.val (.int w))], tabS, lo, n0⟩ r)) :
    K (pxs ops cal2 true ⟨[some (.val (.int (x : Nat))), some (.val (.int (y : Nat))), some (.val (.lst tabP)), e3, some (.val (.int 0)), some (.val (.int 1))], tabS, lo, n0⟩
      (.cons (.while_ 2000 (.bop .Or (.cons (.cmp .Gt (.name 0) (.const (.int 0))) (.cons (.cmp .Gt (.name 1) (.const (.int 0))) .nil))) law_sum_b1) r)) := by
  refine pk_while (m := 100) (fun m st => ∃ a b : Nat, ∃ out w : Int, a < 8 ^ m ∧ b < 8 ^ m ∧ out + w * ((a ^^^ b : Nat) : Int) = ((x ^^^ y : Nat) : Int) ∧ st = ⟨[some (.val (.int (a : Nat))), some (.val (.int (b : Nat))), some (.val (.lst tabP)), e3, some (.val (.int out)), some (.val (.int w))], tabS, lo, n0⟩) (by omega) ⟨x, y, 0, 1, hx, hy, by omega, rfl⟩ ?_
  rintro m st ⟨a, b, out, w, ha, hb, ht, rfl⟩
  by_cases h0 : a = 0 ∧ b = 0
  · left
    obtain ⟨rfl, rfl⟩ := h0
    refine ⟨tabS, ?_, ?_⟩
    · have h : decide (((0 : Nat) : Int) > 0) = false := rfl
      simp only [pe_const, pe_name, slotV, pe_glob, pe_bin, pe_not, pe_neg, pe_is, pe_isnot, pe_eq, pe_ne, pe_lt, pe_le, pe_gt, pe_ge, pe_in, pe_notin, pe_bop, pe_ife, pe_list, pe_tup, pe_sub, pe_slice, pe_call, pe_bcall, pe_newl, pe_emeth, pe_setd, pes_nil', pes_cons, pr_v, pr_t, bind_ok, bindA_ok, truth_ok, ofB_some, ofRes_ok, ofRes_exc, onL_some, onP_some, plains_nil, plains_cons, pall_and_nil, pall_or_nil, pall_and_cons, pall_or_cons, pbop_one, pbop_and, pbop_or, Option.map_some, List.map_cons, List.map_nil, List.getElem?_cons_zero, List.getElem?_cons_succ, dS_av, dr_none, dr_bool, dr_int, dr_str, dr_type, dr_range, dr_tup, dr_lst, dr_set, ops_bin, ops_inpl, ops_un, ops_cmp, ops_truth, ops_idx, ops_slice, ops_bcall, ops_items, ops_is, ob_ii, oc_ii, ou_i, ot_b, ot_i, ot_n, ib_add, ib_sub, ic_eq, ic_ne, ic_lt, ic_le, ic_gt, ic_ge, oi_l, os_l, cb_len, cb_abs, cb_range, cb_range2, List.length_cons, List.length_nil, Bool.not_true, Bool.not_false, Nat.reduceAdd, Nat.reduceLeDiff, if_true, h]
    · have : out = ((x ^^^ y : Nat) : Int) := by simpa using ht
      subst this
      exact hK w
  · right
    refine ⟨tabS, ?_, ?_⟩
    · by_cases ha0 : a = 0
      · have h1 : decide ((a : Int) > 0) = false := by simp [ha0]
        have h2 : decide ((b : Int) > 0) = true := by simp; omega
        simp only [pe_const, pe_name, slotV, pe_glob, pe_bin, pe_not, pe_neg, pe_is, pe_isnot, pe_eq, pe_ne, pe_lt, pe_le, pe_gt, pe_ge, pe_in, pe_notin, pe_bop, pe_ife, pe_list, pe_tup, pe_sub, pe_slice, pe_call, pe_bcall, pe_newl, pe_emeth, pe_setd, pes_nil', pes_cons, pr_v, pr_t, bind_ok, bindA_ok, truth_ok, ofB_some, ofRes_ok, ofRes_exc, onL_some, onP_some, plains_nil, plains_cons, pall_and_nil, pall_or_nil, pall_and_cons, pall_or_cons, pbop_one, pbop_and, pbop_or, Option.map_some, List.map_cons, List.map_nil, List.getElem?_cons_zero, List.getElem?_cons_succ, dS_av, dr_none, dr_bool, dr_int, dr_str, dr_type, dr_range, dr_tup, dr_lst, dr_set, ops_bin, ops_inpl, ops_un, ops_cmp, ops_truth, ops_idx, ops_slice, ops_bcall, ops_items, ops_is, ob_ii, oc_ii, ou_i, ot_b, ot_i, ot_n, ib_add, ib_sub, ic_eq, ic_ne, ic_lt, ic_le, ic_gt, ic_ge, oi_l, os_l, cb_len, cb_abs, cb_range, cb_range2, List.length_cons, List.length_nil, Bool.not_true, Bool.not_false, Nat.reduceAdd, Nat.reduceLeDiff, if_true, h1, h2]
      · have h1 : decide ((a : Int) > 0) = true := by simp; omega
        simp only [pe_const, pe_name, slotV, pe_glob, pe_bin, pe_not, pe_neg, pe_is, pe_isnot, pe_eq, pe_ne, pe_lt, pe_le, pe_gt, pe_ge, pe_in, pe_notin, pe_bop, pe_ife, pe_list, pe_tup, pe_sub, pe_slice, pe_call, pe_bcall, pe_newl, pe_emeth, pe_setd, pes_nil', pes_cons, pr_v, pr_t, bind_ok, bindA_ok, truth_ok, ofB_some, ofRes_ok, ofRes_exc, onL_some, onP_some, plains_nil, plains_cons, pall_and_nil, pall_or_nil, pall_and_cons, pall_or_cons, pbop_one, pbop_and, pbop_or, Option.map_some, List.map_cons, List.map_nil, List.getElem?_cons_zero, List.getElem?_cons_succ, dS_av, dr_none, dr_bool, dr_int, dr_str, dr_type, dr_range, dr_tup, dr_lst, dr_set, ops_bin, ops_inpl, ops_un, ops_cmp, ops_truth, ops_idx, ops_slice, ops_bcall, ops_items, ops_is, ob_ii, oc_ii, ou_i, ot_b, ot_i, ot_n, ib_add, ib_sub, ic_eq, ic_ne, ic_lt, ic_le, ic_gt, ic_ge, oi_l, os_l, cb_len, cb_abs, cb_range, cb_range2, List.length_cons, List.length_nil, Bool.not_true, Bool.not_false, Nat.reduceAdd, Nat.reduceLeDiff, if_true, h1]
    · dsimp only [Fs.at]
      have m1 := mod_pos a 8 (by omega)
      have m2 := mod_pos b 8 (by omega)
      have m3 := t_ptr a
      have m4 := t_row (i := a % 8) (Nat.mod_lt _ (by decide))
      have m5 := t_num (a % 8) b
      have hlt := xor_lt8 a b
      have m6 := mult_right w ((a % 8 ^^^ b % 8 : Nat) : Int) (by omega) (by omega)
      have m7 := floordiv_small a 8 (by omega) (by omega)
      have m8 := floordiv_small b 8 (by omega) (by omega)
      have m9 := mult_right w 8 (by omega) (by omega)
      unfold law_sum_b1
      refine pk_assign (v := .int (out + w * ((a % 8 ^^^ b % 8 : Nat) : Int))) (σ := tabS) ?_ ?_
      · simp only [pe_const, pe_name, slotV, pe_glob, pe_bin, pe_not, pe_neg, pe_is, pe_isnot, pe_eq, pe_ne, pe_lt, pe_le, pe_gt, pe_ge, pe_in, pe_notin, pe_bop, pe_ife, pe_list, pe_tup, pe_sub, pe_slice, pe_call, pe_bcall, pe_newl, pe_emeth, pe_setd, pes_nil', pes_cons, pr_v, pr_t, bind_ok, bindA_ok, truth_ok, ofB_some, ofRes_ok, ofRes_exc, onL_some, onP_some, plains_nil, plains_cons, pall_and_nil, pall_or_nil, pall_and_cons, pall_or_cons, pbop_one, pbop_and, pbop_or, Option.map_some, List.map_cons, List.map_nil, List.getElem?_cons_zero, List.getElem?_cons_succ, dS_av, dr_none, dr_bool, dr_int, dr_str, dr_type, dr_range, dr_tup, dr_lst, dr_set, ops_bin, ops_inpl, ops_un, ops_cmp, ops_truth, ops_idx, ops_slice, ops_bcall, ops_items, ops_is, ob_ii, oc_ii, ou_i, ot_b, ot_i, ot_n, ib_add, ib_sub, ic_eq, ic_ne, ic_lt, ic_le, ic_gt, ic_ge, oi_l, os_l, cb_len, cb_abs, cb_range, cb_range2, List.length_cons, List.length_nil, Bool.not_true, Bool.not_false, Nat.reduceAdd, Nat.reduceLeDiff, if_true, m1, m2, m3, m4, m5, m6]
      dsimp only [Fs.at, Fs.set, List.set_cons_zero, List.set_cons_succ]
      refine pk_assign (v := .int ((a : Int) / 8)) (σ := tabS) ?_ ?_
      · simp only [pe_const, pe_name, slotV, pe_glob, pe_bin, pe_not, pe_neg, pe_is, pe_isnot, pe_eq, pe_ne, pe_lt, pe_le, pe_gt, pe_ge, pe_in, pe_notin, pe_bop, pe_ife, pe_list, pe_tup, pe_sub, pe_slice, pe_call, pe_bcall, pe_newl, pe_emeth, pe_setd, pes_nil', pes_cons, pr_v, pr_t, bind_ok, bindA_ok, truth_ok, ofB_some, ofRes_ok, ofRes_exc, onL_some, onP_some, plains_nil, plains_cons, pall_and_nil, pall_or_nil, pall_and_cons, pall_or_cons, pbop_one, pbop_and, pbop_or, Option.map_some, List.map_cons, List.map_nil, List.getElem?_cons_zero, List.getElem?_cons_succ, dS_av, dr_none, dr_bool, dr_int, dr_str, dr_type, dr_range, dr_tup, dr_lst, dr_set, ops_bin, ops_inpl, ops_un, ops_cmp, ops_truth, ops_idx, ops_slice, ops_bcall, ops_items, ops_is, ob_ii, oc_ii, ou_i, ot_b, ot_i, ot_n, ib_add, ib_sub, ic_eq, ic_ne, ic_lt, ic_le, ic_gt, ic_ge, oi_l, os_l, cb_len, cb_abs, cb_range, cb_range2, List.length_cons, List.length_nil, Bool.not_true, Bool.not_false, Nat.reduceAdd, Nat.reduceLeDiff, if_true, m7]
      dsimp only [Fs.at, Fs.set, List.set_cons_zero, List.set_cons_succ]
      refine pk_assign (v := .int ((b : Int) / 8)) (σ := tabS) ?_ ?_
      · simp only [pe_const, pe_name, slotV, pe_glob, pe_bin, pe_not, pe_neg, pe_is, pe_isnot, pe_eq, pe_ne, pe_lt, pe_le, pe_gt, pe_ge, pe_in, pe_notin, pe_bop, pe_ife, pe_list, pe_tup, pe_sub, pe_slice, pe_call, pe_bcall, pe_newl, pe_emeth, pe_setd, pes_nil', pes_cons, pr_v, pr_t, bind_ok, bindA_ok, truth_ok, ofB_some, ofRes_ok, ofRes_exc, onL_some, onP_some, plains_nil, plains_cons, pall_and_nil, pall_or_nil, pall_and_cons, pall_or_cons, pbop_one, pbop_and, pbop_or, Option.map_some, List.map_cons, List.map_nil, List.getElem?_cons_zero, List.getElem?_cons_succ, dS_av, dr_none, dr_bool, dr_int, dr_str, dr_type, dr_range, dr_tup, dr_lst, dr_set, ops_bin, ops_inpl, ops_un, ops_cmp, ops_truth, ops_idx, ops_slice, ops_bcall, ops_items, ops_is, ob_ii, oc_ii, ou_i, ot_b, ot_i, ot_n, ib_add, ib_sub, ic_eq, ic_ne, ic_lt, ic_le, ic_gt, ic_ge, oi_l, os_l, cb_len, cb_abs, cb_range, cb_range2, List.length_cons, List.length_nil, Bool.not_true, Bool.not_false, Nat.reduceAdd, Nat.reduceLeDiff, if_true, m8]
      dsimp only [Fs.at, Fs.set, List.set_cons_zero, List.set_cons_succ]
      refine pk_assign (v := .int (w * 8)) (σ := tabS) ?_ ?_
      · simp only [pe_const, pe_name, slotV, pe_glob, pe_bin, pe_not, pe_neg, pe_is, pe_isnot, pe_eq, pe_ne, pe_lt, pe_le, pe_gt, pe_ge, pe_in, pe_notin, pe_bop, pe_ife, pe_list, pe_tup, pe_sub, pe_slice, pe_call, pe_bcall, pe_newl, pe_emeth, pe_setd, pes_nil', pes_cons, pr_v, pr_t, bind_ok, bindA_ok, truth_ok, ofB_some, ofRes_ok, ofRes_exc, onL_some, onP_some, plains_nil, plains_cons, pall_and_nil, pall_or_nil, pall_and_cons, pall_or_cons, pbop_one, pbop_and, pbop_or, Option.map_some, List.map_cons, List.map_nil, List.getElem?_cons_zero, List.getElem?_cons_succ, dS_av, dr_none, dr_bool, dr_int, dr_str, dr_type, dr_range, dr_tup, dr_lst, dr_set, ops_bin, ops_inpl, ops_un, ops_cmp, ops_truth, ops_idx, ops_slice, ops_bcall, ops_items, ops_is, ob_ii, oc_ii, ou_i, ot_b, ot_i, ot_n, ib_add, ib_sub, ic_eq, ic_ne, ic_lt, ic_le, ic_gt, ic_ge, oi_l, os_l, cb_len, cb_abs, cb_range, cb_range2, List.length_cons, List.length_nil, Bool.not_true, Bool.not_false, Nat.reduceAdd, Nat.reduceLeDiff, if_true, m9]
      dsimp only [Fs.at, Fs.set, List.set_cons_zero, List.set_cons_succ]
      refine pk_nil ?_
      have hm : m ≠ 0 := fun z => by subst z; simp at ha hb; omega
      obtain ⟨m', rfl⟩ := Nat.exists_eq_succ_of_ne_zero hm
      have hp : 8 ^ (m' + 1) = 8 * 8 ^ m' := by rw [Nat.pow_succ, Nat.mul_comm]
      rw [Nat.succ_eq_add_one, hp] at ha hb
      refine ⟨m', by omega, a / 8, b / 8, _, _, by omega, by omega, ?_, rfl⟩
      rw [← ht, xor8 a b]
      push_cast
      rw [Int.mul_add, Int.mul_assoc, Int.add_assoc]
theorem sum_eq {lo : Nat} (a b : Int) (ha : far a < 8 ^ 100) (hb : far b < 8 ^ 100) : cal3 tabS lo 3 [.int a, .int b, .lst tabP] = .ok (.av (.int (xorP a b))) tabS := by
  rw [cal3_hit _ _ _ rfl]
  show fnRes (pxs ops cal2 true ⟨[some (.val (.int a)), some (.val (.int b)), some (.val (.lst tabP)), none, none, none], tabS, lo, _⟩ law_sum_p) = _
  unfold law_sum_p
  have bc : opCmp .NotEq (.bool (decide (a < 0))) (.bool (decide (b < 0))) = some (decide (a < 0) != decide (b < 0)) := rfl
  refine fn_ret (pk_assign (v := .bool (decide (a < 0) != decide (b < 0))) (σ := tabS) ?_ ?_)
  · simp only [pe_const, pe_name, slotV, pe_glob, pe_bin, pe_not, pe_neg, pe_is, pe_isnot, pe_eq, pe_ne, pe_lt, pe_le, pe_gt, pe_ge, pe_in, pe_notin, pe_bop, pe_ife, pe_list, pe_tup, pe_sub, pe_slice, pe_call, pe_bcall, pe_newl, pe_emeth, pe_setd, pes_nil', pes_cons, pr_v, pr_t, bind_ok, bindA_ok, truth_ok, ofB_some, ofRes_ok, ofRes_exc, onL_some, onP_some, plains_nil, plains_cons, pall_and_nil, pall_or_nil, pall_and_cons, pall_or_cons, pbop_one, pbop_and, pbop_or, Option.map_some, List.map_cons, List.map_nil, List.getElem?_cons_zero, List.getElem?_cons_succ, dS_av, dr_none, dr_bool, dr_int, dr_str, dr_type, dr_range, dr_tup, dr_lst, dr_set, ops_bin, ops_inpl, ops_un, ops_cmp, ops_truth, ops_idx, ops_slice, ops_bcall, ops_items, ops_is, ob_ii, oc_ii, ou_i, ot_b, ot_i, ot_n, ib_add, ib_sub, ic_eq, ic_ne, ic_lt, ic_le, ic_gt, ic_ge, oi_l, os_l, cb_len, cb_abs, cb_range, cb_range2, List.length_cons, List.length_nil, Bool.not_true, Bool.not_false, Nat.reduceAdd, Nat.reduceLeDiff, if_true, bc]
  dsimp only [Fs.at, Fs.set, List.set_cons_zero, List.set_cons_succ]
  have k1 : ∀ {K : FR → Prop} {r : PSs} {e1 e2 e3 e4 e5 : Option Ent}, K (pxs ops cal2 true ⟨[some (.val (.int (far a : Nat))), e1, e2, e3, e4, e5], tabS, lo, tabS.length⟩ r) → K (pxs ops cal2 true ⟨[some (.val (.int a)), e1, e2, e3, e4, e5], tabS, lo, tabS.length⟩ (.cons (.ite (.cmp .Lt (.name 0) (.const (.int 0)))
 (.cons (.assign 0 (.bin .Sub (.un .USub (.const (.int 1))) (.name 0))) .nil)
 (.nil)) r)) := by
    intro K r e1 e2 e3 e4 e5 h
    by_cases hl : a < 0
    · refine pk_if_t (σ := tabS) ?_ (pk_assign (v := .int (far a : Nat)) (σ := tabS) ?_ ?_)
      · simp only [pe_const, pe_name, slotV, pe_glob, pe_bin, pe_not, pe_neg, pe_is, pe_isnot, pe_eq, pe_ne, pe_lt, pe_le, pe_gt, pe_ge, pe_in, pe_notin, pe_bop, pe_ife, pe_list, pe_tup, pe_sub, pe_slice, pe_call, pe_bcall, pe_newl, pe_emeth, pe_setd, pes_nil', pes_cons, pr_v, pr_t, bind_ok, bindA_ok, truth_ok, ofB_some, ofRes_ok, ofRes_exc, onL_some, onP_some, plains_nil, plains_cons, pall_and_nil, pall_or_nil, pall_and_cons, pall_or_cons, pbop_one, pbop_and, pbop_or, Option.map_some, List.map_cons, List.map_nil, List.getElem?_cons_zero, List.getElem?_cons_succ, dS_av, dr_none, dr_bool, dr_int, dr_str, dr_type, dr_range, dr_tup, dr_lst, dr_set, ops_bin, ops_inpl, ops_un, ops_cmp, ops_truth, ops_idx, ops_slice, ops_bcall, ops_items, ops_is, ob_ii, oc_ii, ou_i, ot_b, ot_i, ot_n, ib_add, ib_sub, ic_eq, ic_ne, ic_lt, ic_le, ic_gt, ic_ge, oi_l, os_l, cb_len, cb_abs, cb_range, cb_range2, List.length_cons, List.length_nil, Bool.not_true, Bool.not_false, Nat.reduceAdd, Nat.reduceLeDiff, if_true, hl, decide_true]
      · have : ((far a : Nat) : Int) = -1 - a := by unfold far; rw [if_pos hl]; omega
        rw [this]
        simp only [pe_const, pe_name, slotV, pe_glob, pe_bin, pe_not, pe_neg, pe_is, pe_isnot, pe_eq, pe_ne, pe_lt, pe_le, pe_gt, pe_ge, pe_in, pe_notin, pe_bop, pe_ife, pe_list, pe_tup, pe_sub, pe_slice, pe_call, pe_bcall, pe_newl, pe_emeth, pe_setd, pes_nil', pes_cons, pr_v, pr_t, bind_ok, bindA_ok, truth_ok, ofB_some, ofRes_ok, ofRes_exc, onL_some, onP_some, plains_nil, plains_cons, pall_and_nil, pall_or_nil, pall_and_cons, pall_or_cons, pbop_one, pbop_and, pbop_or, Option.map_some, List.map_cons, List.map_nil, List.getElem?_cons_zero, List.getElem?_cons_succ, dS_av, dr_none, dr_bool, dr_int, dr_str, dr_type, dr_range, dr_tup, dr_lst, dr_set, ops_bin, ops_inpl, ops_un, ops_cmp, ops_truth, ops_idx, ops_slice, ops_bcall, ops_items, ops_is, ob_ii, oc_ii, ou_i, ot_b, ot_i, ot_n, ib_add, ib_sub, ic_eq, ic_ne, ic_lt, ic_le, ic_gt, ic_ge, oi_l, os_l, cb_len, cb_abs, cb_range, cb_range2, List.length_cons, List.length_nil, Bool.not_true, Bool.not_false, Nat.reduceAdd, Nat.reduceLeDiff, if_true]
      · dsimp only [Fs.at, Fs.set, List.set_cons_zero, List.set_cons_succ]
        exact tk_nil h
    · refine pk_skip (σ := tabS) ?_ ?_
      · simp only [pe_const, pe_name, slotV, pe_glob, pe_bin, pe_not, pe_neg, pe_is, pe_isnot, pe_eq, pe_ne, pe_lt, pe_le, pe_gt, pe_ge, pe_in, pe_notin, pe_bop, pe_ife, pe_list, pe_tup, pe_sub, pe_slice, pe_call, pe_bcall, pe_newl, pe_emeth, pe_setd, pes_nil', pes_cons, pr_v, pr_t, bind_ok, bindA_ok, truth_ok, ofB_some, ofRes_ok, ofRes_exc, onL_some, onP_some, plains_nil, plains_cons, pall_and_nil, pall_or_nil, pall_and_cons, pall_or_cons, pbop_one, pbop_and, pbop_or, Option.map_some, List.map_cons, List.map_nil, List.getElem?_cons_zero, List.getElem?_cons_succ, dS_av, dr_none, dr_bool, dr_int, dr_str, dr_type, dr_range, dr_tup, dr_lst, dr_set, ops_bin, ops_inpl, ops_un, ops_cmp, ops_truth, ops_idx, ops_slice, ops_bcall, ops_items, ops_is, ob_ii, oc_ii, ou_i, ot_b, ot_i, ot_n, ib_add, ib_sub, ic_eq, ic_ne, ic_lt, ic_le, ic_gt, ic_ge, oi_l, os_l, cb_len, cb_abs, cb_range, cb_range2, List.length_cons, List.length_nil, Bool.not_true, Bool.not_false, Nat.reduceAdd, Nat.reduceLeDiff, if_true, hl, decide_false]
      · have : ((far a : Nat) : Int) = a := by unfold far; rw [if_neg hl]; omega
        rw [this] at h
        exact h
  have k2 : ∀ {K : FR → Prop} {r : PSs} {e0 e2 e3 e4 e5 : Option Ent}, K (pxs ops cal2 true ⟨[e0, some (.val (.int (far b : Nat))), e2, e3, e4, e5], tabS, lo, tabS.length⟩ r) → K (pxs ops cal2 true ⟨[e0, some (.val (.int b)), e2, e3, e4, e5], tabS, lo, tabS.length⟩ (.cons (.ite (.cmp .Lt (.name 1) (.const (.int 0)))
 (.cons (.assign 1 (.bin .Sub (.un .USub (.const (.int 1))) (.name 1))) .nil)
 (.nil)) r)) := by
    intro K r e0 e2 e3 e4 e5 h
    by_cases hl : b < 0
    · refine pk_if_t (σ := tabS) ?_ (pk_assign (v := .int (far b : Nat)) (σ := tabS) ?_ ?_)
      · simp only [pe_const, pe_name, slotV, pe_glob, pe_bin, pe_not, pe_neg, pe_is, pe_isnot, pe_eq, pe_ne, pe_lt, pe_le, pe_gt, pe_ge, pe_in, pe_notin, pe_bop, pe_ife, pe_list, pe_tup, pe_sub, pe_slice, pe_call, pe_bcall, pe_newl, pe_emeth, pe_setd, pes_nil', pes_cons, pr_v, pr_t, bind_ok, bindA_ok, truth_ok, ofB_some, ofRes_ok, ofRes_exc, onL_some, onP_some, plains_nil, plains_cons, pall_and_nil, pall_or_nil, pall_and_cons, pall_or_cons, pbop_one, pbop_and, pbop_or, Option.map_some, List.map_cons, List.map_nil, List.getElem?_cons_zero, List.getElem?_cons_succ, dS_av, dr_none, dr_bool, dr_int, dr_str, dr_type, dr_range, dr_tup, dr_lst, dr_set, ops_bin, ops_inpl, ops_un, ops_cmp, ops_truth, ops_idx, ops_slice, ops_bcall, ops_items, ops_is, ob_ii, oc_ii, ou_i, ot_b, ot_i, ot_n, ib_add, ib_sub, ic_eq, ic_ne, ic_lt, ic_le, ic_gt, ic_ge, oi_l, os_l, cb_len, cb_abs, cb_range, cb_range2, List.length_cons, List.length_nil, Bool.not_true, Bool.not_false, Nat.reduceAdd, Nat.reduceLeDiff, if_true, hl, decide_true]
      · have : ((far b : Nat) : Int) = -1 - b := by unfold far; rw [if_pos hl]; omega
        rw [this]
        simp only [pe_const, pe_name, slotV, pe_glob, pe_bin, pe_not, pe_neg, pe_is, pe_isnot, pe_eq, pe_ne, pe_lt, pe_le, pe_gt, pe_ge, pe_in, pe_notin, pe_bop, pe_ife, pe_list, pe_tup, pe_sub, pe_slice, pe_call, pe_bcall, pe_newl, pe_emeth, pe_setd, pes_nil', pes_cons, pr_v, pr_t, bind_ok, bindA_ok, truth_ok, ofB_some, ofRes_ok, ofRes_exc, onL_some, onP_some, plains_nil, plains_cons, pall_and_nil, pall_or_nil, pall_and_cons, pall_or_cons, pbop_one, pbop_and, pbop_or, Option.map_some, List.map_cons, List.map_nil, List.getElem?_cons_zero, List.getElem?_cons_succ, dS_av, dr_none, dr_bool, dr_int, dr_str, dr_type, dr_range, dr_tup, dr_lst, dr_set, ops_bin, ops_inpl, ops_un, ops_cmp, ops_truth, ops_idx, ops_slice, ops_bcall, ops_items, ops_is, ob_ii, oc_ii, ou_i, ot_b, ot_i, ot_n, ib_add, ib_sub, ic_eq, ic_ne, ic_lt, ic_le, ic_gt, ic_ge, oi_l, os_l, cb_len, cb_abs, cb_range, cb_range2, List.length_cons, List.length_nil, Bool.not_true, Bool.not_false, Nat.reduceAdd, Nat.reduceLeDiff, if_true]
      · dsimp only [Fs.at, Fs.set, List.set_cons_zero, List.set_cons_succ]
        exact tk_nil h
    · refine pk_skip (σ := tabS) ?_ ?_
      · simp only [pe_const, pe_name, slotV, pe_glob, pe_bin, pe_not, pe_neg, pe_is, pe_isnot, pe_eq, pe_ne, pe_lt, pe_le, pe_gt, pe_ge, pe_in, pe_notin, pe_bop, pe_ife, pe_list, pe_tup, pe_sub, pe_slice, pe_call, pe_bcall, pe_newl, pe_emeth, pe_setd, pes_nil', pes_cons, pr_v, pr_t, bind_ok, bindA_ok, truth_ok, ofB_some, ofRes_ok, ofRes_exc, onL_some, onP_some, plains_nil, plains_cons, pall_and_nil, pall_or_nil, pall_and_cons, pall_or_cons, pbop_one, pbop_and, pbop_or, Option.map_some, List.map_cons, List.map_nil, List.getElem?_cons_zero, List.getElem?_cons_succ, dS_av, dr_none, dr_bool, dr_int, dr_str, dr_type, dr_range, dr_tup, dr_lst, dr_set, ops_bin, ops_inpl, ops_un, ops_cmp, ops_truth, ops_idx, ops_slice, ops_bcall, ops_items, ops_is, ob_ii, oc_ii, ou_i, ot_b, ot_i, ot_n, ib_add, ib_sub, ic_eq, ic_ne, ic_lt, ic_le, ic_gt, ic_ge, oi_l, os_l, cb_len, cb_abs, cb_range, cb_range2, List.length_cons, List.length_nil, Bool.not_true, Bool.not_false, Nat.reduceAdd, Nat.reduceLeDiff, if_true, hl, decide_false]
      · have : ((far b : Nat) : Int) = b := by unfold far; rw [if_neg hl]; omega
        rw [this] at h
        exact h
  refine k1 (k2 ?_)
  refine pk_assign (v := .int 0) (σ := tabS) ?_ ?_
  · simp only [pe_const, pe_name, slotV, pe_glob, pe_bin, pe_not, pe_neg, pe_is, pe_isnot, pe_eq, pe_ne, pe_lt, pe_le, pe_gt, pe_ge, pe_in, pe_notin, pe_bop, pe_ife, pe_list, pe_tup, pe_sub, pe_slice, pe_call, pe_bcall, pe_newl, pe_emeth, pe_setd, pes_nil', pes_cons, pr_v, pr_t, bind_ok, bindA_ok, truth_ok, ofB_some, ofRes_ok, ofRes_exc, onL_some, onP_some, plains_nil, plains_cons, pall_and_nil, pall_or_nil, pall_and_cons, pall_or_cons, pbop_one, pbop_and, pbop_or, Option.map_some, List.map_cons, List.map_nil, List.getElem?_cons_zero, List.getElem?_cons_succ, dS_av, dr_none, dr_bool, dr_int, dr_str, dr_type, dr_range, dr_tup, dr_lst, dr_set, ops_bin, ops_inpl, ops_un, ops_cmp, ops_truth, ops_idx, ops_slice, ops_bcall, ops_items, ops_is, ob_ii, oc_ii, ou_i, ot_b, ot_i, ot_n, ib_add, ib_sub, ic_eq, ic_ne, ic_lt, ic_le, ic_gt, ic_ge, oi_l, os_l, cb_len, cb_abs, cb_range, cb_range2, List.length_cons, List.length_nil, Bool.not_true, Bool.not_false, Nat.reduceAdd, Nat.reduceLeDiff, if_true]
  dsimp only [Fs.at, Fs.set, List.set_cons_zero, List.set_cons_succ]
  refine pk_assign (v := .int 1) (σ := tabS) ?_ ?_
  · simp only [pe_const, pe_name, slotV, pe_glob, pe_bin, pe_not, pe_neg, pe_is, pe_isnot, pe_eq, pe_ne, pe_lt, pe_le, pe_gt, pe_ge, pe_in, pe_notin, pe_bop, pe_ife, pe_list, pe_tup, pe_sub, pe_slice, pe_call, pe_bcall, pe_newl, pe_emeth, pe_setd, pes_nil', pes_cons, pr_v, pr_t, bind_ok, bindA_ok, truth_ok, ofB_some, ofRes_ok, ofRes_exc, onL_some, onP_some, plains_nil, plains_cons, pall_and_nil, pall_or_nil, pall_and_cons, pall_or_cons, pbop_one, pbop_and, pbop_or, Option.map_some, List.map_cons, List.map_nil, List.getElem?_cons_zero, List.getElem?_cons_succ, dS_av, dr_none, dr_bool, dr_int, dr_str, dr_type, dr_range, dr_tup, dr_lst, dr_set, ops_bin, ops_inpl, ops_un, ops_cmp, ops_truth, ops_idx, ops_slice, ops_bcall, ops_items, ops_is, ob_ii, oc_ii, ou_i, ot_b, ot_i, ot_n, ib_add, ib_sub, ic_eq, ic_ne, ic_lt, ic_le, ic_gt, ic_ge, oi_l, os_l, cb_len, cb_abs, cb_range, cb_range2, List.length_cons, List.length_nil, Bool.not_true, Bool.not_false, Nat.reduceAdd, Nat.reduceLeDiff, if_true]
  dsimp only [Fs.at, Fs.set, List.set_cons_zero, List.set_cons_succ]
  refine sum_loop _ _ _ ha hb fun w => ?_
  refine pk_ret (v := .int (xorP a b)) (σ := tabS) ?_ ends_ret
  unfold xorP
  cases h : (decide (a < 0) != decide (b < 0)) with
  | true => simp only [pe_const, pe_name, slotV, pe_glob, pe_bin, pe_not, pe_neg, pe_is, pe_isnot, pe_eq, pe_ne, pe_lt, pe_le, pe_gt, pe_ge, pe_in, pe_notin, pe_bop, pe_ife, pe_list, pe_tup, pe_sub, pe_slice, pe_call, pe_bcall, pe_newl, pe_emeth, pe_setd, pes_nil', pes_cons, pr_v, pr_t, bind_ok, bindA_ok, truth_ok, ofB_some, ofRes_ok, ofRes_exc, onL_some, onP_some, plains_nil, plains_cons, pall_and_nil, pall_or_nil, pall_and_cons, pall_or_cons, pbop_one, pbop_and, pbop_or, Option.map_some, List.map_cons, List.map_nil, List.getElem?_cons_zero, List.getElem?_cons_succ, dS_av, dr_none, dr_bool, dr_int, dr_str, dr_type, dr_range, dr_tup, dr_lst, dr_set, ops_bin, ops_inpl, ops_un, ops_cmp, ops_truth, ops_idx, ops_slice, ops_bcall, ops_items, ops_is, ob_ii, oc_ii, ou_i, ot_b, ot_i, ot_n, ib_add, ib_sub, ic_eq, ic_ne, ic_lt, ic_le, ic_gt, ic_ge, oi_l, os_l, cb_len, cb_abs, cb_range, cb_range2, List.length_cons, List.length_nil, Bool.not_true, Bool.not_false, Nat.reduceAdd, Nat.reduceLeDiff, if_true]
  | false =>
    simp only [pe_const, pe_name, slotV, pe_glob, pe_bin, pe_not, pe_neg, pe_is, pe_isnot, pe_eq, pe_ne, pe_lt, pe_le, pe_gt, pe_ge, pe_in, pe_notin, pe_bop, pe_ife, pe_list, pe_tup, pe_sub, pe_slice, pe_call, pe_bcall, pe_newl, pe_emeth, pe_setd, pes_nil', pes_cons, pr_v, pr_t, bind_ok, bindA_ok, truth_ok, ofB_some, ofRes_ok, ofRes_exc, onL_some, onP_some, plains_nil, plains_cons, pall_and_nil, pall_or_nil, pall_and_cons, pall_or_cons, pbop_one, pbop_and, pbop_or, Option.map_some, List.map_cons, List.map_nil, List.getElem?_cons_zero, List.getElem?_cons_succ, dS_av, dr_none, dr_bool, dr_int, dr_str, dr_type, dr_range, dr_tup, dr_lst, dr_set, ops_bin, ops_inpl, ops_un, ops_cmp, ops_truth, ops_idx, ops_slice, ops_bcall, ops_items, ops_is, ob_ii, oc_ii, ou_i, ot_b, ot_i, ot_n, ib_add, ib_sub, ic_eq, ic_ne, ic_lt, ic_le, ic_gt, ic_ge, oi_l, os_l, cb_len, cb_abs, cb_range, cb_range2, List.length_cons, List.length_nil, Bool.not_true, Bool.not_false, Nat.reduceAdd, Nat.reduceLeDiff, if_true, Bool.false_eq_true, if_false]
end Mine
end
section
open PySem PySem.W PyProof.Rows
namespace Mine
set_option maxRecDepth 100000
set_option linter.unusedSimpArgs false

noncomputable def sumK (ns : List Int) (k step : Int) : Int := (pickI ns (some k) none (some step)).sum
theorem range8 : itemsV (.range 0 8 1) = some ((List.range 8).map fun (i : Nat) => .int i) := range_items 8 (by omega)
theorem pow40 : intBin .Pow 10 40 = .ok (.int (10 ^ 40)) := by kernel_rfl
theorem pow64 : intBin .Pow 2 64 = .ok (.int (2 ^ 64)) := by kernel_rfl
noncomputable def nums1 (ns : List Int) : List Int := (List.range 8).map fun (k : Nat) => cutI (sumK ns (k : Int) 8) (10 ^ 40)
noncomputable def nums (ns : List Int) : List Int := nums1 ns ++ [-6, 13, 2 ^ 64, -1]
structure Good (l : List Int) : Prop where
  len : l.length = 12
  lt : ∀ n ∈ l, n.natAbs ≤ 10 ^ 40
theorem nums_good (ns : List Int) : Good (nums ns) where
  len := by simp [nums, nums1]
  lt := fun n hn => by
    simp only [nums, List.mem_append, nums1, List.mem_map, List.mem_range] at hn
    rcases hn with ⟨k, hk, rfl⟩ | hn
    · have := cutI_lt (sumK ns k 8) (10 ^ 40) (by decide)
      omega
    · simp only [List.mem_cons, List.not_mem_nil, or_false] at hn
      rcases hn with rfl | rfl | rfl | rfl <;> decide
theorem far_lt {n : Int} (h : n.natAbs ≤ 10 ^ 40) : far n < 8 ^ 100 := by
  have : (10 : Nat) ^ 40 + 1 < 8 ^ 100 := by decide
  unfold far
  split <;> omega
theorem st1 (ns : List Int) (lo n0 : Nat) (r : List (Option Ent)) (hr : r.length = 16) : (pe ops cal6 true ⟨some (.val (.lst (ns.map .int))) :: r, tabS, lo, n0⟩ (.comp [0] (.call 1 (.cons (.bcall .sum (.cons (.slice (.name 0) (.name 17) (.const .none) (.const (.int 8))) .nil)) (.cons (.bin .Pow (.const (.int 10)) (.const (.int 40))) .nil))) (.bcall .range (.cons (.const (.int 8)) .nil)) (.nil))).v
    = .ok (.av (.lst ((nums1 ns).map .int))) tabS := by
  rw [pe_comp (a := .av (.range 0 8 1)) (σ₁ := tabS) (l := (List.range 8).map fun (i : Nat) => .int i) (ys := (nums1 ns).map .int)]
  · rfl
  · simp only [pe_const, pe_name, slotV, pe_glob, pe_bin, pe_not, pe_neg, pe_is, pe_isnot, pe_eq, pe_ne, pe_lt, pe_le, pe_gt, pe_ge, pe_in, pe_notin, pe_bop, pe_ife, pe_list, pe_tup, pe_sub, pe_slice, pe_call, pe_bcall, pe_newl, pe_emeth, pe_setd, pes_nil', pes_cons, pr_v, pr_t, bind_ok, bindA_ok, truth_ok, ofB_some, ofRes_ok, ofRes_exc, onL_some, onP_some, plains_nil, plains_cons, pall_and_nil, pall_or_nil, pall_and_cons, pall_or_cons, pbop_one, pbop_and, pbop_or, Option.map_some, List.map_cons, List.map_nil, List.getElem?_cons_zero, List.getElem?_cons_succ, dS_av, dr_none, dr_bool, dr_int, dr_str, dr_type, dr_range, dr_tup, dr_lst, dr_set, ops_bin, ops_inpl, ops_un, ops_cmp, ops_truth, ops_idx, ops_slice, ops_bcall, ops_items, ops_is, ob_ii, oc_ii, ou_i, ot_b, ot_i, ot_n, ib_add, ib_sub, ic_eq, ic_ne, ic_lt, ic_le, ic_gt, ic_ge, oi_l, os_l, cb_len, cb_abs, cb_range, cb_range2, List.length_cons, List.length_nil, Bool.not_true, Bool.not_false, Nat.reduceAdd, Nat.reduceLeDiff, if_true]
  · rw [ops_items]; exact range8
  · unfold nums1
    rw [List.map_map]
    refine mapF_map fun k hk => ?_
    have hm : Fs.inner (Fs.at ⟨some (.val (.lst (ns.map .int))) :: r, tabS, lo, n0⟩ tabS) [0] (.int (k : Int)) = ⟨some (.val (.lst (ns.map .int))) :: (List.replicate 16 none ++ [some (.val (.int (k : Int)))]), tabS, tabS.length, n0⟩ := by
      match r, hr with
      | [a1, a2, a3, a4, a5, a6, a7, a8, a9, a10, a11, a12, a13, a14, a15, a16], _ => simp [Fs.inner, mask]
    rw [hm]
    simp only [List.replicate, List.cons_append, List.nil_append]
    rw [pall_and_nil]
    refine compF_t (σ' := tabS) ?_ rfl
    have s1 := slice_step ns k 8 (by omega)
    have s2 := cb_sum (ints_map (pickI ns (some (k : Int)) none (some 8)))
    have s3 := cut_eq tabS tabS.length (sumK ns k 8) (10 ^ 40) (by decide)
    unfold sumK at s3
    simp only [pe_const, pe_name, slotV, pe_glob, pe_bin, pe_not, pe_neg, pe_is, pe_isnot, pe_eq, pe_ne, pe_lt, pe_le, pe_gt, pe_ge, pe_in, pe_notin, pe_bop, pe_ife, pe_list, pe_tup, pe_sub, pe_slice, pe_call, pe_bcall, pe_newl, pe_emeth, pe_setd, pes_nil', pes_cons, pr_v, pr_t, bind_ok, bindA_ok, truth_ok, ofB_some, ofRes_ok, ofRes_exc, onL_some, onP_some, plains_nil, plains_cons, pall_and_nil, pall_or_nil, pall_and_cons, pall_or_cons, pbop_one, pbop_and, pbop_or, Option.map_some, List.map_cons, List.map_nil, List.getElem?_cons_zero, List.getElem?_cons_succ, dS_av, dr_none, dr_bool, dr_int, dr_str, dr_type, dr_range, dr_tup, dr_lst, dr_set, ops_bin, ops_inpl, ops_un, ops_cmp, ops_truth, ops_idx, ops_slice, ops_bcall, ops_items, ops_is, ob_ii, oc_ii, ou_i, ot_b, ot_i, ot_n, ib_add, ib_sub, ic_eq, ic_ne, ic_lt, ic_le, ic_gt, ic_ge, oi_l, os_l, cb_len, cb_abs, cb_range, cb_range2, List.length_cons, List.length_nil, Bool.not_true, Bool.not_false, Nat.reduceAdd, Nat.reduceLeDiff, if_true, s1, s2, pow40]
    exact s3
theorem st2 (ns : List Int) (lo n0 : Nat) (r : List (Option Ent)) (hr : r.length = 16) : (pe ops cal6 true ⟨some (.val (.lst (ns.map .int))) :: r, tabS, lo, n0⟩ (.bin .Add (.comp [0] (.call 1 (.cons (.bcall .sum (.cons (.slice (.name 0) (.name 17) (.const .none) (.const (.int 8))) .nil)) (.cons (.bin .Pow (.const (.int 10)) (.const (.int 40))) .nil))) (.bcall .range (.cons (.const (.int 8)) .nil)) (.nil)) (.list (.cons (.un .USub (.const (.int 6))) (.cons (.const (.int 13)) (.cons (.bin .Pow (.const (.int 2)) (.const (.int 64))) (.cons (.un .USub (.const (.int 1))) .nil))))))).v
    = .ok (.av (.lst ((nums ns).map .int))) tabS := by
  rw [pe_bin, pr_v, st1 ns lo n0 r hr, bind_ok]
  simp only [pe_const, pe_name, slotV, pe_glob, pe_bin, pe_not, pe_neg, pe_is, pe_isnot, pe_eq, pe_ne, pe_lt, pe_le, pe_gt, pe_ge, pe_in, pe_notin, pe_bop, pe_ife, pe_list, pe_tup, pe_sub, pe_slice, pe_call, pe_bcall, pe_newl, pe_emeth, pe_setd, pes_nil', pes_cons, pr_v, pr_t, bind_ok, bindA_ok, truth_ok, ofB_some, ofRes_ok, ofRes_exc, onL_some, onP_some, plains_nil, plains_cons, pall_and_nil, pall_or_nil, pall_and_cons, pall_or_cons, pbop_one, pbop_and, pbop_or, Option.map_some, List.map_cons, List.map_nil, List.getElem?_cons_zero, List.getElem?_cons_succ, dS_av, dr_none, dr_bool, dr_int, dr_str, dr_type, dr_range, dr_tup, dr_lst, dr_set, ops_bin, ops_inpl, ops_un, ops_cmp, ops_truth, ops_idx, ops_slice, ops_bcall, ops_items, ops_is, ob_ii, oc_ii, ou_i, ot_b, ot_i, ot_n, ib_add, ib_sub, ic_eq, ic_ne, ic_lt, ic_le, ic_gt, ic_ge, oi_l, os_l, cb_len, cb_abs, cb_range, cb_range2, List.length_cons, List.length_nil, Bool.not_true, Bool.not_false, Nat.reduceAdd, Nat.reduceLeDiff, if_true, pow64]
  have e : opBin .Add (.lst ((nums1 ns).map .int)) (.lst [.int (-6), .int 13, .int (2 ^ 64), .int (-1)]) = .ok (.lst ((nums ns).map .int)) := by
    have : nums ns = nums1 ns ++ [-6, 13, 2 ^ 64, -1] := rfl
    rw [this, List.map_append]
    simp [opBin, nums1]
  rw [e, ofRes_ok]

noncomputable def nthW (l : List Int) (i : Int) : Int := if 0 ≤ i then nth l i.toNat else nth l (i + l.length).toNat
theorem idxW {l : List Int} {i : Int} (h1 : -(l.length : Int) ≤ i) (h2 : i < l.length) : idxL (l.map AV.int) i = .ok (.int (nthW l i)) := by
  unfold idxL nthW
  by_cases h0 : 0 ≤ i
  · rw [if_pos h0, if_pos h0, List.getElem?_map, nth_get (by omega)]; rfl
  · rw [if_neg h0, if_neg h0, if_pos (by rw [List.length_map]; exact h1), List.length_map, List.getElem?_map, nth_get (by omega)]; rfl
theorem nthW_mem {l : List Int} {i : Int} (h1 : -(l.length : Int) ≤ i) (h2 : i < l.length) : nthW l i ∈ l := by
  unfold nthW
  split
  · exact nth_mem (by omega)
  · exact nth_mem (by omega)

theorem won_idx {a b c : Int} (ha : 0 ≤ a ∧ a < 4) (hb : 0 ≤ b ∧ b < 4) (hc : 0 ≤ c ∧ c < 4) : idxL (wonL.map AV.bool) (16 * a + 4 * b + c) = .ok (.bool (xorP (xorP a b) c != 0)) := by
  obtain ⟨a', rfl⟩ := Int.eq_ofNat_of_zero_le ha.1
  obtain ⟨b', rfl⟩ := Int.eq_ofNat_of_zero_le hb.1
  obtain ⟨c', rfl⟩ := Int.eq_ofNat_of_zero_le hc.1
  have ha' : a' < 4 := by omega
  have hb' : b' < 4 := by omega
  have hc' : c' < 4 := by omega
  have h1 : idxL (wonL.map AV.bool) (16 * (a' : Int) + 4 * b' + c') = .ok (.bool (wonL.getD (16 * a' + 4 * b' + c') false)) := by
    refine idxL_nat (by omega) ?_
    have e : (16 * (a' : Int) + 4 * b' + c').toNat = 16 * a' + 4 * b' + c' := by omega
    have hl : wonL.length = 64 := by decide
    rw [e, List.getElem?_map, List.getD_eq_getElem?_getD, List.getElem?_eq_getElem (by omega)]; rfl
  rw [h1]
  have h2 : ∀ a < 4, ∀ b < 4, ∀ c < 4, wonL.getD (16 * a + 4 * b + c) false = (xorP (xorP (a : Nat) (b : Nat)) (c : Nat) != 0) := by decide +kernel
  rw [h2 a' ha' b' hb' c' hc']

theorem items_tup (l : List AV) : itemsV (.tup l) = some l := rfl
theorem call0 (σ : Store) (lo : Nat) (a b : AV) : cal6 σ lo 0 [a, b] = ofRes (xorV (deref σ a) (deref σ b)) σ := ixor_eq σ lo a b
theorem call3 (σ : Store) (lo : Nat) (l : List AV) : cal6 σ lo 3 l = cal3 σ lo 3 l := rfl
theorem call5 (σ : Store) (lo : Nat) (l : List AV) : cal6 σ lo 5 l = cal2 σ lo 5 l := rfl
theorem xv_ii (a b : Int) : xorV (.int a) (.int b) = .ok (.int (xorP a b)) := by show Res.ok (.int (Builtin.bitXor a b)) = _; rw [xor_eq]
theorem xv_bb (a b : Bool) : xorV (.bool a) (.bool b) = .ok (.bool (a != b)) := rfl
theorem xv_ib (a : Int) (b : Bool) : xorV (.int a) (.bool b) = .ok (.int (xorP a (b2i b))) := by show Res.ok (.int (Builtin.bitXor a (b2i b))) = _; rw [xor_eq]
theorem ty_int (a : Int) : callB .type [.int a] = .ok (.type "int") := rfl
theorem ty_bool (a : Bool) : callB .type [.bool a] = .ok (.type "bool") := rfl
theorem is_ii : opIs (.type "int") (.type "int") = some true := rfl
theorem is_bb : opIs (.type "bool") (.type "bool") = some true := rfl
theorem nm_int : BI.name .int = "int" := rfl
theorem nm_bool : BI.name .bool = "bool" := rfl
theorem ne_bb (a b : Bool) : opCmp .NotEq (.bool a) (.bool b) = some (a != b) := rfl
theorem bad_loop {K : FR → Prop} (a : Int) (lo n0 : Nat) (e0 e1 e2 e3 e4 e6 e7 e8 e9 e10 e11 e12 e13 e14 e15 e16 : Option Ent)
    (hK : ∀ f16, K (.next ⟨[e0, e1, e2, e3, e4, some (.val (.int a)), e6, e7, e8, e9, e10, e11, e12, e13, e14, e15, f16], tabS, lo, n0⟩)) :
    K (pxs ops cal6 true ⟨[e0, e1, e2, e3, e4, some (.val (.int a)), e6, e7, e8, e9, e10, e11, e12, e13, e14, e15, e16], tabS, lo, n0⟩ (.cons (.for_ 16 (.tup (.cons (.const .none) (.cons (.const (.str (PySem.Str.ofString "a"))) (.cons (.list (.cons (.name 5) .nil)) (.cons (.setd (.name 5)) .nil))))) law_b2) .nil)) := by
  refine pk_for (v := .tup [.none, .str (PySem.Str.ofString "a"), .lst [.int a], .set false [a]]) (σ := tabS) (l := [.none, .str (PySem.Str.ofString "a"), .lst [.int a], .set false [a]]) (fun _ st => ∃ f16, st = ⟨[e0, e1, e2, e3, e4, some (.val (.int a)), e6, e7, e8, e9, e10, e11, e12, e13, e14, e15, f16], tabS, lo, n0⟩) ?_ (items_tup _) ⟨e16, rfl⟩ ?_ ?_
  · simp only [pe_const, pe_name, slotV, pe_glob, pe_bin, pe_not, pe_neg, pe_is, pe_isnot, pe_eq, pe_ne, pe_lt, pe_le, pe_gt, pe_ge, pe_in, pe_notin, pe_bop, pe_ife, pe_list, pe_tup, pe_sub, pe_slice, pe_call, pe_bcall, pe_newl, pe_emeth, pe_setd, pes_nil', pes_cons, pr_v, pr_t, bind_ok, bindA_ok, truth_ok, ofB_some, ofRes_ok, ofRes_exc, onL_some, onP_some, plains_nil, plains_cons, pall_and_nil, pall_or_nil, pall_and_cons, pall_or_cons, pbop_one, pbop_and, pbop_or, Option.map_some, List.map_cons, List.map_nil, List.getElem?_cons_zero, List.getElem?_cons_succ, dS_av, dr_none, dr_bool, dr_int, dr_str, dr_type, dr_range, dr_tup, dr_lst, dr_set, ops_bin, ops_inpl, ops_un, ops_cmp, ops_truth, ops_idx, ops_slice, ops_bcall, ops_items, ops_is, ob_ii, oc_ii, ou_i, ot_b, ot_i, ot_n, ib_add, ib_sub, ic_eq, ic_ne, ic_lt, ic_le, ic_gt, ic_ge, oi_l, os_l, cb_len, cb_abs, cb_range, cb_range2, List.length_cons, List.length_nil, Bool.not_true, Bool.not_false, Nat.reduceAdd, Nat.reduceLeDiff, if_true]
  · rintro j x st hj ⟨f16, rfl⟩
    dsimp only [Fs.at, Fs.set, List.set_cons_zero, List.set_cons_succ]
    have hx : xorV (.int a) (deref tabS x) = .exc .te ∧ xorV (deref tabS x) (.int a) = .exc .te := by
      have hx := List.mem_of_getElem? hj
      simp only [List.mem_cons, List.not_mem_nil, or_false] at hx
      rcases hx with rfl | rfl | rfl | rfl <;> exact ⟨rfl, rfl⟩
    have r1 : cal2 tabS lo 5 [.int a, x] = .ok (.av (.bool true)) tabS := refused_eq hx.1
    have r2 : cal2 tabS lo 5 [x, .int a] = .ok (.av (.bool true)) tabS := refused_eq hx.2
    unfold law_b2
    refine pk_skip (σ := tabS) ?_ (pk_nil ⟨_, rfl⟩)
    simp only [pe_const, pe_name, slotV, pe_glob, pe_bin, pe_not, pe_neg, pe_is, pe_isnot, pe_eq, pe_ne, pe_lt, pe_le, pe_gt, pe_ge, pe_in, pe_notin, pe_bop, pe_ife, pe_list, pe_tup, pe_sub, pe_slice, pe_call, pe_bcall, pe_newl, pe_emeth, pe_setd, pes_nil', pes_cons, pr_v, pr_t, bind_ok, bindA_ok, truth_ok, ofB_some, ofRes_ok, ofRes_exc, onL_some, onP_some, plains_nil, plains_cons, pall_and_nil, pall_or_nil, pall_and_cons, pall_or_cons, pbop_one, pbop_and, pbop_or, Option.map_some, List.map_cons, List.map_nil, List.getElem?_cons_zero, List.getElem?_cons_succ, dS_av, dr_none, dr_bool, dr_int, dr_str, dr_type, dr_range, dr_tup, dr_lst, dr_set, ops_bin, ops_inpl, ops_un, ops_cmp, ops_truth, ops_idx, ops_slice, ops_bcall, ops_items, ops_is, ob_ii, oc_ii, ou_i, ot_b, ot_i, ot_n, ib_add, ib_sub, ic_eq, ic_ne, ic_lt, ic_le, ic_gt, ic_ge, oi_l, os_l, cb_len, cb_abs, cb_range, cb_range2, List.length_cons, List.length_nil, Bool.not_true, Bool.not_false, Nat.reduceAdd, Nat.reduceLeDiff, if_true, call5, r1, r2]
  · rintro st ⟨f16, rfl⟩
    exact pk_nil (hK f16)

theorem turn {l : List Int} (G : Good l) {K : FR → Prop} (k : Nat) (hk : k < 12) (e0 e5 e6 e7 e8 e9 e10 e11 e12 e13 e14 e15 e16 : Option Ent)
    (hK : ∀ f5 f6 f7 f8 f9 f10 f11 f12 f13 f14 f15 f16, K (.next ⟨[e0, some (.val (.lst tabP)), some (.val (.lst (wonL.map .bool))), some (.val (.lst (l.map .int))), some (.val (.int k)), f5, f6, f7, f8, f9, f10, f11, f12, f13, f14, f15, f16], tabS, 0, 0⟩)) :
    K (pxs ops cal6 true ⟨[e0, some (.val (.lst tabP)), some (.val (.lst (wonL.map .bool))), some (.val (.lst (l.map .int))), some (.val (.int k)), e5, e6, e7, e8, e9, e10, e11, e12, e13, e14, e15, e16], tabS, 0, 0⟩ law_b1) := by
  have hl : (l.length : Int) = 12 := by rw [G.len]; rfl
  have i0 := idxW (l := l) (i := (k : Int)) (by omega) (by omega)
  have i1 := idxW (l := l) (i := (k : Int) - 1) (by omega) (by omega)
  have i2 := idxW (l := l) (i := (k : Int) - 2) (by omega) (by omega)
  have b0 := G.lt _ (nthW_mem (l := l) (i := (k : Int)) (by omega) (by omega))
  have b1 := G.lt _ (nthW_mem (l := l) (i := (k : Int) - 1) (by omega) (by omega))
  generalize nthW l (k : Int) = a at *
  generalize nthW l ((k : Int) - 1) = b at *
  generalize nthW l ((k : Int) - 2) = c at *
  have s1 := sum_eq (lo := 0) a b (far_lt b0) (far_lt b1)
  have x1 := xorP_back a b
  have x2 := xorP_back' a b
  have x3 := xorP_self a
  unfold law_b1
  refine pk_assign (v := .int a) (σ := tabS) ?_ ?_
  · simp only [pe_const, pe_name, slotV, pe_glob, pe_bin, pe_not, pe_neg, pe_is, pe_isnot, pe_eq, pe_ne, pe_lt, pe_le, pe_gt, pe_ge, pe_in, pe_notin, pe_bop, pe_ife, pe_list, pe_tup, pe_sub, pe_slice, pe_call, pe_bcall, pe_newl, pe_emeth, pe_setd, pes_nil', pes_cons, pr_v, pr_t, bind_ok, bindA_ok, truth_ok, ofB_some, ofRes_ok, ofRes_exc, onL_some, onP_some, plains_nil, plains_cons, pall_and_nil, pall_or_nil, pall_and_cons, pall_or_cons, pbop_one, pbop_and, pbop_or, Option.map_some, List.map_cons, List.map_nil, List.getElem?_cons_zero, List.getElem?_cons_succ, dS_av, dr_none, dr_bool, dr_int, dr_str, dr_type, dr_range, dr_tup, dr_lst, dr_set, ops_bin, ops_inpl, ops_un, ops_cmp, ops_truth, ops_idx, ops_slice, ops_bcall, ops_items, ops_is, ob_ii, oc_ii, ou_i, ot_b, ot_i, ot_n, ib_add, ib_sub, ic_eq, ic_ne, ic_lt, ic_le, ic_gt, ic_ge, oi_l, os_l, cb_len, cb_abs, cb_range, cb_range2, List.length_cons, List.length_nil, Bool.not_true, Bool.not_false, Nat.reduceAdd, Nat.reduceLeDiff, if_true, i0]
  dsimp only [Fs.at, Fs.set, List.set_cons_zero, List.set_cons_succ]
  refine pk_assign (v := .int b) (σ := tabS) ?_ ?_
  · simp only [pe_const, pe_name, slotV, pe_glob, pe_bin, pe_not, pe_neg, pe_is, pe_isnot, pe_eq, pe_ne, pe_lt, pe_le, pe_gt, pe_ge, pe_in, pe_notin, pe_bop, pe_ife, pe_list, pe_tup, pe_sub, pe_slice, pe_call, pe_bcall, pe_newl, pe_emeth, pe_setd, pes_nil', pes_cons, pr_v, pr_t, bind_ok, bindA_ok, truth_ok, ofB_some, ofRes_ok, ofRes_exc, onL_some, onP_some, plains_nil, plains_cons, pall_and_nil, pall_or_nil, pall_and_cons, pall_or_cons, pbop_one, pbop_and, pbop_or, Option.map_some, List.map_cons, List.map_nil, List.getElem?_cons_zero, List.getElem?_cons_succ, dS_av, dr_none, dr_bool, dr_int, dr_str, dr_type, dr_range, dr_tup, dr_lst, dr_set, ops_bin, ops_inpl, ops_un, ops_cmp, ops_truth, ops_idx, ops_slice, ops_bcall, ops_items, ops_is, ob_ii, oc_ii, ou_i, ot_b, ot_i, ot_n, ib_add, ib_sub, ic_eq, ic_ne, ic_lt, ic_le, ic_gt, ic_ge, oi_l, os_l, cb_len, cb_abs, cb_range, cb_range2, List.length_cons, List.length_nil, Bool.not_true, Bool.not_false, Nat.reduceAdd, Nat.reduceLeDiff, if_true, i1]
  dsimp only [Fs.at, Fs.set, List.set_cons_zero, List.set_cons_succ]
  refine pk_assign (v := .int (xorP a b)) (σ := tabS) ?_ ?_
  · simp only [pe_const, pe_name, slotV, pe_glob, pe_bin, pe_not, pe_neg, pe_is, pe_isnot, pe_eq, pe_ne, pe_lt, pe_le, pe_gt, pe_ge, pe_in, pe_notin, pe_bop, pe_ife, pe_list, pe_tup, pe_sub, pe_slice, pe_call, pe_bcall, pe_newl, pe_emeth, pe_setd, pes_nil', pes_cons, pr_v, pr_t, bind_ok, bindA_ok, truth_ok, ofB_some, ofRes_ok, ofRes_exc, onL_some, onP_some, plains_nil, plains_cons, pall_and_nil, pall_or_nil, pall_and_cons, pall_or_cons, pbop_one, pbop_and, pbop_or, Option.map_some, List.map_cons, List.map_nil, List.getElem?_cons_zero, List.getElem?_cons_succ, dS_av, dr_none, dr_bool, dr_int, dr_str, dr_type, dr_range, dr_tup, dr_lst, dr_set, ops_bin, ops_inpl, ops_un, ops_cmp, ops_truth, ops_idx, ops_slice, ops_bcall, ops_items, ops_is, ob_ii, oc_ii, ou_i, ot_b, ot_i, ot_n, ib_add, ib_sub, ic_eq, ic_ne, ic_lt, ic_le, ic_gt, ic_ge, oi_l, os_l, cb_len, cb_abs, cb_range, cb_range2, List.length_cons, List.length_nil, Bool.not_true, Bool.not_false, Nat.reduceAdd, Nat.reduceLeDiff, if_true, call0, xv_ii]
  dsimp only [Fs.at, Fs.set, List.set_cons_zero, List.set_cons_succ]
  refine pk_skip (σ := tabS) ?_ ?_
  · simp only [pe_const, pe_name, slotV, pe_glob, pe_bin, pe_not, pe_neg, pe_is, pe_isnot, pe_eq, pe_ne, pe_lt, pe_le, pe_gt, pe_ge, pe_in, pe_notin, pe_bop, pe_ife, pe_list, pe_tup, pe_sub, pe_slice, pe_call, pe_bcall, pe_newl, pe_emeth, pe_setd, pes_nil', pes_cons, pr_v, pr_t, bind_ok, bindA_ok, truth_ok, ofB_some, ofRes_ok, ofRes_exc, onL_some, onP_some, plains_nil, plains_cons, pall_and_nil, pall_or_nil, pall_and_cons, pall_or_cons, pbop_one, pbop_and, pbop_or, Option.map_some, List.map_cons, List.map_nil, List.getElem?_cons_zero, List.getElem?_cons_succ, dS_av, dr_none, dr_bool, dr_int, dr_str, dr_type, dr_range, dr_tup, dr_lst, dr_set, ops_bin, ops_inpl, ops_un, ops_cmp, ops_truth, ops_idx, ops_slice, ops_bcall, ops_items, ops_is, ob_ii, oc_ii, ou_i, ot_b, ot_i, ot_n, ib_add, ib_sub, ic_eq, ic_ne, ic_lt, ic_le, ic_gt, ic_ge, oi_l, os_l, cb_len, cb_abs, cb_range, cb_range2, List.length_cons, List.length_nil, Bool.not_true, Bool.not_false, Nat.reduceAdd, Nat.reduceLeDiff, if_true, ty_int, is_ii, nm_int, call3, s1, bne_self_eq_false]
  dsimp only [Fs.at]
  refine pk_skip (σ := tabS) ?_ ?_
  · simp only [pe_const, pe_name, slotV, pe_glob, pe_bin, pe_not, pe_neg, pe_is, pe_isnot, pe_eq, pe_ne, pe_lt, pe_le, pe_gt, pe_ge, pe_in, pe_notin, pe_bop, pe_ife, pe_list, pe_tup, pe_sub, pe_slice, pe_call, pe_bcall, pe_newl, pe_emeth, pe_setd, pes_nil', pes_cons, pr_v, pr_t, bind_ok, bindA_ok, truth_ok, ofB_some, ofRes_ok, ofRes_exc, onL_some, onP_some, plains_nil, plains_cons, pall_and_nil, pall_or_nil, pall_and_cons, pall_or_cons, pbop_one, pbop_and, pbop_or, Option.map_some, List.map_cons, List.map_nil, List.getElem?_cons_zero, List.getElem?_cons_succ, dS_av, dr_none, dr_bool, dr_int, dr_str, dr_type, dr_range, dr_tup, dr_lst, dr_set, ops_bin, ops_inpl, ops_un, ops_cmp, ops_truth, ops_idx, ops_slice, ops_bcall, ops_items, ops_is, ob_ii, oc_ii, ou_i, ot_b, ot_i, ot_n, ib_add, ib_sub, ic_eq, ic_ne, ic_lt, ic_le, ic_gt, ic_ge, oi_l, os_l, cb_len, cb_abs, cb_range, cb_range2, List.length_cons, List.length_nil, Bool.not_true, Bool.not_false, Nat.reduceAdd, Nat.reduceLeDiff, if_true, call0, xv_ii, x1, x2, x3, bne_self_eq_false]
  dsimp only [Fs.at]
  have ma := mod_pos a 4 (by omega)
  have mb := mod_pos b 4 (by omega)
  have mc := mod_pos c 4 (by omega)
  refine pk_assign (v := .int (a % 4)) (σ := tabS) ?_ ?_
  · simp only [pe_const, pe_name, slotV, pe_glob, pe_bin, pe_not, pe_neg, pe_is, pe_isnot, pe_eq, pe_ne, pe_lt, pe_le, pe_gt, pe_ge, pe_in, pe_notin, pe_bop, pe_ife, pe_list, pe_tup, pe_sub, pe_slice, pe_call, pe_bcall, pe_newl, pe_emeth, pe_setd, pes_nil', pes_cons, pr_v, pr_t, bind_ok, bindA_ok, truth_ok, ofB_some, ofRes_ok, ofRes_exc, onL_some, onP_some, plains_nil, plains_cons, pall_and_nil, pall_or_nil, pall_and_cons, pall_or_cons, pbop_one, pbop_and, pbop_or, Option.map_some, List.map_cons, List.map_nil, List.getElem?_cons_zero, List.getElem?_cons_succ, dS_av, dr_none, dr_bool, dr_int, dr_str, dr_type, dr_range, dr_tup, dr_lst, dr_set, ops_bin, ops_inpl, ops_un, ops_cmp, ops_truth, ops_idx, ops_slice, ops_bcall, ops_items, ops_is, ob_ii, oc_ii, ou_i, ot_b, ot_i, ot_n, ib_add, ib_sub, ic_eq, ic_ne, ic_lt, ic_le, ic_gt, ic_ge, oi_l, os_l, cb_len, cb_abs, cb_range, cb_range2, List.length_cons, List.length_nil, Bool.not_true, Bool.not_false, Nat.reduceAdd, Nat.reduceLeDiff, if_true, ma]
  dsimp only [Fs.at, Fs.set, List.set_cons_zero, List.set_cons_succ]
  refine pk_assign (v := .int (b % 4)) (σ := tabS) ?_ ?_
  · simp only [pe_const, pe_name, slotV, pe_glob, pe_bin, pe_not, pe_neg, pe_is, pe_isnot, pe_eq, pe_ne, pe_lt, pe_le, pe_gt, pe_ge, pe_in, pe_notin, pe_bop, pe_ife, pe_list, pe_tup, pe_sub, pe_slice, pe_call, pe_bcall, pe_newl, pe_emeth, pe_setd, pes_nil', pes_cons, pr_v, pr_t, bind_ok, bindA_ok, truth_ok, ofB_some, ofRes_ok, ofRes_exc, onL_some, onP_some, plains_nil, plains_cons, pall_and_nil, pall_or_nil, pall_and_cons, pall_or_cons, pbop_one, pbop_and, pbop_or, Option.map_some, List.map_cons, List.map_nil, List.getElem?_cons_zero, List.getElem?_cons_succ, dS_av, dr_none, dr_bool, dr_int, dr_str, dr_type, dr_range, dr_tup, dr_lst, dr_set, ops_bin, ops_inpl, ops_un, ops_cmp, ops_truth, ops_idx, ops_slice, ops_bcall, ops_items, ops_is, ob_ii, oc_ii, ou_i, ot_b, ot_i, ot_n, ib_add, ib_sub, ic_eq, ic_ne, ic_lt, ic_le, ic_gt, ic_ge, oi_l, os_l, cb_len, cb_abs, cb_range, cb_range2, List.length_cons, List.length_nil, Bool.not_true, Bool.not_false, Nat.reduceAdd, Nat.reduceLeDiff, if_true, mb]
  dsimp only [Fs.at, Fs.set, List.set_cons_zero, List.set_cons_succ]
  refine pk_assign (v := .int (c % 4)) (σ := tabS) ?_ ?_
  · simp only [pe_const, pe_name, slotV, pe_glob, pe_bin, pe_not, pe_neg, pe_is, pe_isnot, pe_eq, pe_ne, pe_lt, pe_le, pe_gt, pe_ge, pe_in, pe_notin, pe_bop, pe_ife, pe_list, pe_tup, pe_sub, pe_slice, pe_call, pe_bcall, pe_newl, pe_emeth, pe_setd, pes_nil', pes_cons, pr_v, pr_t, bind_ok, bindA_ok, truth_ok, ofB_some, ofRes_ok, ofRes_exc, onL_some, onP_some, plains_nil, plains_cons, pall_and_nil, pall_or_nil, pall_and_cons, pall_or_cons, pbop_one, pbop_and, pbop_or, Option.map_some, List.map_cons, List.map_nil, List.getElem?_cons_zero, List.getElem?_cons_succ, dS_av, dr_none, dr_bool, dr_int, dr_str, dr_type, dr_range, dr_tup, dr_lst, dr_set, ops_bin, ops_inpl, ops_un, ops_cmp, ops_truth, ops_idx, ops_slice, ops_bcall, ops_items, ops_is, ob_ii, oc_ii, ou_i, ot_b, ot_i, ot_n, ib_add, ib_sub, ic_eq, ic_ne, ic_lt, ic_le, ic_gt, ic_ge, oi_l, os_l, cb_len, cb_abs, cb_range, cb_range2, List.length_cons, List.length_nil, Bool.not_true, Bool.not_false, Nat.reduceAdd, Nat.reduceLeDiff, if_true, i2, mc]
  dsimp only [Fs.at, Fs.set, List.set_cons_zero, List.set_cons_succ]
  refine pk_assign (v := .int (xorP (xorP (a % 4) (b % 4)) (c % 4))) (σ := tabS) ?_ ?_
  · simp only [pe_const, pe_name, slotV, pe_glob, pe_bin, pe_not, pe_neg, pe_is, pe_isnot, pe_eq, pe_ne, pe_lt, pe_le, pe_gt, pe_ge, pe_in, pe_notin, pe_bop, pe_ife, pe_list, pe_tup, pe_sub, pe_slice, pe_call, pe_bcall, pe_newl, pe_emeth, pe_setd, pes_nil', pes_cons, pr_v, pr_t, bind_ok, bindA_ok, truth_ok, ofB_some, ofRes_ok, ofRes_exc, onL_some, onP_some, plains_nil, plains_cons, pall_and_nil, pall_or_nil, pall_and_cons, pall_or_cons, pbop_one, pbop_and, pbop_or, Option.map_some, List.map_cons, List.map_nil, List.getElem?_cons_zero, List.getElem?_cons_succ, dS_av, dr_none, dr_bool, dr_int, dr_str, dr_type, dr_range, dr_tup, dr_lst, dr_set, ops_bin, ops_inpl, ops_un, ops_cmp, ops_truth, ops_idx, ops_slice, ops_bcall, ops_items, ops_is, ob_ii, oc_ii, ou_i, ot_b, ot_i, ot_n, ib_add, ib_sub, ic_eq, ic_ne, ic_lt, ic_le, ic_gt, ic_ge, oi_l, os_l, cb_len, cb_abs, cb_range, cb_range2, List.length_cons, List.length_nil, Bool.not_true, Bool.not_false, Nat.reduceAdd, Nat.reduceLeDiff, if_true, call0, xv_ii]
  dsimp only [Fs.at, Fs.set, List.set_cons_zero, List.set_cons_succ]
  have hw := won_idx (a := a % 4) (b := b % 4) (c := c % 4) (by omega) (by omega) (by omega)
  have m1 := mult_left 16 (a % 4) (by omega) (by omega)
  have m2 := mult_left 4 (b % 4) (by omega) (by omega)
  refine pk_skip (σ := tabS) ?_ ?_
  · simp only [pe_const, pe_name, slotV, pe_glob, pe_bin, pe_not, pe_neg, pe_is, pe_isnot, pe_eq, pe_ne, pe_lt, pe_le, pe_gt, pe_ge, pe_in, pe_notin, pe_bop, pe_ife, pe_list, pe_tup, pe_sub, pe_slice, pe_call, pe_bcall, pe_newl, pe_emeth, pe_setd, pes_nil', pes_cons, pr_v, pr_t, bind_ok, bindA_ok, truth_ok, ofB_some, ofRes_ok, ofRes_exc, onL_some, onP_some, plains_nil, plains_cons, pall_and_nil, pall_or_nil, pall_and_cons, pall_or_cons, pbop_one, pbop_and, pbop_or, Option.map_some, List.map_cons, List.map_nil, List.getElem?_cons_zero, List.getElem?_cons_succ, dS_av, dr_none, dr_bool, dr_int, dr_str, dr_type, dr_range, dr_tup, dr_lst, dr_set, ops_bin, ops_inpl, ops_un, ops_cmp, ops_truth, ops_idx, ops_slice, ops_bcall, ops_items, ops_is, ob_ii, oc_ii, ou_i, ot_b, ot_i, ot_n, ib_add, ib_sub, ic_eq, ic_ne, ic_lt, ic_le, ic_gt, ic_ge, oi_l, os_l, cb_len, cb_abs, cb_range, cb_range2, List.length_cons, List.length_nil, Bool.not_true, Bool.not_false, Nat.reduceAdd, Nat.reduceLeDiff, if_true, m1, m2, hw, ne_bb, bne_self_eq_false]
  dsimp only [Fs.at]
  refine pk_assign (v := .bool (decide (a > b))) (σ := tabS) ?_ ?_
  · simp only [pe_const, pe_name, slotV, pe_glob, pe_bin, pe_not, pe_neg, pe_is, pe_isnot, pe_eq, pe_ne, pe_lt, pe_le, pe_gt, pe_ge, pe_in, pe_notin, pe_bop, pe_ife, pe_list, pe_tup, pe_sub, pe_slice, pe_call, pe_bcall, pe_newl, pe_emeth, pe_setd, pes_nil', pes_cons, pr_v, pr_t, bind_ok, bindA_ok, truth_ok, ofB_some, ofRes_ok, ofRes_exc, onL_some, onP_some, plains_nil, plains_cons, pall_and_nil, pall_or_nil, pall_and_cons, pall_or_cons, pbop_one, pbop_and, pbop_or, Option.map_some, List.map_cons, List.map_nil, List.getElem?_cons_zero, List.getElem?_cons_succ, dS_av, dr_none, dr_bool, dr_int, dr_str, dr_type, dr_range, dr_tup, dr_lst, dr_set, ops_bin, ops_inpl, ops_un, ops_cmp, ops_truth, ops_idx, ops_slice, ops_bcall, ops_items, ops_is, ob_ii, oc_ii, ou_i, ot_b, ot_i, ot_n, ib_add, ib_sub, ic_eq, ic_ne, ic_lt, ic_le, ic_gt, ic_ge, oi_l, os_l, cb_len, cb_abs, cb_range, cb_range2, List.length_cons, List.length_nil, Bool.not_true, Bool.not_false, Nat.reduceAdd, Nat.reduceLeDiff, if_true]
  dsimp only [Fs.at, Fs.set, List.set_cons_zero, List.set_cons_succ]
  refine pk_assign (v := .bool (decide (a > 0))) (σ := tabS) ?_ ?_
  · simp only [pe_const, pe_name, slotV, pe_glob, pe_bin, pe_not, pe_neg, pe_is, pe_isnot, pe_eq, pe_ne, pe_lt, pe_le, pe_gt, pe_ge, pe_in, pe_notin, pe_bop, pe_ife, pe_list, pe_tup, pe_sub, pe_slice, pe_call, pe_bcall, pe_newl, pe_emeth, pe_setd, pes_nil', pes_cons, pr_v, pr_t, bind_ok, bindA_ok, truth_ok, ofB_some, ofRes_ok, ofRes_exc, onL_some, onP_some, plains_nil, plains_cons, pall_and_nil, pall_or_nil, pall_and_cons, pall_or_cons, pbop_one, pbop_and, pbop_or, Option.map_some, List.map_cons, List.map_nil, List.getElem?_cons_zero, List.getElem?_cons_succ, dS_av, dr_none, dr_bool, dr_int, dr_str, dr_type, dr_range, dr_tup, dr_lst, dr_set, ops_bin, ops_inpl, ops_un, ops_cmp, ops_truth, ops_idx, ops_slice, ops_bcall, ops_items, ops_is, ob_ii, oc_ii, ou_i, ot_b, ot_i, ot_n, ib_add, ib_sub, ic_eq, ic_ne, ic_lt, ic_le, ic_gt, ic_ge, oi_l, os_l, cb_len, cb_abs, cb_range, cb_range2, List.length_cons, List.length_nil, Bool.not_true, Bool.not_false, Nat.reduceAdd, Nat.reduceLeDiff, if_true]
  dsimp only [Fs.at, Fs.set, List.set_cons_zero, List.set_cons_succ]
  refine pk_assign (v := .bool (decide (a > b) != decide (a > 0))) (σ := tabS) ?_ ?_
  · simp only [pe_const, pe_name, slotV, pe_glob, pe_bin, pe_not, pe_neg, pe_is, pe_isnot, pe_eq, pe_ne, pe_lt, pe_le, pe_gt, pe_ge, pe_in, pe_notin, pe_bop, pe_ife, pe_list, pe_tup, pe_sub, pe_slice, pe_call, pe_bcall, pe_newl, pe_emeth, pe_setd, pes_nil', pes_cons, pr_v, pr_t, bind_ok, bindA_ok, truth_ok, ofB_some, ofRes_ok, ofRes_exc, onL_some, onP_some, plains_nil, plains_cons, pall_and_nil, pall_or_nil, pall_and_cons, pall_or_cons, pbop_one, pbop_and, pbop_or, Option.map_some, List.map_cons, List.map_nil, List.getElem?_cons_zero, List.getElem?_cons_succ, dS_av, dr_none, dr_bool, dr_int, dr_str, dr_type, dr_range, dr_tup, dr_lst, dr_set, ops_bin, ops_inpl, ops_un, ops_cmp, ops_truth, ops_idx, ops_slice, ops_bcall, ops_items, ops_is, ob_ii, oc_ii, ou_i, ot_b, ot_i, ot_n, ib_add, ib_sub, ic_eq, ic_ne, ic_lt, ic_le, ic_gt, ic_ge, oi_l, os_l, cb_len, cb_abs, cb_range, cb_range2, List.length_cons, List.length_nil, Bool.not_true, Bool.not_false, Nat.reduceAdd, Nat.reduceLeDiff, if_true, call0, xv_bb]
  dsimp only [Fs.at, Fs.set, List.set_cons_zero, List.set_cons_succ]
  refine pk_assign (v := .int (xorP a (b2i (decide (a > b))))) (σ := tabS) ?_ ?_
  · simp only [pe_const, pe_name, slotV, pe_glob, pe_bin, pe_not, pe_neg, pe_is, pe_isnot, pe_eq, pe_ne, pe_lt, pe_le, pe_gt, pe_ge, pe_in, pe_notin, pe_bop, pe_ife, pe_list, pe_tup, pe_sub, pe_slice, pe_call, pe_bcall, pe_newl, pe_emeth, pe_setd, pes_nil', pes_cons, pr_v, pr_t, bind_ok, bindA_ok, truth_ok, ofB_some, ofRes_ok, ofRes_exc, onL_some, onP_some, plains_nil, plains_cons, pall_and_nil, pall_or_nil, pall_and_cons, pall_or_cons, pbop_one, pbop_and, pbop_or, Option.map_some, List.map_cons, List.map_nil, List.getElem?_cons_zero, List.getElem?_cons_succ, dS_av, dr_none, dr_bool, dr_int, dr_str, dr_type, dr_range, dr_tup, dr_lst, dr_set, ops_bin, ops_inpl, ops_un, ops_cmp, ops_truth, ops_idx, ops_slice, ops_bcall, ops_items, ops_is, ob_ii, oc_ii, ou_i, ot_b, ot_i, ot_n, ib_add, ib_sub, ic_eq, ic_ne, ic_lt, ic_le, ic_gt, ic_ge, oi_l, os_l, cb_len, cb_abs, cb_range, cb_range2, List.length_cons, List.length_nil, Bool.not_true, Bool.not_false, Nat.reduceAdd, Nat.reduceLeDiff, if_true, call0, xv_ib]
  dsimp only [Fs.at, Fs.set, List.set_cons_zero, List.set_cons_succ]
  refine pk_skip (σ := tabS) ?_ ?_
  · simp only [pe_const, pe_name, slotV, pe_glob, pe_bin, pe_not, pe_neg, pe_is, pe_isnot, pe_eq, pe_ne, pe_lt, pe_le, pe_gt, pe_ge, pe_in, pe_notin, pe_bop, pe_ife, pe_list, pe_tup, pe_sub, pe_slice, pe_call, pe_bcall, pe_newl, pe_emeth, pe_setd, pes_nil', pes_cons, pr_v, pr_t, bind_ok, bindA_ok, truth_ok, ofB_some, ofRes_ok, ofRes_exc, onL_some, onP_some, plains_nil, plains_cons, pall_and_nil, pall_or_nil, pall_and_cons, pall_or_cons, pbop_one, pbop_and, pbop_or, Option.map_some, List.map_cons, List.map_nil, List.getElem?_cons_zero, List.getElem?_cons_succ, dS_av, dr_none, dr_bool, dr_int, dr_str, dr_type, dr_range, dr_tup, dr_lst, dr_set, ops_bin, ops_inpl, ops_un, ops_cmp, ops_truth, ops_idx, ops_slice, ops_bcall, ops_items, ops_is, ob_ii, oc_ii, ou_i, ot_b, ot_i, ot_n, ib_add, ib_sub, ic_eq, ic_ne, ic_lt, ic_le, ic_gt, ic_ge, oi_l, os_l, cb_len, cb_abs, cb_range, cb_range2, List.length_cons, List.length_nil, Bool.not_true, Bool.not_false, Nat.reduceAdd, Nat.reduceLeDiff, if_true, ty_bool, is_bb, nm_bool, ne_bb, bne_self_eq_false]
  dsimp only [Fs.at]
  have s2 := sum_eq (lo := 0) a (b2i (decide (a > b))) (far_lt b0) (by unfold b2i; split <;> decide)
  refine pk_skip (σ := tabS) ?_ ?_
  · cases hd : decide (a > b) with
    | true =>
      rw [hd] at s2
      have e : b2i true = 1 := rfl
      rw [e] at s2 ⊢
      simp only [pe_const, pe_name, slotV, pe_glob, pe_bin, pe_not, pe_neg, pe_is, pe_isnot, pe_eq, pe_ne, pe_lt, pe_le, pe_gt, pe_ge, pe_in, pe_notin, pe_bop, pe_ife, pe_list, pe_tup, pe_sub, pe_slice, pe_call, pe_bcall, pe_newl, pe_emeth, pe_setd, pes_nil', pes_cons, pr_v, pr_t, bind_ok, bindA_ok, truth_ok, ofB_some, ofRes_ok, ofRes_exc, onL_some, onP_some, plains_nil, plains_cons, pall_and_nil, pall_or_nil, pall_and_cons, pall_or_cons, pbop_one, pbop_and, pbop_or, Option.map_some, List.map_cons, List.map_nil, List.getElem?_cons_zero, List.getElem?_cons_succ, dS_av, dr_none, dr_bool, dr_int, dr_str, dr_type, dr_range, dr_tup, dr_lst, dr_set, ops_bin, ops_inpl, ops_un, ops_cmp, ops_truth, ops_idx, ops_slice, ops_bcall, ops_items, ops_is, ob_ii, oc_ii, ou_i, ot_b, ot_i, ot_n, ib_add, ib_sub, ic_eq, ic_ne, ic_lt, ic_le, ic_gt, ic_ge, oi_l, os_l, cb_len, cb_abs, cb_range, cb_range2, List.length_cons, List.length_nil, Bool.not_true, Bool.not_false, Nat.reduceAdd, Nat.reduceLeDiff, if_true, ty_int, is_ii, nm_int, call3, s2, bne_self_eq_false]
    | false =>
      rw [hd] at s2
      have e : b2i false = 0 := rfl
      rw [e] at s2 ⊢
      simp only [pe_const, pe_name, slotV, pe_glob, pe_bin, pe_not, pe_neg, pe_is, pe_isnot, pe_eq, pe_ne, pe_lt, pe_le, pe_gt, pe_ge, pe_in, pe_notin, pe_bop, pe_ife, pe_list, pe_tup, pe_sub, pe_slice, pe_call, pe_bcall, pe_newl, pe_emeth, pe_setd, pes_nil', pes_cons, pr_v, pr_t, bind_ok, bindA_ok, truth_ok, ofB_some, ofRes_ok, ofRes_exc, onL_some, onP_some, plains_nil, plains_cons, pall_and_nil, pall_or_nil, pall_and_cons, pall_or_cons, pbop_one, pbop_and, pbop_or, Option.map_some, List.map_cons, List.map_nil, List.getElem?_cons_zero, List.getElem?_cons_succ, dS_av, dr_none, dr_bool, dr_int, dr_str, dr_type, dr_range, dr_tup, dr_lst, dr_set, ops_bin, ops_inpl, ops_un, ops_cmp, ops_truth, ops_idx, ops_slice, ops_bcall, ops_items, ops_is, ob_ii, oc_ii, ou_i, ot_b, ot_i, ot_n, ib_add, ib_sub, ic_eq, ic_ne, ic_lt, ic_le, ic_gt, ic_ge, oi_l, os_l, cb_len, cb_abs, cb_range, cb_range2, List.length_cons, List.length_nil, Bool.not_true, Bool.not_false, Nat.reduceAdd, Nat.reduceLeDiff, if_true, ty_int, is_ii, nm_int, call3, s2, bne_self_eq_false]
  dsimp only [Fs.at]
  exact bad_loop a 0 0 _ _ _ _ _ _ _ _ _ _ _ _ _ _ _ _ fun f16 => hK _ _ _ _ _ _ _ _ _ _ _ _

theorem law_true (ns : List Int) (h : ns.length ≤ 63) : ∃ σ, lawRes ns = .ok (.av (.bool true)) σ := by
  refine ⟨tabS, ?_⟩
  unfold lawRes
  show fnRes (pxs ops cal6 true ⟨[some (.val (.lst (ns.map .int))), none, none, none, none, none, none, none, none, none, none, none, none, none, none, none, none], [], 0, 0⟩ law_p) = _
  unfold law_p
  refine fn_ret (pk_assign (v := .lst tabP) (σ := tabS) ?_ ?_)
  · simp only [pe_const, pe_name, slotV, pe_glob, pe_bin, pe_not, pe_neg, pe_is, pe_isnot, pe_eq, pe_ne, pe_lt, pe_le, pe_gt, pe_ge, pe_in, pe_notin, pe_bop, pe_ife, pe_list, pe_tup, pe_sub, pe_slice, pe_call, pe_bcall, pe_newl, pe_emeth, pe_setd, pes_nil', pes_cons, pr_v, pr_t, bind_ok, bindA_ok, truth_ok, ofB_some, ofRes_ok, ofRes_exc, onL_some, onP_some, plains_nil, plains_cons, pall_and_nil, pall_or_nil, pall_and_cons, pall_or_cons, pbop_one, pbop_and, pbop_or, Option.map_some, List.map_cons, List.map_nil, List.getElem?_cons_zero, List.getElem?_cons_succ, dS_av, dr_none, dr_bool, dr_int, dr_str, dr_type, dr_range, dr_tup, dr_lst, dr_set, ops_bin, ops_inpl, ops_un, ops_cmp, ops_truth, ops_idx, ops_slice, ops_bcall, ops_items, ops_is, ob_ii, oc_ii, ou_i, ot_b, ot_i, ot_n, ib_add, ib_sub, ic_eq, ic_ne, ic_lt, ic_le, ic_gt, ic_ge, oi_l, os_l, cb_len, cb_abs, cb_range, cb_range2, List.length_cons, List.length_nil, Bool.not_true, Bool.not_false, Nat.reduceAdd, Nat.reduceLeDiff, if_true, table_eq]
  dsimp only [Fs.at, Fs.set, List.set_cons_zero, List.set_cons_succ]
  refine pk_assign (v := .lst (wonL.map .bool)) (σ := tabS) ?_ ?_
  · have e : cal6 tabS 0 4 [] = cal5 tabS 0 4 [] := rfl
    simp only [pe_const, pe_name, slotV, pe_glob, pe_bin, pe_not, pe_neg, pe_is, pe_isnot, pe_eq, pe_ne, pe_lt, pe_le, pe_gt, pe_ge, pe_in, pe_notin, pe_bop, pe_ife, pe_list, pe_tup, pe_sub, pe_slice, pe_call, pe_bcall, pe_newl, pe_emeth, pe_setd, pes_nil', pes_cons, pr_v, pr_t, bind_ok, bindA_ok, truth_ok, ofB_some, ofRes_ok, ofRes_exc, onL_some, onP_some, plains_nil, plains_cons, pall_and_nil, pall_or_nil, pall_and_cons, pall_or_cons, pbop_one, pbop_and, pbop_or, Option.map_some, List.map_cons, List.map_nil, List.getElem?_cons_zero, List.getElem?_cons_succ, dS_av, dr_none, dr_bool, dr_int, dr_str, dr_type, dr_range, dr_tup, dr_lst, dr_set, ops_bin, ops_inpl, ops_un, ops_cmp, ops_truth, ops_idx, ops_slice, ops_bcall, ops_items, ops_is, ob_ii, oc_ii, ou_i, ot_b, ot_i, ot_n, ib_add, ib_sub, ic_eq, ic_ne, ic_lt, ic_le, ic_gt, ic_ge, oi_l, os_l, cb_len, cb_abs, cb_range, cb_range2, List.length_cons, List.length_nil, Bool.not_true, Bool.not_false, Nat.reduceAdd, Nat.reduceLeDiff, if_true, e, won_eq]
  dsimp only [Fs.at, Fs.set, List.set_cons_zero, List.set_cons_succ]
  refine pk_assign (v := .lst ((nums ns).map .int)) (σ := tabS) (st2 ns 0 0 _ rfl) ?_
  dsimp only [Fs.at, Fs.set, List.set_cons_zero, List.set_cons_succ]
  have G := nums_good ns
  generalize nums ns = l at G ⊢
  refine pk_for (v := .range 0 12 1) (σ := tabS) (l := (List.range 12).map fun (i : Nat) => .int i) (fun _ st => ∃ f4 f5 f6 f7 f8 f9 f10 f11 f12 f13 f14 f15 f16, st = ⟨[some (.val (.lst (ns.map .int))), some (.val (.lst tabP)), some (.val (.lst (wonL.map .bool))), some (.val (.lst (l.map .int))), f4, f5, f6, f7, f8, f9, f10, f11, f12, f13, f14, f15, f16], tabS, 0, 0⟩) ?_ ?_ ⟨_, _, _, _, _, _, _, _, _, _, _, _, _, rfl⟩ ?_ ?_
  · have e : ((l.map AV.int).length : Int) = 12 := by rw [List.length_map, G.len]; rfl
    simp only [pe_const, pe_name, slotV, pe_glob, pe_bin, pe_not, pe_neg, pe_is, pe_isnot, pe_eq, pe_ne, pe_lt, pe_le, pe_gt, pe_ge, pe_in, pe_notin, pe_bop, pe_ife, pe_list, pe_tup, pe_sub, pe_slice, pe_call, pe_bcall, pe_newl, pe_emeth, pe_setd, pes_nil', pes_cons, pr_v, pr_t, bind_ok, bindA_ok, truth_ok, ofB_some, ofRes_ok, ofRes_exc, onL_some, onP_some, plains_nil, plains_cons, pall_and_nil, pall_or_nil, pall_and_cons, pall_or_cons, pbop_one, pbop_and, pbop_or, Option.map_some, List.map_cons, List.map_nil, List.getElem?_cons_zero, List.getElem?_cons_succ, dS_av, dr_none, dr_bool, dr_int, dr_str, dr_type, dr_range, dr_tup, dr_lst, dr_set, ops_bin, ops_inpl, ops_un, ops_cmp, ops_truth, ops_idx, ops_slice, ops_bcall, ops_items, ops_is, ob_ii, oc_ii, ou_i, ot_b, ot_i, ot_n, ib_add, ib_sub, ic_eq, ic_ne, ic_lt, ic_le, ic_gt, ic_ge, oi_l, os_l, cb_len, cb_abs, cb_range, cb_range2, List.length_cons, List.length_nil, Bool.not_true, Bool.not_false, Nat.reduceAdd, Nat.reduceLeDiff, if_true, e]
  · rw [ops_items]; exact range_items 12 (by omega)
  · rintro j x st hj ⟨f4, f5, f6, f7, f8, f9, f10, f11, f12, f13, f14, f15, f16, rfl⟩
    obtain ⟨hj12, rfl⟩ := range_get hj
    dsimp only [Fs.at, Fs.set, List.set_cons_zero, List.set_cons_succ]
    exact turn G j hj12 _ _ _ _ _ _ _ _ _ _ _ _ _ fun f5 f6 f7 f8 f9 f10 f11 f12 f13 f14 f15 f16 => ⟨_, _, _, _, _, _, _, _, _, _, _, _, _, rfl⟩
  · rintro st ⟨f4, f5, f6, f7, f8, f9, f10, f11, f12, f13, f14, f15, f16, rfl⟩
    refine pk_ret (v := .bool true) (σ := tabS) ?_ ends_ret
    simp only [pe_const, pe_name, slotV, pe_glob, pe_bin, pe_not, pe_neg, pe_is, pe_isnot, pe_eq, pe_ne, pe_lt, pe_le, pe_gt, pe_ge, pe_in, pe_notin, pe_bop, pe_ife, pe_list, pe_tup, pe_sub, pe_slice, pe_call, pe_bcall, pe_newl, pe_emeth, pe_setd, pes_nil', pes_cons, pr_v, pr_t, bind_ok, bindA_ok, truth_ok, ofB_some, ofRes_ok, ofRes_exc, onL_some, onP_some, plains_nil, plains_cons, pall_and_nil, pall_or_nil, pall_and_cons, pall_or_cons, pbop_one, pbop_and, pbop_or, Option.map_some, List.map_cons, List.map_nil, List.getElem?_cons_zero, List.getElem?_cons_succ, dS_av, dr_none, dr_bool, dr_int, dr_str, dr_type, dr_range, dr_tup, dr_lst, dr_set, ops_bin, ops_inpl, ops_un, ops_cmp, ops_truth, ops_idx, ops_slice, ops_bcall, ops_items, ops_is, ob_ii, oc_ii, ou_i, ot_b, ot_i, ot_n, ib_add, ib_sub, ic_eq, ic_ne, ic_lt, ic_le, ic_gt, ic_ge, oi_l, os_l, cb_len, cb_abs, cb_range, cb_range2, List.length_cons, List.length_nil, Bool.not_true, Bool.not_false, Nat.reduceAdd, Nat.reduceLeDiff, if_true]
end Mine
end
section
open PySem PySem.W PyProof.Rows
set_option Elab.async false
set_option maxRecDepth 100000 in
set_option maxHeartbeats 8000000 in
theorem PySem.Challenge.cw_dm0221_03_holds : PySem.Challenge.rw_dm0221_03.Holds := by
  (w_on; o_law; k_head; (case hw => w_witness2))
  k_fill
  intro w s₀ s₁ mg mb G Y fa o pm cd doc dV kV ho hd hcd hD hmg hg args vals as hpre hlay hrd hwl hlo
  have KX := kIn_of Y
  refine Ground.open G ?_
  intro T B D TE TW
  try (refine guard_noD D (by decide +kernel) ?_; clear D)
  wrow_args hpre hlay hrd hwl hlo
  refine enter_call ?_
  w_top on
  try refine codeAny_mono ?_ (fun _ _ g => GoodW.toG g)
  rename_i hL _ w1 _ hI _ hlen _
  clear hd hD ho hcd
  have hn := Int.not_lt.mp hlen
  have hl := Mine.isL_of_well hL w1 rfl
  refine Mine.law_code T (by decide +kernel) (Mine.law_true _ (by omega)) (by omega) hl hI hmg fun s' h1 h2 h3 => ?_
  refine ⟨.inl ⟨_, .bool true, [], rfl, fun cls => rfl, .bool true, ?_, fun _ => ⟨List.nodup_nil, fun a ha => by cases ha⟩⟩, h1, h2, h3.trans hg⟩
  wrow_post
end
