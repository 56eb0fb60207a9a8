import PyProof.Rows.All
import Wide.All
import OpenK.AllK
import Wide.FinOn
import KE.KDictIter
import PyProof.EnumStmt
import PyProof.ZipIter
import OpenK.KNot
import KE.KLam
import KE.KSortTup
import PyProof.Rows.SortKey
import KE.KSortKey
import PyProof.Rows.Range3
import KE.KRevSl
import PySem.Challenge.RW_dm0221_08
set_option Elab.async false
set_option linter.all false
set_option genInjectivity false
set_option genSizeOf false
set_option bootstrap.genMatcherCode false
section
open PySem PySem.W PyProof.Rows
namespace Mine
/-- marks are handed out in rising order -/
theorem runs_toks {M : Model} {Γ : Ctx} {p : Pos} {t : Sem PySem.Fin} {fs : List Frame} {s s' : Shared} {e : End} (h : Runs M Γ p t fs s e s') : s.toks ≤ s'.toks := by
  induction h with
  | done | raise | yield => exact Nat.le_refl _
  | again _ _ ih | rule _ ih | «at» _ ih | load _ _ ih | update _ _ ih | loadIfAlive _ ih | point _ ih | alloc _ ih | ask _ ih | choose _ _ ih | os _ ih | handled _ ih | genState _ _ ih | stack _ ih | thread _ ih | newGen _ ih | resumeJustStarted _ _ _ ih | resumeThrowFresh _ _ ih | resumeRunning _ _ ih | resumeFinished _ _ ih | callSusp _ ih | segSuspOut _ _ ih => exact ih
  | fresh _ ih => exact Nat.le_trans (Nat.le_succ _) ih
  | call _ _ ih1 ih2 | resumeFresh _ _ _ _ ih1 ih2 | resumeSuspended _ _ _ _ ih1 ih2 | segRet _ _ ih1 ih2 | segGen _ _ ih1 ih2 | segSuspGen _ _ _ _ ih1 ih2 => exact Nat.le_trans ih1 ih2
theorem wakes_toks {M : Model} {Γ : Ctx} {p : Pos} {g : Nat} {r : Resume} {s s' : Shared} {res : GenResult} (h : Wakes M Γ p g r s res s') : s.toks ≤ s'.toks := by
  unfold Wakes at h
  split at h
  · exact h.elim
  · split at h
    · obtain ⟨e, s₁, h1, _, _, rfl⟩ := h; exact (runs_toks h1 : (s.setGen g _).toks ≤ s₁.toks)
    · obtain ⟨_, rfl⟩ := h; exact Nat.le_refl _
    · obtain ⟨_, rfl⟩ := h; exact Nat.le_refl _
  · obtain ⟨e, s₁, h1, _, _, rfl⟩ := h; exact (runs_toks h1 : (s.setGen g _).toks ≤ s₁.toks)
  · obtain ⟨_, rfl⟩ := h; exact Nat.le_refl _
  · obtain ⟨_, rfl⟩ := h; exact Nat.le_refl _
theorem wp_up {α : Type} {M : Model} {Γ : Ctx} {n : Nat} {Q : α → Pos → Shared → Prop} {E : Value → Pos → Shared → Prop} (t : Sem α) : ∀ (p : Pos) (s : Shared), n ≤ s.toks → Sem.wp M Γ t (fun a p s => n ≤ s.toks → Q a p s) (fun e p s => n ≤ s.toks → E e p s) p s → Sem.wp M Γ t Q E p s := by
  induction t with
  | pure x => exact fun _ _ h k => k h
  | raise v => exact fun _ _ h k => k h
  | unsupported | finish | yield | fork | await | register => exact fun _ _ _ k => k
  | rule _ k ih | «at» _ k ih | alloc _ k ih | loadIfAlive _ k ih | point _ k ih | ask k ih | os _ _ k ih | handled _ k ih | newGen _ k ih | stack k ih | thread k ih => exact fun _ _ h => ih _ _ _ h
  | fresh k ih => exact fun _ _ h => ih _ _ _ (Nat.le_trans h (Nat.le_succ _))
  | load a _ k ih | genState a k ih => exact fun _ _ h ⟨o, ho, x⟩ => ⟨o, ho, ih _ _ _ h x⟩
  | update a _ f k ih | choose _ _ k ih => exact fun _ _ h ⟨ha, x⟩ => ⟨ha, ih _ _ _ h x⟩
  | call c h g l k ih => exact fun _ _ h ⟨r, s', x, y⟩ => ⟨r, s', x, ih _ _ _ (Nat.le_trans h (runs_toks x)) y⟩
  | resume g r l k ih => exact fun _ _ h ⟨res, s', x, y⟩ => ⟨res, s', x, ih _ _ _ (Nat.le_trans h (wakes_toks x)) y⟩
/-- behind any tree no mark has gone back -/
theorem wpAny_up {α : Type} {M : Model} {A : Around} {t : Sem α} {Q : α → Shared → Prop} {E : Value → Shared → Prop} {s : Shared} (h : wpAny M A t (fun v s' => s.toks ≤ s'.toks → Q v s') (fun e s' => s.toks ≤ s'.toks → E e s') s) : wpAny M A t Q E s :=
  fun Γ p hΓ => wp_up t p s (Nat.le_refl _) (h Γ p hΓ)
/-- what is asked behind, with the marks' rise given -/
abbrev Up {α : Type} (s : Shared) (Q : α → Shared → Prop) : α → Shared → Prop := fun v s' => s.toks ≤ s'.toks → Q v s'
end Mine
end
section
open PySem PySem.W PyProof.Rows
namespace Mine

/-- kinds of iterators -/
inductive IK where
  | list | tuple | range
deriving DecidableEq, Inhabited

/-- plain values -/
inductive AV where
  | none
  | bool (b : Bool)
  | int (i : Int)
  | float (x : UInt64)
  | str (s : Str)
  | bytes (b : Array UInt8)
  | type (n : String)
  | range (a b s : Int)
  | tup (xs : List AV)
  | lst (xs : List AV)
  | set (fz : Bool) (xs : List Int)
  | ptr (n : Nat)
  | itr (k : IK) (xs : List AV)
  | fn (id : String)
  | dict (n : Nat)
  | any
deriving Inhabited

/-- what can turn -/
inductive MO where
  | lst (xs : List AV)
  | itr (k : IK) (xs : List AV)
  | set (xs : List Int)
  | tab (P : Addr) (b : Bool)
deriving Inhabited

/-- what is seen -/
structure Vw where
  r : Addr → Value → Data → Prop
  m : Nat → Option Addr
  t : Tok → Option Int
structure Vw.Le (R R' : Vw) : Prop where
  r : ∀ a c d, R.r a c d → R'.r a c d
  m : ∀ n a, R.m n = some a → R'.m n = some a
  t : ∀ n i, R.t n = some i → R'.t n = some i
theorem Vw.Le.refl (R : Vw) : R.Le R := ⟨fun _ _ _ h => h, fun _ _ h => h, fun _ _ h => h⟩
theorem Vw.Le.trans {R R' R'' : Vw} (a : R.Le R') (b : R'.Le R'') : R.Le R'' := ⟨fun _ _ _ h => b.r _ _ _ (a.r _ _ _ h), fun _ _ h => b.m _ _ (a.m _ _ h), fun _ _ h => b.t _ _ (a.t _ _ h)⟩

noncomputable def setName (fz : Bool) : String := if fz = true then "frozenset" else "set"
/-- a set's row of ints -/
noncomputable def SetEs (es : Array (Int × Value)) (t : SetTable) (xs : List Int) : Prop :=
  xs.Pairwise (· < ·) ∧ (∀ e ∈ es.toList, ∃ i tk, e = (hashInt i, Value.int i tk)) ∧ (es.toList.map fun e => e.2).length = xs.length ∧ (∀ i, i ∈ xs ↔ ∃ tk, (hashInt i, Value.int i tk) ∈ es.toList) ∧ es.size < scanBound ∧ t.fits es.size = true

mutual
noncomputable def Rep (R : Vw) : Value → AV → Prop
  | v, .none => v = .none
  | v, .bool b => v = .bool b
  | v, .int i => ∃ t, v = .int i t ∧ t ≠ 0 ∧ R.t t = some i
  | v, .float x => ∃ t, v = .float x t
  | v, .str s => ∃ t, v = .str s t
  | v, .bytes b => ∃ t, v = .bytes b t
  | v, .type n => v = .type n
  | v, .fn n => v = .builtin n
  | _, .any => True
  | v, .dict n => ∃ a es ep, v = .ref a ∧ R.r a (.type "dict") (.dict es ep) ∧ es.size = n
  | v, .ptr n => ∃ a, R.m n = some a ∧ v = .ref a
  | _, .itr _ _ => False
  | v, .range a b s => ∃ r ta tb ts, v = .ref r ∧ R.r r (.type "range") (.fields #[.int a ta, .int b tb, .int s ts])
  | v, .set fz xs => ∃ a es ep t, v = .ref a ∧ R.r a (.type (setName fz)) (.set es ep t) ∧ SetEs es t xs
  | v, .tup xs => xs.length ≤ 1048576 ∧ ∃ a vs n, v = .ref a ∧ R.r a (.type "tuple") (.seq (List.toArray vs) n) ∧ RepL R vs xs
  | v, .lst xs => xs.length ≤ 1048576 ∧ ∃ a vs n, v = .ref a ∧ R.r a (.type "list") (.seq (List.toArray vs) n) ∧ RepL R vs xs
noncomputable def RepL (R : Vw) : List Value → List AV → Prop
  | [], [] => True
  | v :: vs, x :: xs => Rep R v x ∧ RepL R vs xs
  | [], _ :: _ => False
  | _ :: _, [] => False
end

mutual
theorem Rep.mono {R R' : Vw} (h : R.Le R') : ∀ {x : AV} {v : Value}, Rep R v x → Rep R' v x
  | .none, _, r => by simpa [Rep] using r
  | .bool _, _, r => by simpa [Rep] using r
  | .int _, _, r => by
    simp only [Rep] at r ⊢
    obtain ⟨t, e, n, q⟩ := r
    exact ⟨t, e, n, h.t _ _ q⟩
  | .float _, _, r => by simpa [Rep] using r
  | .str _, _, r => by simpa [Rep] using r
  | .bytes _, _, r => by simpa [Rep] using r
  | .type _, _, r => by simpa [Rep] using r
  | .fn _, _, r => by simpa [Rep] using r
  | .any, _, _ => by simp [Rep]
  | .dict _, _, r => by
    simp only [Rep] at r ⊢
    obtain ⟨a, es, ep, e, k, q⟩ := r
    exact ⟨a, es, ep, e, h.r _ _ _ k, q⟩
  | .itr _ _, _, r => by simp [Rep] at r
  | .ptr _, _, r => by
    simp only [Rep] at r ⊢
    obtain ⟨a, e, q⟩ := r
    exact ⟨a, h.m _ _ e, q⟩
  | .range _ _ _, _, r => by
    simp only [Rep] at r ⊢
    obtain ⟨r, ta, tb, ts, e, k⟩ := r
    exact ⟨r, ta, tb, ts, e, h.r _ _ _ k⟩
  | .set _ _, _, r => by
    simp only [Rep] at r ⊢
    obtain ⟨a, es, ep, t, e, k, q⟩ := r
    exact ⟨a, es, ep, t, e, h.r _ _ _ k, q⟩
  | .tup xs, _, r => by
    simp only [Rep] at r ⊢
    obtain ⟨z, a, vs, n, e, k, l⟩ := r
    exact ⟨z, a, vs, n, e, h.r _ _ _ k, RepL.mono h l⟩
  | .lst xs, _, r => by
    simp only [Rep] at r ⊢
    obtain ⟨z, a, vs, n, e, k, l⟩ := r
    exact ⟨z, a, vs, n, e, h.r _ _ _ k, RepL.mono h l⟩
theorem RepL.mono {R R' : Vw} (h : R.Le R') : ∀ {xs : List AV} {vs : List Value}, RepL R vs xs → RepL R' vs xs
  | [], [], _ => by simp [RepL]
  | [], _ :: _, r => by simp [RepL] at r
  | _ :: _, [], r => by simp [RepL] at r
  | x :: xs, v :: vs, r => by
    simp only [RepL] at r ⊢
    exact ⟨Rep.mono h r.1, RepL.mono h r.2⟩
end

theorem RepL.length {R : Vw} : ∀ {xs : List AV} {vs : List Value}, RepL R vs xs → vs.length = xs.length
  | [], [], _ => rfl
  | [], _ :: _, r => by simp [RepL] at r
  | _ :: _, [], r => by simp [RepL] at r
  | x :: xs, v :: vs, r => by
    simp only [RepL] at r
    simp [RepL.length r.2]
theorem RepL.get {R : Vw} : ∀ {xs : List AV} {vs : List Value} {i : Nat} {x : AV}, RepL R vs xs → xs[i]? = some x → ∃ v, vs[i]? = some v ∧ Rep R v x
  | [], _, _, _, _, h => by simp at h
  | _ :: _, [], _, _, r, _ => by simp [RepL] at r
  | x :: xs, v :: vs, i, y, r, h => by
    simp only [RepL] at r
    cases i with
    | zero => simp at h; subst h; exact ⟨v, by simp, r.1⟩
    | succ i => simp at h ⊢; exact RepL.get r.2 h
theorem RepL.append {R : Vw} : ∀ {xs ys : List AV} {vs ws : List Value}, RepL R vs xs → RepL R ws ys → RepL R (vs ++ ws) (xs ++ ys)
  | [], _, [], _, _, r => by simpa using r
  | [], _, _ :: _, _, r, _ => by simp [RepL] at r
  | _ :: _, _, [], _, r, _ => by simp [RepL] at r
  | x :: xs, ys, v :: vs, ws, r, q => by
    simp only [RepL, List.cons_append] at r ⊢
    exact ⟨r.1, RepL.append r.2 q⟩
theorem RepL.of_get {R : Vw} : ∀ {xs : List AV} {vs : List Value}, vs.length = xs.length → (∀ (i : Nat) x v, xs[i]? = some x → vs[i]? = some v → Rep R v x) → RepL R vs xs
  | [], [], _, _ => by simp [RepL]
  | [], _ :: _, h, _ => by simp at h
  | _ :: _, [], h, _ => by simp at h
  | x :: xs, v :: vs, h, k => by
    simp only [RepL]
    exact ⟨k 0 x v (by simp) (by simp), RepL.of_get (by simpa using h) fun i y w a b => k (i + 1) y w (by simpa using a) (by simpa using b)⟩
theorem RepL.drop {R : Vw} : ∀ {xs : List AV} {vs : List Value} (n : Nat), RepL R vs xs → RepL R (vs.drop n) (xs.drop n)
  | _, _, 0, r => by simpa using r
  | [], [], _ + 1, _ => by simp [RepL]
  | [], _ :: _, _, r => by simp [RepL] at r
  | _ :: _, [], _, r => by simp [RepL] at r
  | x :: xs, v :: vs, n + 1, r => by
    simp only [RepL] at r
    simpa using RepL.drop n r.2
theorem RepL.set {R : Vw} {x : AV} {v : Value} (q : Rep R v x) : ∀ {xs : List AV} {vs : List Value} (n : Nat), RepL R vs xs → RepL R (vs.set n v) (xs.set n x)
  | [], [], _, _ => by simp [RepL]
  | [], _ :: _, _, r => by simp [RepL] at r
  | _ :: _, [], _, r => by simp [RepL] at r
  | y :: xs, w :: vs, 0, r => by
    simp only [RepL] at r
    simp only [List.set_cons_zero, RepL]
    exact ⟨q, r.2⟩
  | y :: xs, w :: vs, n + 1, r => by
    simp only [RepL] at r
    simp only [List.set_cons_succ, RepL]
    exact ⟨r.1, RepL.set q n r.2⟩

/-- what is hidden, and the things that can turn, by number -/
structure Hd where
  p : Addr → Prop
  m : Nat → Option Addr
  o : Nat → Option Addr
  t : Tok → Option Int
noncomputable def Hd.add (H : Hd) (q : Addr → Prop) : Hd := ⟨fun b => H.p b ∨ q b, H.m, H.o, H.t⟩

noncomputable def okC (c : Value) : Prop := c = .type "list" ∨ c = .type "tuple" ∨ c = .type "range" ∨ c = .type "set" ∨ c = .type "frozenset" ∨ c = .type "dict"
noncomputable def vis (h : Heap) (H : Hd) : Vw := ⟨fun a c d => ¬ H.p a ∧ ∃ o, h.get? a = some o ∧ o.cls = c ∧ o.data = d ∧ o.dict = none ∧ okC c ∧ ((∃ fs, d = .fields fs) → o.slots = #[]), H.m, H.t⟩
/-- a list's object -/
noncomputable def IsL (h : Heap) (a : Addr) (vs : List Value) : Prop := ∃ o n, h.get? a = some o ∧ o.cls = .type "list" ∧ o.data = .seq (List.toArray vs) n ∧ o.dict = none
theorem IsL.isList {h : Heap} {a : Addr} {vs : List Value} (x : IsL h a vs) : h.IsList a (List.toArray vs) := let ⟨o, n, e, c, d, _⟩ := x; ⟨o, e, c, n, d⟩
theorem IsL.at {h h' : Heap} {a : Addr} {vs : List Value} (x : IsL h a vs) (k : ∀ o, h.get? a = some o → ∃ sl, h'.get? a = some { o with slots := sl }) : IsL h' a vs := let ⟨o, n, e, c, d, f⟩ := x; let ⟨_, q⟩ := k o e; ⟨_, n, q, c, d, f⟩
theorem IsL.at' {h h' : Heap} {a : Addr} {vs : List Value} (x : IsL h a vs) (k : ∀ o, h.get? a = some o → h'.get? a = some o) : IsL h' a vs := let ⟨o, n, e, c, d, f⟩ := x; ⟨o, n, k o e, c, d, f⟩
noncomputable def IK.cls : IK → String
  | .list => "list_iterator" | .tuple => "tuple_iterator" | .range => "range_iterator"
/-- an iterator's object, with what it goes over -/
noncomputable def IsI (h : Heap) (R : Vw) (a : Addr) (k : IK) (xs : List AV) : Prop := ∃ o, h.get? a = some o ∧ o.cls = .type k.cls ∧ match k with
  | .list => (xs = [] ∧ ∃ t, o.data = .fields #[.none, .int t 0]) ∨ ∃ l vs n i, o.data = .fields #[.ref l, .int (i : Nat) 0] ∧ R.r l (.type "list") (.seq (List.toArray vs) n) ∧ vs.length ≤ 1048576 ∧ RepL R (vs.drop i) xs
  | .tuple => (xs = [] ∧ ∃ t, o.data = .fields #[.none, .int t 0]) ∨ ∃ l vs n i, o.data = .fields #[.ref l, .int (i : Nat) 0] ∧ R.r l (.type "tuple") (.seq (List.toArray vs) n) ∧ vs.length ≤ 1048576 ∧ RepL R (vs.drop i) xs
  | .range => ∃ cur left st, IsRangeIter h a cur left st ∧ 0 ≤ left ∧ left ≤ 1048576 ∧ xs = (List.range left.toNat).map fun (i : Nat) => AV.int (cur + i * st)
noncomputable def IsS (h : Heap) (a : Addr) (fz : Bool) (xs : List Int) : Prop := ∃ o es ep t, h.get? a = some o ∧ o.cls = .type (setName fz) ∧ o.dict = none ∧ o.data = .set es ep t ∧ SetEs es t xs
noncomputable def RepM (h : Heap) (R : Vw) (a : Addr) : MO → Prop
  | .lst xs => xs.length ≤ 1048576 ∧ ∃ vs, IsL h a vs ∧ RepL R vs xs
  | .itr k xs => IsI h R a k xs
  | .set xs => IsS h a false xs
  | .tab P b => a = P ∧ ∃ ps : Array Value, h.get? a = some { cls := .none, data := .fields ps } ∧ TriplesOk ps.toList ∧ (b = true → ps = #[])

/-- kept, frames up to their slots -/
noncomputable def Kh (F : Addr → Prop) (h h' : Heap) : Prop := ∀ b o, h.get? b = some o → ((¬ F b ∨ ∃ fs, o.data = .fields fs) → h'.get? b = some o) ∧ ∃ sl, h'.get? b = some { o with slots := sl }
/-- kept, but for what is written -/
noncomputable def Kv (F W : Addr → Prop) (h h' : Heap) : Prop := ∀ b o, ¬ W b → h.get? b = some o → ((¬ F b ∨ ∃ fs, o.data = .fields fs) → h'.get? b = some o) ∧ ∃ sl, h'.get? b = some { o with slots := sl }

theorem Kh.of_keeps {F : Addr → Prop} {h h' : Heap} (k : ∀ b o, h.get? b = some o → h'.get? b = some o) : Kh F h h' := fun b o e => ⟨fun _ => k b o e, o.slots, k b o e⟩
theorem Kh.refl (F : Addr → Prop) (h : Heap) : Kh F h h := Kh.of_keeps fun _ _ e => e
theorem Kh.trans {F : Addr → Prop} {h₁ h₂ h₃ : Heap} (x : Kh F h₁ h₂) (y : Kh F h₂ h₃) : Kh F h₁ h₃ := fun b o e =>
  ⟨fun n => (y b o ((x b o e).1 n)).1 n, by obtain ⟨sl, e₂⟩ := (x b o e).2; obtain ⟨sl', e₃⟩ := (y b _ e₂).2; exact ⟨sl', e₃⟩⟩
theorem Kh.weaken {F F' : Addr → Prop} {h h' : Heap} (x : Kh F h h') (k : ∀ b o, h.get? b = some o → F b → F' b) : Kh F' h h' := fun b o e => ⟨fun n => (x b o e).1 (n.imp (fun n f => n (k b o e f)) id), (x b o e).2⟩
theorem Kh.size {F : Addr → Prop} {h h' : Heap} (x : Kh F h h') {b : Addr} {o : Obj} (e : h.get? b = some o) : b < h'.objs.size := let ⟨_, q⟩ := (x b o e).2; Heap.lt_size q
theorem Kh.ns {F : Addr → Prop} {h h' : Heap} (x : Kh F h h') {a : Addr} {m : Str → Option Value} (n : h.Ns a m) : h'.Ns a m := by
  obtain ⟨o, es, ep, e, d, r⟩ := n
  obtain ⟨sl, q⟩ := (x a o e).2
  exact ⟨_, es, ep, q, d, r⟩
theorem Kh.cell {F : Addr → Prop} {h h' : Heap} (x : Kh F h h') {a : Addr} {v : Option Value} (n : h.IsCell a v) : h'.IsCell a v := by
  obtain ⟨o, e, d⟩ := n
  obtain ⟨sl, q⟩ := (x a o e).2
  exact ⟨_, q, d⟩
theorem Kh.isL {F : Addr → Prop} {h h' : Heap} (x : Kh F h h') {a : Addr} {v : List Value} (n : IsL h a v) : IsL h' a v := n.at fun o e => (x a o e).2
theorem Kv.refl (F W : Addr → Prop) (h : Heap) : Kv F W h h := fun _ o _ e => ⟨fun _ => e, o.slots, e⟩
theorem Kv.trans {F W : Addr → Prop} {h₁ h₂ h₃ : Heap} (x : Kv F W h₁ h₂) (y : Kv F W h₂ h₃) : Kv F W h₁ h₃ := fun b o w e =>
  ⟨fun n => (y b o w ((x b o w e).1 n)).1 n, by obtain ⟨sl, e₂⟩ := (x b o w e).2; obtain ⟨sl', e₃⟩ := (y b _ w e₂).2; exact ⟨sl', e₃⟩⟩
theorem Kh.kv {F W : Addr → Prop} {h h' : Heap} (k : Kh F h h') : Kv F W h h' := fun b o _ e => k b o e
theorem Kv.kh {F W : Addr → Prop} {h h' : Heap} (k : Kv F W h h') (n : ∀ b o, h.get? b = some o → ¬ W b) : Kh F h h' := fun b o e => k b o (n b o e) e
theorem Kv.mono {F W W' : Addr → Prop} {h h' : Heap} (k : Kv F W h h') (w : ∀ b, W b → W' b) : Kv F W' h h' := fun b o n e => k b o (fun q => n (w b q)) e
theorem Kv.vis {F W : Addr → Prop} {H : Hd} {h h' : Heap} (x : Kv F W h h') (w : ∀ b, W b → H.p b) : (vis h H).Le (Mine.vis h' H) := ⟨by
  rintro a c d ⟨n, o, e, r1, r2, r3, r4, r5⟩
  by_cases hd : ∃ fs, d = .fields fs
  · exact ⟨n, o, (x a o (fun k => n (w a k)) e).1 (.inr (by rw [r2]; exact hd)), r1, r2, r3, r4, r5⟩
  · obtain ⟨sl, q⟩ := (x a o (fun k => n (w a k)) e).2
    exact ⟨n, _, q, r1, r2, r3, r4, fun z => absurd z hd⟩, fun _ _ e => e, fun _ _ e => e⟩
theorem Kv.of_sameBut {F W : Addr → Prop} {h h' : Heap} {a : Addr} (x : Heap.SameBut a h h') (w : W a) : Kv F W h h' := fun b o n e => by
  have : h'.get? b = some o := (x.2 b (fun q => n (q ▸ w))).trans e
  exact ⟨fun _ => this, o.slots, this⟩
theorem Kv.of_but {F W : Addr → Prop} {h h' : Heap} {a : Addr} (x : ∀ b o, b ≠ a → h.get? b = some o → h'.get? b = some o) (w : W a) : Kv F W h h' := fun b o n e => by
  have := x b o (fun q => n (q ▸ w)) e
  exact ⟨fun _ => this, o.slots, this⟩
theorem Kh.vis {F : Addr → Prop} {H : Hd} {h h' : Heap} (x : Kh F h h') : (vis h H).Le (Mine.vis h' H) := (x.kv (W := fun _ => False)).vis fun _ z => z.elim
theorem vis_hide {H H' : Hd} {h : Heap} (k : ∀ b, H.p b → H'.p b) (m : ∀ n a, H'.m n = some a → H.m n = some a) (t : ∀ n i, H'.t n = some i → H.t n = some i) : (vis h H').Le (vis h H) := ⟨fun _ _ _ x => ⟨fun q => x.1 (k _ q), x.2⟩, m, t⟩

/-- iterators, sets and lists stay -/
theorem IsI.kv {F W : Addr → Prop} {h h' : Heap} {R R' : Vw} {a : Addr} {k : IK} {xs : List AV} (x : IsI h R a k xs) (kv : Kv F W h h') (hw : ¬ W a) (le : R.Le R') : IsI h' R' a k xs := by
  obtain ⟨o, e, c, r⟩ := x
  have fl : (∃ fs, o.data = .fields fs) → h'.get? a = some o := fun z => (kv a o hw e).1 (.inr z)
  cases k with
  | list =>
    rcases r with ⟨rfl, t, d⟩ | ⟨l, vs, n, i, d, v, z, q⟩
    · exact ⟨o, fl ⟨_, d⟩, c, .inl ⟨rfl, t, d⟩⟩
    · exact ⟨o, fl ⟨_, d⟩, c, .inr ⟨l, vs, n, i, d, le.r _ _ _ v, z, RepL.mono le q⟩⟩
  | tuple =>
    rcases r with ⟨rfl, t, d⟩ | ⟨l, vs, n, i, d, v, z, q⟩
    · exact ⟨o, fl ⟨_, d⟩, c, .inl ⟨rfl, t, d⟩⟩
    · exact ⟨o, fl ⟨_, d⟩, c, .inr ⟨l, vs, n, i, d, le.r _ _ _ v, z, RepL.mono le q⟩⟩
  | range =>
    obtain ⟨cur, left, st, it, z1, z2, q⟩ := r
    have e2 : h.get? a = _ := it
    rw [e] at e2
    cases e2
    exact ⟨_, fl ⟨_, rfl⟩, c, cur, left, st, fl ⟨_, rfl⟩, z1, z2, q⟩
theorem IsS.kv {F W : Addr → Prop} {h h' : Heap} {a : Addr} {fz : Bool} {xs : List Int} (x : IsS h a fz xs) (kv : Kv F W h h') (hw : ¬ W a) : IsS h' a fz xs := by
  obtain ⟨o, es, ep, t, e, c, dn, d, r⟩ := x
  obtain ⟨sl, q⟩ := (kv a o hw e).2
  exact ⟨_, es, ep, t, q, c, dn, d, r⟩
theorem RepM.kv {F W : Addr → Prop} {h h' : Heap} {R R' : Vw} {a : Addr} (kv : Kv F W h h') (hw : ¬ W a) (le : R.Le R') : ∀ {mo : MO}, RepM h R a mo → RepM h' R' a mo
  | .lst _, ⟨z, vs, l, r⟩ => ⟨z, vs, l.at fun o e => (kv a o hw e).2, RepL.mono le r⟩
  | .itr _ _, r => IsI.kv r kv hw le
  | .set _, r => IsS.kv r kv hw
  | .tab _ _, ⟨e, ps, g, r⟩ => ⟨e, ps, (kv a _ hw g).1 (.inr ⟨ps, rfl⟩), r⟩
/-- what can turn is no frame's part -/
theorem RepM.data {h : Heap} {R : Vw} {a : Addr} : ∀ {mo : MO}, RepM h R a mo → ∃ o, h.get? a = some o ∧ (∀ es ep, o.data ≠ .dict es ep) ∧ (∀ v, o.data ≠ .cell v) ∧ (∀ f, o.data ≠ .func f)
  | .lst _, ⟨_, _, ⟨o, n, e, _, d, _⟩, _⟩ => ⟨o, e, fun _ _ z => by (rw [d] at z; cases z), fun _ z => by (rw [d] at z; cases z), fun _ z => by (rw [d] at z; cases z)⟩
  | .set _, ⟨o, es, ep, t, e, _, _, d, _⟩ => ⟨o, e, fun _ _ z => by (rw [d] at z; cases z), fun _ z => by (rw [d] at z; cases z), fun _ z => by (rw [d] at z; cases z)⟩
  | .tab _ _, ⟨_, ps, g, _⟩ => by
    refine ⟨_, g, fun _ _ z => ?_, fun _ z => ?_, fun _ z => ?_⟩ <;> cases z
  | .itr k _, r => by
    obtain ⟨o, e, _, r⟩ := r
    have : ∃ fs, o.data = .fields fs := by
      cases k with
      | list => rcases r with ⟨_, t, d⟩ | ⟨l, vs, n, i, d, _⟩ <;> exact ⟨_, d⟩
      | tuple => rcases r with ⟨_, t, d⟩ | ⟨l, vs, n, i, d, _⟩ <;> exact ⟨_, d⟩
      | range =>
        obtain ⟨cur, left, st, it, _⟩ := r
        have e2 : h.get? a = _ := it
        rw [e] at e2; cases e2
        exact ⟨_, rfl⟩
    obtain ⟨fs, d⟩ := this
    exact ⟨o, e, fun _ _ z => by (rw [d] at z; cases z), fun _ z => by (rw [d] at z; cases z), fun _ z => by (rw [d] at z; cases z)⟩

/-- what the law's run stands upon -/
structure Cx where
  prog : Program
  w : World
  h0 : Heap
  mg : Str → Option Value
  mb : Str → Option Value
  g : h0.Ns mainGlobals mg
  b : h0.Ns builtinsNs mb
  builtins : ∀ x : Str, x ≠ "__name__" → mb x = bootBuiltins x
  nolimit : h0.NoLimit

abbrev Cx.M (c : Cx) : Model := model c.prog c.w

/-- the frames' own addresses -/
noncomputable def FrA (A : Around) (b : Addr) : Prop := ∃ l, A.frames = some l ∧ b ∈ l.filterMap (·.frame)

/-- one state after another, nothing turned -/
noncomputable def Kp (A : Around) (s s' : Shared) : Prop := ∃ h' tk, s' = { s with heap := h', toks := tk } ∧ s.toks ≤ tk ∧ Kh (FrA A) s.heap h'
theorem Kp.refl (A : Around) (s : Shared) : Kp A s s := ⟨s.heap, s.toks, rfl, Nat.le_refl _, Kh.refl _ _⟩
theorem Kp.trans {A : Around} {s₁ s₂ s₃ : Shared} (x : Kp A s₁ s₂) (y : Kp A s₂ s₃) : Kp A s₁ s₃ := by
  obtain ⟨h, t, rfl, l, k⟩ := x
  obtain ⟨h', t', rfl, l', k'⟩ := y
  exact ⟨h', t', rfl, Nat.le_trans l l', k.trans k'⟩
theorem Kp.kh {A : Around} {s s' : Shared} (x : Kp A s s') : Kh (FrA A) s.heap s'.heap := by
  obtain ⟨h, t, rfl, _, k⟩ := x
  exact k
theorem Kp.tk {A : Around} {s s' : Shared} (x : Kp A s s') : s.toks ≤ s'.toks := by
  obtain ⟨h, t, rfl, l, k⟩ := x
  exact l
theorem Kp.of {A : Around} {s : Shared} {h' : Heap} {tk : Nat} (l : s.toks ≤ tk) (k : ∀ b o, s.heap.get? b = some o → h'.get? b = some o) : Kp A s { s with heap := h', toks := tk } := ⟨h', tk, rfl, l, Kh.of_keeps k⟩
theorem Kp.toks {A : Around} {s : Shared} {tk : Nat} (l : s.toks ≤ tk) : Kp A s { s with toks := tk } := ⟨s.heap, tk, rfl, l, Kh.refl _ _⟩
theorem Kp.toks1 {A : Around} {s : Shared} : Kp A s { s with toks := s.toks + 1 } := Kp.toks (Nat.le_succ _)
theorem Kp.heap {A : Around} {s : Shared} {h' : Heap} (k : ∀ b o, s.heap.get? b = some o → h'.get? b = some o) : Kp A s { s with heap := h' } := Kp.of (Nat.le_refl _) k
/-- how a frame began: its heap, what was hidden, what of it may be written -/
structure FE where
  h : Heap
  H : Hd
  w : Addr → Prop

/-- a slot: a value, or a list that the frame alone holds -/
inductive Ent where
  | val (v : AV)
  | own (xs : List AV)
deriving Inhabited
noncomputable def RepE (h : Heap) (H : Hd) (i : Nat) (v : Value) : Ent → Prop
  | .val av => Rep (vis h H) v av
  | .own xs => xs.length ≤ 1048576 ∧ ∃ a vs, v = .ref a ∧ H.o i = some a ∧ IsL h a vs ∧ RepL (vis h H) vs xs
theorem RepE.mono {h h' : Heap} {H H' : Hd} {i : Nat} {v : Value} (le : (vis h H).Le (vis h' H')) (ho : ∀ a, H.o i = some a → H'.o i = some a) (hl : ∀ a vs, H.o i = some a → IsL h a vs → IsL h' a vs) : ∀ {t : Ent}, RepE h H i v t → RepE h' H' i v t
  | .val _, r => Rep.mono le r
  | .own _, ⟨z, a, vs, e, o, l, r⟩ => ⟨z, a, vs, e, ho a o, hl a vs o l, RepL.mono le r⟩

/-- a frame's state: slots, what can turn, from where on it may be written, how many there were -/
structure Fs where
  ρ : List (Option Ent)
  σ : List (Option MO)
  lo : Nat
  n0 : Nat

noncomputable def NV (h : Heap) (env : Env) (x : Str) (v : Value) : Prop :=
  (env.kindOf x = some .local ∧ ∃ m, h.Ns env.locals m ∧ m x = some v) ∨ (env.kindOf x = some .cell ∧ ∃ cc, env.cells.lookup x = some cc ∧ h.IsCell cc (some v))

theorem Ns_uniq {h : Heap} {a : Addr} {m m' : Str → Option Value} (x : h.Ns a m) (y : h.Ns a m') : m = m' := by
  obtain ⟨o, es, ep, e, d, _, r⟩ := x
  obtain ⟨o', es', ep', e', d', _, r'⟩ := y
  rw [e] at e'; cases e'
  rw [d] at d'; cases d'
  funext n
  rw [← r n, ← r' n]
theorem NV.kh {F : Addr → Prop} {h h' : Heap} {env : Env} {x : Str} {v : Value} (k : Kh F h h') (a : NV h env x v) : NV h' env x v := by
  rcases a with ⟨kk, m, n, e⟩ | ⟨kk, cc, n, e⟩
  · exact .inl ⟨kk, m, k.ns n, e⟩
  · exact .inr ⟨kk, cc, n, k.cell e⟩

/-- the things that can turn stand in the heap -/
structure Sto (σ : List (Option MO)) (H : Hd) (h : Heap) : Prop where
  at' : ∀ n mo, σ[n]? = some (some mo) → ∃ a, H.m n = some a ∧ RepM h (vis h H) a mo
  inj : ∀ n n' a, H.m n = some a → H.m n' = some a → n = n'
  lt : ∀ n a, H.m n = some a → n < σ.length
  hid : ∀ n a mo, σ[n]? = some (some mo) → H.m n = some a → H.p a
  al : ∀ n a, H.m n = some a → ∃ o, h.get? a = some o
  tot : ∀ n a, H.m n = some a → ∃ mo, σ[n]? = some (some mo)
theorem Sto.kh {F : Addr → Prop} {σ : List (Option MO)} {H : Hd} {h h' : Heap} (S : Sto σ H h) (k : Kh F h h') : Sto σ H h' :=
  ⟨fun n mo e => let ⟨a, q, r⟩ := S.at' n mo e; ⟨a, q, r.kv (k.kv (W := fun _ => False)) id k.vis⟩, S.inj, S.lt, S.hid, fun n a e => let ⟨_, q⟩ := S.al n a e; let ⟨_, q'⟩ := (k a _ q).2; ⟨_, q'⟩, S.tot⟩

/-- a frame -/
structure Fm (c : Cx) (F : Addr → Prop) (names : List Str) (env : Env) (st : Fs) (fe : FE) (H : Hd) (h : Heap) : Prop where
  keep : Kv F fe.w fe.h h
  wsub : ∀ b, fe.w b → fe.H.p b
  base : c.h0.StaysIn fe.h
  baseF : ∀ b, F b → c.h0.get? b = none
  basew : ∀ b, fe.w b → c.h0.get? b = none
  hle : ∀ b, fe.H.p b → H.p b
  mle : ∀ n a, fe.H.m n = some a → H.m n = some a
  mold : ∀ n a, n < st.n0 → H.m n = some a → fe.H.m n = some a
  mnew : ∀ n a, st.n0 ≤ n → H.m n = some a → fe.h.get? a = none
  mw : ∀ n a mo, n < st.n0 → st.lo ≤ n → st.σ[n]? = some (some mo) → H.m n = some a → fe.w a
  hlt : ∀ b, H.p b → ∃ o, h.get? b = some o
  felt : ∀ b, fe.H.p b → ∃ o, fe.h.get? b = some o
  wlt : ∀ b, fe.w b → ∃ o, fe.h.get? b = some o
  kind : env.scope.kind = .function
  glob : env.globals = mainGlobals
  bi : env.builtins = builtinsNs
  code : ∃ cd o vs, env.code = .ref cd ∧ c.h0.get? cd = some o ∧ o.data = .fields vs
  ns : ∃ m, h.Ns env.locals m
  hl : H.p env.locals
  lnew : fe.h.get? env.locals = none
  hc : ∀ x cc, env.kindOf x = some .cell → env.cells.lookup x = some cc → H.p cc ∧ fe.h.get? cc = none
  cl : ∀ x, env.kindOf x = some .cell → ∃ cc v, env.cells.lookup x = some cc ∧ h.IsCell cc v
  capart : ∀ x y cc, env.cells.lookup x = some cc → env.cells.lookup y = some cc → x = y
  vals : ∀ (i : Nat) x t, names[i]? = some x → st.ρ[i]? = some (some t) → ∃ v, NV h env x v ∧ RepE h H i v t
  own : ∀ i a, H.o i = some a → H.p a ∧ fe.h.get? a = none ∧ (∀ n, H.m n ≠ some a) ∧ ∃ vs, IsL h a vs
  oinj : ∀ i j a, H.o i = some a → H.o j = some a → i = j
  sto : Sto st.σ H h
  mh0 : ∀ n a, H.m n = some a → c.h0.get? a = none
  n0le : st.n0 ≤ st.σ.length
  tle : ∀ n i, fe.H.t n = some i → H.t n = some i

theorem Kv.nw {F W : Addr → Prop} {h h' : Heap} (k : Kv F W h h') (n : ∀ b, W b → ∃ o, h'.get? b = some o) {b : Addr} {o : Obj} (e : h.get? b = some o) : ∃ o', h'.get? b = some o' := by
  by_cases w : W b
  · exact n b w
  · obtain ⟨sl, q⟩ := (k b o w e).2; exact ⟨_, q⟩
theorem none_back {F : Addr → Prop} {h h' : Heap} (k : Kh F h h') {b : Addr} (e : h'.get? b = none) : h.get? b = none := by
  cases q : h.get? b with
  | none => rfl
  | some o => obtain ⟨sl, r⟩ := (k b o q).2; rw [e] at r; cases r

theorem Fm.step {c : Cx} {F : Addr → Prop} {names : List Str} {env : Env} {st : Fs} {fe : FE} {H : Hd} {h h' : Heap} (X : Fm c F names env st fe H h) (k : Kh F h h') : Fm c F names env st fe H h' where
  keep := X.keep.trans k.kv
  wsub := X.wsub
  base := X.base
  baseF := X.baseF
  basew := X.basew
  hle := X.hle
  mle := X.mle
  mold := X.mold
  mnew := X.mnew
  mw := X.mw
  hlt := fun b q => let ⟨o, e⟩ := X.hlt b q; let ⟨sl, e'⟩ := (k b o e).2; ⟨_, e'⟩
  felt := X.felt
  wlt := X.wlt
  kind := X.kind
  glob := X.glob
  bi := X.bi
  code := X.code
  ns := let ⟨m, n⟩ := X.ns; ⟨m, k.ns n⟩
  hl := X.hl
  lnew := X.lnew
  hc := X.hc
  cl := fun x q => let ⟨cc, v, e, n⟩ := X.cl x q; ⟨cc, v, e, k.cell n⟩
  capart := X.capart
  vals := fun i x t a b => let ⟨v, n, r⟩ := X.vals i x t a b; ⟨v, n.kh k, r.mono k.vis (fun _ e => e) fun a vs _ l => k.isL l⟩
  own := fun i a e => let ⟨p, q, r, vs, l⟩ := X.own i a e; ⟨p, q, r, vs, k.isL l⟩
  oinj := X.oinj
  sto := X.sto.kh k
  mh0 := X.mh0
  n0le := X.n0le
  tle := X.tle
end Mine
end
section
open PySem PySem.W PyProof.Rows
namespace Mine

/-- the exceptions that are served -/
inductive EX where
  | zde | ofe | te | ve | ae
deriving DecidableEq, Inhabited
noncomputable def EX.name : EX → String
  | zde => "ZeroDivisionError" | ofe => "OverflowError" | te => "TypeError" | ve => "ValueError" | ae => "AttributeError"

inductive Res where
  | ok (v : AV)
  | exc (cls : EX)
  | stuck
deriving Inhabited

/-- what the marks tell lies behind -/
noncomputable def Td (H : Hd) (s : Shared) : Prop := ∀ t i, H.t t = some i → t < s.toks
structure Rm (c : Cx) (q : Bool) (k : Nat) (A : Around) (H : Hd) (s : Shared) : Prop where
  depth : A.depth + k < recursionLimit
  units : A.units + 8 * k < cLine
  hand : q = true → A.handled = none
  frames : ∃ l, A.frames = some l ∧ s.heap.FunFrames c.h0 l
  tok : 0 < s.toks
  td : Td H s

/-- frames' tables stay tables, marks rise -/
noncomputable def Nh (h h' : Heap) : Prop := ∀ b o, h.get? b = some o → (∀ vs, o.data ≠ .fields vs) → ∃ o', h'.get? b = some o' ∧ ∀ vs, o'.data ≠ .fields vs
noncomputable def Nf (H : Hd) (s : Shared) (H' : Hd) (s' : Shared) : Prop := Nh s.heap s'.heap ∧ s.toks ≤ s'.toks ∧ (Td H s → Td H' s')
theorem Kh.nh {F : Addr → Prop} {h h' : Heap} (k : Kh F h h') : Nh h h' := fun b o e n => by
  obtain ⟨sl, q⟩ := (k b o e).2
  exact ⟨_, q, n⟩
theorem Td.le {H : Hd} {s s' : Shared} (l : s.toks ≤ s'.toks) (x : Td H s) : Td H s' := fun t i e => Nat.lt_of_lt_of_le (x t i e) l
theorem Nf.same {H : Hd} {s s' : Shared} (n : Nh s.heap s'.heap) (l : s.toks ≤ s'.toks) : Nf H s H s' := ⟨n, l, Td.le l⟩
theorem Kp.nf {A : Around} {H : Hd} {s s' : Shared} (k : Kp A s s') : Nf H s H s' := ⟨k.kh.nh, k.tk, Td.le k.tk⟩
theorem Nh.trans {h₁ h₂ h₃ : Heap} (x : Nh h₁ h₂) (y : Nh h₂ h₃) : Nh h₁ h₃ := fun b o e n => let ⟨o', e', n'⟩ := x b o e n; y b o' e' n'
theorem Nf.trans {H₁ H₂ H₃ : Hd} {h₁ h₂ h₃ : Shared} (x : Nf H₁ h₁ H₂ h₂) (y : Nf H₂ h₂ H₃ h₃) : Nf H₁ h₁ H₃ h₃ := ⟨x.1.trans y.1, Nat.le_trans x.2.1 y.2.1, fun z => y.2.2 (x.2.2 z)⟩
theorem Nh.frames {h h' base : Heap} (k : Nh h h') : ∀ {l : List Env}, h.FunFrames base l → h'.FunFrames base l
  | [], _ => trivial
  | _ :: _, ⟨hk, ⟨L, o, hf, hn, ho, hd⟩, hr⟩ => by
    obtain ⟨o', e', n'⟩ := k L o ho hd
    exact ⟨hk, ⟨L, o', hf, hn, e', n'⟩, Nh.frames k hr⟩
theorem Rm.nf {c : Cx} {q : Bool} {k : Nat} {A : Around} {H H' : Hd} {s s' : Shared} (X : Rm c q k A H s) (n : Nf H s H' s') : Rm c q k A H' s' :=
  ⟨X.depth, X.units, X.hand, let ⟨l, a, b⟩ := X.frames; ⟨l, a, n.1.frames b⟩, Nat.lt_of_lt_of_le X.tok n.2.1, n.2.2 X.td⟩
theorem Rm.kp {c : Cx} {q : Bool} {k : Nat} {A : Around} {H : Hd} {s s' : Shared} (X : Rm c q k A H s) (n : Kp A s s') : Rm c q k A H s' := X.nf n.nf
theorem Rm.t0 {c : Cx} {q : Bool} {k : Nat} {A : Around} {H : Hd} {s : Shared} (X : Rm c q k A H s) : s.toks ≠ 0 := Nat.ne_of_gt X.tok
/-- what is hidden may change, not what the marks tell -/
theorem Rm.hd {c : Cx} {q : Bool} {k : Nat} {A : Around} {H H' : Hd} {s : Shared} (X : Rm c q k A H s) (e : H'.t = H.t) : Rm c q k A H' s := ⟨X.depth, X.units, X.hand, X.frames, X.tok, fun t i h => X.td t i (by rw [← e]; exact h)⟩
/-- one more mark told -/
noncomputable def Hd.tell (H : Hd) (t : Tok) (i : Int) : Hd := ⟨H.p, H.m, H.o, fun n => if n = t then some i else H.t n⟩
noncomputable def Hd.wt (H : Hd) (T : Tok → Option Int) : Hd := ⟨H.p, H.m, H.o, T⟩
/-- one state after another, nothing turned, more marks told -/
structure Kt (A : Around) (H : Hd) (s : Shared) (H' : Hd) (s' : Shared) : Prop where
  kp : Kp A s s'
  e : H' = H.wt H'.t
  te : ∀ n i, H.t n = some i → H'.t n = some i
  td : Td H s → Td H' s'
theorem Kt.of {A : Around} {H : Hd} {s s' : Shared} (k : Kp A s s') : Kt A H s H s' := ⟨k, rfl, fun _ _ e => e, Td.le k.tk⟩
theorem Kt.trans {A : Around} {H H' H'' : Hd} {s s' s'' : Shared} (x : Kt A H s H' s') (y : Kt A H' s' H'' s'') : Kt A H s H'' s'' := ⟨x.kp.trans y.kp, y.e.trans (by rw [x.e]; rfl), fun n i e => y.te n i (x.te n i e), fun z => y.td (x.td z)⟩
theorem Kt.tell {A : Around} {H : Hd} {s s' : Shared} (k : Kp A s s') {t : Tok} {i : Int} (d : Td H s) (h1 : s.toks ≤ t) (h2 : t < s'.toks) : Kt A H s (H.tell t i) s' :=
  ⟨k, rfl, fun n j e => by
    show (if n = t then some i else H.t n) = some j
    rw [if_neg (fun z => by have := d n j e; rw [z] at this; exact absurd this (Nat.not_lt.mpr h1))]; exact e, fun _ n j e => by
    have e : (if n = t then some i else H.t n) = some j := e
    split at e
    · rename_i z; rw [z]; exact h2
    · exact Nat.lt_of_lt_of_le (d n j e) k.tk⟩
theorem Kt.nf {A : Around} {H H' : Hd} {s s' : Shared} (x : Kt A H s H' s') : Nf H s H' s' := ⟨x.kp.kh.nh, x.kp.tk, x.td⟩
theorem Kt.p {A : Around} {H H' : Hd} {s s' : Shared} (x : Kt A H s H' s') : H'.p = H.p := by rw [x.e]; rfl
theorem Kt.m {A : Around} {H H' : Hd} {s s' : Shared} (x : Kt A H s H' s') : H'.m = H.m := by rw [x.e]; rfl
theorem Kt.o {A : Around} {H H' : Hd} {s s' : Shared} (x : Kt A H s H' s') : H'.o = H.o := by rw [x.e]; rfl
theorem vis_wt {H H' : Hd} {h : Heap} (p : H'.p = H.p) (m : H'.m = H.m) (te : ∀ n i, H.t n = some i → H'.t n = some i) : (vis h H).Le (vis h H') := ⟨fun _ _ _ x => ⟨by rw [p]; exact x.1, x.2⟩, fun n a e => by show H'.m n = _; rw [m]; exact e, te⟩
theorem Kt.vis {A : Around} {H H' : Hd} {s s' : Shared} (x : Kt A H s H' s') : (vis s.heap H).Le (Mine.vis s'.heap H') := x.kp.kh.vis.trans (vis_wt x.p x.m x.te)
theorem Rep.kt {A : Around} {H H' : Hd} {s s' : Shared} {v : Value} {x : AV} (k : Kt A H s H' s') (r : Rep (Mine.vis s.heap H) v x) : Rep (Mine.vis s'.heap H') v x := Rep.mono k.vis r
theorem RepL.kt {A : Around} {H H' : Hd} {s s' : Shared} {v : List Value} {x : List AV} (k : Kt A H s H' s') (r : RepL (Mine.vis s.heap H) v x) : RepL (Mine.vis s'.heap H') v x := RepL.mono k.vis r
theorem Sto.wt {σ : List (Option MO)} {H H' : Hd} {h : Heap} (S : Sto σ H h) (p : H'.p = H.p) (m : H'.m = H.m) (te : ∀ n i, H.t n = some i → H'.t n = some i) : Sto σ H' h where
  at' := fun n mo e => let ⟨a, q, r⟩ := S.at' n mo e; ⟨a, by rw [m]; exact q, r.kv (Kv.refl (fun _ => False) (fun _ => False) _) id (vis_wt p m te)⟩
  inj := fun n n' a e e' => S.inj n n' a (by rw [← m]; exact e) (by rw [← m]; exact e')
  lt := fun n a e => S.lt n a (by rw [← m]; exact e)
  hid := fun n a mo e e' => by rw [p]; exact S.hid n a mo e (by rw [← m]; exact e')
  al := fun n a e => S.al n a (by rw [← m]; exact e)
  tot := fun n a e => S.tot n a (by rw [← m]; exact e)
theorem Sto.kt {A : Around} {σ : List (Option MO)} {H H' : Hd} {s s' : Shared} (S : Sto σ H s.heap) (k : Kt A H s H' s') : Sto σ H' s'.heap := (S.kh k.kp.kh).wt k.p k.m k.te
theorem Fm.kp {c : Cx} {A : Around} {names : List Str} {env : Env} {st : Fs} {fe : FE} {H : Hd} {s s' : Shared} (X : Fm c (FrA A) names env st fe H s.heap) (k : Kp A s s') : Fm c (FrA A) names env st fe H s'.heap := X.step k.kh

/-- an exception that this very frame holds -/
noncomputable def XHeld (A : Around) (s s' : Shared) (e : Addr) (cls : EX) (a0 : Value) : Prop := ∃ env outer L B, A.frames = some (env :: outer) ∧ env.frame = some L ∧ Heap.HeldW B (env :: outer) e (.type cls.name) a0 L s'.heap ∧
  ∀ b o, s'.heap.get? b = some o → (∃ o', s.heap.get? b = some o') → b ∉ (env :: outer).filterMap (·.frame) → B.get? b = some o
/-- an exception that has come up from s to s' -/
noncomputable def Xp (A : Around) (s s' : Shared) (x : Value) (cls : EX) : Prop :=
  ∃ e a0, x = .ref e ∧ Kp A s s' ∧ s.heap.get? e = none ∧
    ((∃ ob, s'.heap.get? e = some ob ∧ ob.cls = .type cls.name ∧ ob.data = .fields #[a0, .none, .none, .none, .bool false, .none]) ∨ s'.heap.TracedW s.heap e (.type cls.name) a0 ∨ XHeld A s s' e cls a0)

theorem Xp.trans {A : Around} {s₁ s₂ s₃ : Shared} {x : Value} {cls : EX} (k : Kp A s₁ s₂) (X : Xp A s₂ s₃ x cls) : Xp A s₁ s₃ x cls := by
  obtain ⟨e, a0, rfl, k', n, r⟩ := X
  refine ⟨e, a0, rfl, k.trans k', none_back k.kh n, r.imp id fun t => t.imp (fun t => ?_) fun t => ?_⟩
  · obtain ⟨oe, vs, T, oT, ts, he, hc, hd, h1, hT, r⟩ := t
    exact ⟨oe, vs, T, oT, ts, he, hc, hd, h1, none_back k.kh hT, r⟩
  · obtain ⟨env, outer, L, B, h1, h2, h3, h4⟩ := t
    exact ⟨env, outer, L, B, h1, h2, h3, fun b o q ⟨o', q'⟩ => h4 b o q (let ⟨_, z⟩ := (k.kh b o' q').2; ⟨_, z⟩)⟩

noncomputable def Post (q : Bool) (A : Around) (H : Hd) (r : Res) (s : Shared) (Q : Value → Shared → Prop) (E : Value → Shared → Prop) : Prop :=
  match r with
  | .ok av => ∀ v s' H', Kt A H s H' s' → Rep (vis s'.heap H') v av → Q v s'
  | .exc cls => q = true ∧ ∀ x s', Xp A s s' x cls → E x s'
  | .stuck => False

theorem Post.old {q : Bool} {A : Around} {H : Hd} {av : AV} {s s' : Shared} {v : Value} {Q E : Value → Shared → Prop} (P : Post q A H (.ok av) s Q E) (k : Kp A s s') (r : Rep (vis s'.heap H) v av) : Q v s' := P v s' H (Kt.of k) r
theorem Post.int {c : Cx} {q q' : Bool} {k : Nat} {A A' : Around} {H : Hd} {i : Int} {s s' : Shared} {t : Tok} {Q E : Value → Shared → Prop} (hm : Rm c q' k A' H s) (P : Post q A H (.ok (.int i)) s Q E) (k : Kp A s s') (h1 : s.toks ≤ t) (h2 : t < s'.toks) : Q (.int i t) s' :=
  P _ s' (H.tell t i) (Kt.tell k hm.td h1 h2) ⟨t, rfl, Nat.ne_of_gt (Nat.lt_of_lt_of_le hm.tok h1), if_pos rfl⟩
theorem Post.int1 {c : Cx} {q q' : Bool} {k : Nat} {A A' : Around} {H : Hd} {i : Int} {s : Shared} {Q E : Value → Shared → Prop} (hm : Rm c q' k A' H s) (P : Post q A H (.ok (.int i)) s Q E) : Q (.int i s.toks) { s with toks := s.toks + 1 } :=
  Post.int hm P Kp.toks1 (Nat.le_refl _) (Nat.lt_succ_self _)
theorem Post.kp {q : Bool} {A : Around} {H : Hd} {r : Res} {s s' : Shared} {Q E : Value → Shared → Prop} (P : Post q A H r s Q E) (k : Kp A s s') : Post q A H r s' Q E := by
  cases r with
  | ok av => exact fun v s'' H' k' R => P v s'' H' ((Kt.of k).trans k') R
  | exc cls => exact ⟨P.1, fun x s'' X => P.2 x s'' (X.trans k)⟩
  | stuck => exact P

/-- hidden things live -/
noncomputable def Live (H : Hd) (h : Heap) : Prop := ∀ b, H.p b → ∃ o, h.get? b = some o
theorem Live.kp {A : Around} {H : Hd} {s s' : Shared} (L : Live H s.heap) (k : Kp A s s') : Live H s'.heap := fun b q => by
  obtain ⟨o, e⟩ := L b q
  obtain ⟨sl, r⟩ := (k.kh b o e).2
  exact ⟨_, r⟩
theorem Live.fresh {H : Hd} {h : Heap} (L : Live H h) : ¬ H.p h.objs.size := fun q => by
  obtain ⟨o, e⟩ := L _ q
  exact absurd (Heap.lt_size e) (Nat.lt_irrefl _)
theorem Live.kt {A : Around} {H H' : Hd} {s s' : Shared} (L : Live H s.heap) (k : Kt A H s H' s') : Live H' s'.heap := fun b q => L.kp k.kp b (by rw [← k.p]; exact q)
theorem Rep.kp {A : Around} {H : Hd} {s s' : Shared} {v : Value} {x : AV} (r : Rep (vis s.heap H) v x) (k : Kp A s s') : Rep (vis s'.heap H) v x := Rep.mono k.kh.vis r
theorem RepL.kp {A : Around} {H : Hd} {s s' : Shared} {v : List Value} {x : List AV} (r : RepL (vis s.heap H) v x) (k : Kp A s s') : RepL (vis s'.heap H) v x := RepL.mono k.kh.vis r

/-- a tree that comes to r -/
noncomputable def Tr (c : Cx) (q : Bool) (A : Around) (H : Hd) (t : Sem Value) (r : Res) (s : Shared) : Prop := ∀ Q E, Post q A H r s Q E → wpAny c.M A t Q E s
/-- a test that comes to b -/
noncomputable def TrB (c : Cx) (A : Around) (t : Sem Bool) (b : Bool) (s : Shared) : Prop := ∀ Q E, (∀ s', Kp A s s' → Q b s') → wpAny c.M A t Q E s

/-- the thing itself may be hidden -/
noncomputable def RepO (h : Heap) (H : Hd) (v : Value) : AV → Prop
  | .lst xs => xs.length ≤ 1048576 ∧ ∃ a vs, v = .ref a ∧ IsL h a vs ∧ RepL (vis h H) vs xs
  | .itr k xs => ∃ a, v = .ref a ∧ IsI h (vis h H) a k xs
  | .set fz xs => ∃ a, v = .ref a ∧ IsS h a fz xs
  | x => Rep (vis h H) v x
theorem RepO.of {h : Heap} {H : Hd} {v : Value} : ∀ {x : AV}, Rep (vis h H) v x → RepO h H v x
  | .lst xs, r => by
    simp only [Rep] at r
    obtain ⟨z, a, vs, n, e, ⟨_, o, q, k, d, f, _⟩, l⟩ := r
    exact ⟨z, a, vs, e, ⟨o, n, q, k, d, f⟩, l⟩
  | .set fz xs, r => by
    simp only [Rep] at r
    obtain ⟨a, es, ep, t, e, ⟨_, o, q, k, d, f, _⟩, l⟩ := r
    exact ⟨a, e, o, es, ep, t, q, k, f, d, l⟩
  | .itr _ _, r => by simp [Rep] at r
  | .none, r | .bool _, r | .int _, r | .float _, r | .str _, r | .bytes _, r | .type _, r | .range _ _ _, r | .tup _, r | .ptr _, r | .fn _, r | .dict _, r | .any, r => r
theorem RepO.kp {A : Around} {H : Hd} {s s' : Shared} {v : Value} (k : Kp A s s') : ∀ {x : AV}, RepO s.heap H v x → RepO s'.heap H v x
  | .lst _, ⟨z, a, vs, e, l, r⟩ => ⟨z, a, vs, e, k.kh.isL l, r.kp k⟩
  | .itr _ _, ⟨a, e, l⟩ => ⟨a, e, l.kv (k.kh.kv (W := fun _ => False)) id k.kh.vis⟩
  | .set _ _, ⟨a, e, l⟩ => ⟨a, e, l.kv (k.kh.kv (W := fun _ => False)) id⟩
  | .none, r | .bool _, r | .int _, r | .float _, r | .str _, r | .bytes _, r | .type _, r | .range _ _ _, r | .tup _, r | .ptr _, r | .fn _, r | .dict _, r | .any, r => Rep.kp (x := _) r k

theorem RepO.wt {h : Heap} {H H' : Hd} {v : Value} (le : (vis h H).Le (vis h H')) : ∀ {x : AV}, RepO h H v x → RepO h H' v x
  | .lst _, ⟨z, a, vs, e, l, r⟩ => ⟨z, a, vs, e, l, RepL.mono le r⟩
  | .itr _ _, ⟨a, e, l⟩ => ⟨a, e, l.kv (Kv.refl (fun _ => False) (fun _ => False) _) id le⟩
  | .set _ _, r => r
  | .none, r | .bool _, r | .int _, r | .float _, r | .str _, r | .bytes _, r | .type _, r | .range _ _ _, r | .tup _, r | .ptr _, r | .fn _, r | .dict _, r | .any, r => Rep.mono (x := _) le r
theorem RepO.kt {A : Around} {H H' : Hd} {s s' : Shared} {v : Value} {x : AV} (k : Kt A H s H' s') (r : RepO s.heap H v x) : RepO s'.heap H' v x := (r.kp k.kp).wt (vis_wt k.p k.m k.te)
/-- what stands behind a number -/
noncomputable def deref (σ : List (Option MO)) : AV → AV
  | .ptr n => match σ[n]? with
    | some (some (.lst xs)) => .lst xs
    | some (some (.itr k xs)) => .itr k xs
    | some (some (.set xs)) => .set false xs
    | _ => .ptr n
  | x => x
theorem RepO.deref {h : Heap} {H : Hd} {σ : List (Option MO)} {v : Value} {x : AV} (S : Sto σ H h) (r : Rep (vis h H) v x) : RepO h H v (deref σ x) := by
  cases x with
  | ptr n =>
    simp only [Rep] at r
    obtain ⟨a, e, rfl⟩ := id r
    have ed : Mine.deref σ (.ptr n) = match σ[n]? with
      | some (some (.lst xs)) => .lst xs
      | some (some (.itr k xs)) => .itr k xs
      | some (some (.set xs)) => .set false xs
      | _ => .ptr n := rfl
    rw [ed]
    split
    · rename_i xs hs
      obtain ⟨b, q, z, vs, l, rr⟩ := S.at' _ _ hs
      have q' : H.m n = some a := e
      rw [q] at q'; cases q'
      exact ⟨z, _, vs, rfl, l, rr⟩
    · rename_i k xs hs
      obtain ⟨b, q, l⟩ := S.at' _ _ hs
      have q' : H.m n = some a := e
      rw [q] at q'; cases q'
      exact ⟨_, rfl, l⟩
    · rename_i xs hs
      obtain ⟨b, q, l⟩ := S.at' _ _ hs
      have q' : H.m n = some a := e
      rw [q] at q'; cases q'
      exact ⟨_, rfl, l⟩
    · exact RepO.of (x := .ptr n) (by simp only [Rep]; exact r)
  | _ => exact RepO.of r
noncomputable def Res.deref (σ : List (Option MO)) : Res → Res
  | .ok v => .ok (Mine.deref σ v)
  | r => r

/-- as Tr, the list may be hidden -/
noncomputable def PostO (A : Around) (H : Hd) (av : AV) (s : Shared) (Q : Value → Shared → Prop) : Prop := ∀ v s' H', Kt A H s H' s' → RepO s'.heap H' v av → Q v s'
noncomputable def TrO (c : Cx) (q : Bool) (A : Around) (H : Hd) (t : Sem Value) (r : Res) (s : Shared) : Prop := ∀ Q E, (match r with
  | .ok av => PostO A H av s Q
  | .exc cls => Post q A H (.exc cls) s Q E
  | .stuck => False) → wpAny c.M A t Q E s

theorem Tr.stuck {c : Cx} {q : Bool} {A : Around} {H : Hd} {t : Sem Value} {s : Shared} : Tr c q A H t .stuck s := fun _ _ P => P.elim
theorem Tr.deref {c : Cx} {q : Bool} {A : Around} {H : Hd} {t : Sem Value} {r : Res} {s : Shared} {σ : List (Option MO)} (S : Sto σ H s.heap) (X : Tr c q A H t r s) : TrO c q A H t (r.deref σ) s := fun Q E P => by
  cases r with
  | ok av => exact X Q E fun v s' H' k r => P v s' H' k (.deref (S.kt k) r)
  | exc cls => exact X Q E P
  | stuck => exact P.elim

theorem NV.load {M : Model} {A : Around} {E : Value → Shared → Prop} {s : Shared} {env : Env} {x : Str} {v : Value} {Q : Value → Shared → Prop} (hk : env.scope.kind = .function) (n : NV s.heap env x v) (h : Q v s) : wpAny M A (loadName env x) Q E s := by
  rcases n with ⟨k, m, n, e⟩ | ⟨k, cc, n, e⟩
  · exact wpAny_loadName_local hk k n e h
  · exact wpAny_loadName_cell hk k n e h

section
variable {c : Cx} {q : Bool} {k : Nat} {A : Around} {s : Shared} {H : Hd}

theorem tr_const_int {env : Env} {i : Int} {kk pos} (hm : Rm c q k A H s) : Tr c q A H (eval (.Constant (.int i) kk pos) env) (.ok (.int i)) s := fun _ _ P => wpAny_Constant_int (Post.int1 hm P)
theorem tr_const_bool {env : Env} {b : Bool} {kk pos} : Tr c q A H (eval (.Constant (.bool b) kk pos) env) (.ok (.bool b)) s := fun _ _ P => wpAny_Constant_bool (Post.old P (Kp.refl _ _) rfl)
theorem tr_const_none {env : Env} {kk pos} : Tr c q A H (eval (.Constant .none kk pos) env) (.ok .none) s := fun _ _ P => wpAny_Constant_none (Post.old P (Kp.refl _ _) rfl)
theorem tr_const_str {env : Env} {x : Str} {kk pos} : Tr c q A H (eval (.Constant (.str x) kk pos) env) (.ok (.str x)) s := fun _ _ P => wpAny_Constant_str (Post.old P Kp.toks1 ⟨_, rfl⟩)

theorem Tr.bindK {t : Sem Value} {av : AV} {Q E : Value → Shared → Prop} (X : Tr c q A H t (.ok av) s) (h : ∀ v s' H', Kt A H s H' s' → Rep (vis s'.heap H') v av → Q v s') : wpAny c.M A t Q E s := X Q E h

end
theorem rep_fresh_list {H : Hd} {s : Shared} {vs : List Value} {xs : List AV} (hL : Live H s.heap) (hz : xs.length ≤ 1048576) (r : RepL (vis s.heap H) vs xs) :
    Rep (vis (s.heap.push { cls := .type "list", data := .seq vs.toArray }) H) (.ref s.heap.objs.size) (.lst xs) := by
  simp only [Rep]
  exact ⟨hz, _, vs, _, rfl, ⟨hL.fresh, _, Heap.get?_push_size _ rfl, rfl, rfl, rfl, .inl rfl, fun _ => rfl⟩, RepL.mono (Kh.of_keeps (F := fun _ => False) fun b o e => Heap.get?_push_of_some _ e).vis r⟩
theorem rep_fresh_tup {H : Hd} {s : Shared} {vs : List Value} {xs : List AV} (hL : Live H s.heap) (hz : xs.length ≤ 1048576) (r : RepL (vis s.heap H) vs xs) :
    Rep (vis (s.heap.push { cls := .type "tuple", data := .seq vs.toArray }) H) (.ref s.heap.objs.size) (.tup xs) := by
  simp only [Rep]
  exact ⟨hz, _, vs, _, rfl, ⟨hL.fresh, _, Heap.get?_push_size _ rfl, rfl, rfl, rfl, .inr (.inl rfl), fun _ => rfl⟩, RepL.mono (Kh.of_keeps (F := fun _ => False) fun b o e => Heap.get?_push_of_some _ e).vis r⟩
theorem Kp.push {A : Around} {s : Shared} (o : Obj) : Kp A s { s with heap := s.heap.push o } := ⟨_, _, rfl, Nat.le_refl _, Kh.of_keeps fun _ _ e => Heap.get?_push_of_some _ e⟩
theorem line_ok {n : Nat} (h : n ≤ 1048576) : n ≤ sizeLine := by rw [show sizeLine = 16777216 from by decide]; omega
section
variable {c : Cx} {q : Bool} {A : Around} {s : Shared} {H : Hd}
theorem is_of {op : CmpOp} {va vb : Value} {b : Bool} (h : ∀ {E : Value → Shared → Prop} (Q' : Bool → Shared → Prop), Q' b s → wpAny c.M A (isSame va vb) Q' E s) (hop : op = .Is ∨ op = .IsNot) : Tr c q A H (compareOp op va vb) (.ok (.bool (if op = .Is then b else !b))) s := fun Q E P => by
  rcases hop with rfl | rfl
  · exact wpAny_bind (h _ (wpAny_pure (Post.old P (Kp.refl _ _) rfl)))
  · exact wpAny_bind (h _ (wpAny_pure (Post.old P (Kp.refl _ _) rfl)))
end
end Mine
end
section
open PySem PySem.W PyProof.Rows
namespace Mine
set_option maxRecDepth 100000

section
variable {c : Cx} {q : Bool} {k : Nat} {A : Around} {s : Shared} {H : Hd} {Q : Value → Shared → Prop} {E : Value → Shared → Prop}
theorem post_int {i : Int} (hm : Rm c q k A H s) (P : Post q A H (.ok (.int i)) s Q E) : (Made.int i).post (Up s Q) s := fun _ => Post.int1 hm P
theorem post_float {i : UInt64} (P : Post q A H (.ok (.float i)) s Q E) : (Made.float i).post (Up s Q) s := fun _ => Post.old P Kp.toks1 ⟨_, rfl⟩
theorem post_bool {b : Bool} (P : Post q A H (.ok (.bool b)) s Q E) : Up s Q (.bool b) s := fun _ => Post.old P (Kp.refl _ _) rfl
theorem post_raise {cls : EX} (hm : Rm c q k A H s) (P : Post q A H (.exc cls) s Q E) {Q' : Value → Shared → Prop} : raisesNew cls.name A (wants Q' (Up s E)) s := by
  refine ⟨hm.hand P.1, fun h' tk e n hl => ?_⟩
  obtain ⟨ob, t, h1, h2, h3⟩ := n.there
  exact P.2 _ _ ⟨e, t, rfl, Kp.of hl n.keeps, n.new, .inl ⟨ob, h1, h2, h3⟩⟩
end

noncomputable def mulOk (a b : Int) : Bool := !(decide (Builtin.Int.intBits a > shortFactorBits) && decide (Builtin.Int.intBits b > shortFactorBits) && Builtin.Int.intTooBig (Builtin.Int.intBits a + Builtin.Int.intBits b))
theorem mulOk_iff {a b : Int} : mulOk a b = true ↔ IntMulOk a b := by
  unfold mulOk IntMulOk
  cases (decide (Builtin.Int.intBits a > shortFactorBits) && decide (Builtin.Int.intBits b > shortFactorBits) && Builtin.Int.intTooBig (Builtin.Int.intBits a + Builtin.Int.intBits b)) <;> simp

noncomputable def frac (a b : Int) : UInt64 := Float64.ofFrac (decide (a < 0) != decide (b < 0)) a.natAbs b.natAbs

noncomputable def intBin (op : Operator) (a b : Int) : Res := match op with
  | .Add => .ok (.int (a + b))
  | .Sub => .ok (.int (a - b))
  | .Mult => if mulOk a b = true then .ok (.int (a * b)) else .stuck
  | .FloorDiv => if (b == 0) = true then .exc .zde else if Builtin.divisionGoesByPylong a b = true then .stuck else .ok (.int (a.fdiv b))
  | .Mod => if (b == 0) = true then .exc .zde else .ok (.int (a.fmod b))
  | .Div => if (b == 0) = true then .exc .zde else if Float64.isInf (frac a b) = true then .exc .ofe else .ok (.float (frac a b))
  | .Pow => if b ≥ 0 then (if (b == 0) = true then .ok (.int 1) else if (a == 0 || a == 1) = true then .ok (.int a) else if (a == -1) = true then .ok (.int (if (b % 2 == 0) = true then 1 else -1))
      else if Builtin.Int.intTooBig (((Builtin.Int.intBits a : Nat) : Int) * b) = true then .stuck else .ok (.int (a ^ b.toNat))) else .stuck
  | _ => .stuck
section
variable {c : Cx} {q : Bool} {k : Nat} {A : Around} {s : Shared} {H : Hd}

theorem intBin_ok {op : Operator} {a b : Int} {t u : Tok} (hm : Rm c q k A H s) : Tr c q A H (binaryOp op (.int a t) (.int b u)) (intBin op a b) s := by
  intro Q E P
  refine wpAny_up ?_
  cases op <;> simp only [intBin] at P <;> try exact P.elim
  · exact AutoIntOps.add_0 (post_int hm P)
  · exact AutoIntOps.sub_0 (post_int hm P)
  · split at P
    · rename_i h; exact AutoIntOps.mul_0 (post_int hm P) (mulOk_iff.mp h)
    · exact P.elim
  · refine AutoIntOpsIf.truediv ?_
    by_cases h : (b == 0) = true
    · rw [if_pos h] at P ⊢; exact post_raise hm P
    · rw [if_neg h] at P ⊢
      by_cases h2 : Float64.isInf (frac a b) = true
      · rw [if_pos h2] at P; rw [if_pos (by exact h2)]; exact post_raise hm P
      · rw [if_neg h2] at P; rw [if_neg (by exact h2)]; exact post_float P
  · refine AutoIntOpsIf.mod ?_
    split at P
    · rename_i h; rw [if_pos h]; exact post_raise hm P
    · rename_i h; rw [if_neg h]; exact post_int hm P
  · refine AutoIntOpsIf.pow ?_
    split at P
    · rename_i h; rw [if_pos h]
      split at P
      · rename_i h; rw [if_pos h]; exact post_int hm P
      · rename_i h; rw [if_neg h]
        split at P
        · rename_i h; rw [if_pos h]; exact post_int hm P
        · rename_i h; rw [if_neg h]
          split at P
          · rename_i h; rw [if_pos h]; exact post_int hm P
          · rename_i h; rw [if_neg h]
            split at P
            · exact P.elim
            · rename_i h; rw [if_neg h]; exact post_int hm P
    · exact P.elim
  · refine AutoIntOpsIf.floordiv ?_
    split at P
    · rename_i h; rw [if_pos h]; exact post_raise hm P
    · rename_i h; rw [if_neg h]
      split at P
      · exact P.elim
      · rename_i h; rw [if_neg h]; exact post_int hm P

end

/- in place: Div alone -/
section
variable {c : Cx} {q : Bool} {k : Nat} {A : Around} {s : Shared} {H : Hd}
end

/- comparing -/
noncomputable def intCmp (op : CmpOp) (a b : Int) : Option Bool := match op with
  | .Eq => some (a == b)
  | .NotEq => some (a != b)
  | .Lt => some (decide (a < b))
  | .LtE => some (decide (a ≤ b))
  | .Gt => some (decide (a > b))
  | .GtE => some (decide (a ≥ b))
  | _ => none
section
variable {c : Cx} {q : Bool} {k : Nat} {A : Around} {s : Shared} {H : Hd}
theorem intCmp_ok {op : CmpOp} {a b : Int} {t u : Tok} {r : Bool} (h : intCmp op a b = some r) : Tr c q A H (compareOp op (.int a t) (.int b u)) (.ok (.bool r)) s := by
  intro Q E P
  refine wpAny_up ?_
  cases op <;> simp only [intCmp, Option.some.injEq, reduceCtorEq] at h <;> subst h
  · exact PySem.P.eq_int (post_bool P)
  · exact PySem.P.ne_int (post_bool P)
  · exact PySem.P.lt_int (post_bool P)
  · exact PySem.P.le_int (post_bool P)
  · exact PySem.P.gt_int (post_bool P)
  · exact PySem.P.ge_int (post_bool P)
noncomputable def plainCmp (op : CmpOp) (e : Bool) : Option Bool := match op with
  | .Is => some e
  | .IsNot => some (!e)
  | _ => none
theorem plainCmp_ok {op : CmpOp} {a b : Value} {r : Bool} (hp : plainIs a b = true) (h : plainCmp op (a == b) = some r) : Tr c q A H (compareOp op a b) (.ok (.bool r)) s := by
  intro Q E P
  refine wpAny_up ?_
  cases op <;> simp only [plainCmp, Option.some.injEq, reduceCtorEq] at h <;> subst h
  · exact wpAny_is_plain hp (post_bool P)
  · exact wpAny_isNot_plain hp (post_bool P)
end
end Mine
end
section
open PySem PySem.W PyProof.Rows
namespace Mine
set_option maxRecDepth 100000

section
variable {M : Model} {A : Around} {E : Value → Shared → Prop} {s : Shared} {a b : Value} {T U nm idl idr : String}
end
section
variable {prog : Program} {w : World} {A : Around} {E : Value → Shared → Prop} {s : Shared}
end
section
variable {c : Cx} {q : Bool} {k : Nat} {A : Around} {s : Shared} {H : Hd}
end
end Mine
end
section
open PySem PySem.W PyProof.Rows
namespace Mine
set_option maxRecDepth 100000

noncomputable def asPart : AV → Option (Option Int)
  | .none => some none
  | .int i => some (some i)
  | _ => none
theorem asPart_ok {R : Vw} {v : Value} {x : AV} {p : Option Int} (h : asPart x = some p) (r : Rep R v x) : IsPart v p := by
  cases x <;> simp only [asPart, reduceCtorEq, Option.some.injEq] at h
  · subst h; simp only [Rep] at r; subst r; exact .none
  · subst h; simp only [Rep] at r; obtain ⟨t, rfl, _⟩ := r; exact .int _ _

noncomputable def pickL (xs : List AV) (lo hi st : Option Int) : List AV :=
  (sliceRange (sliceBounds lo hi st xs.length).1 (sliceBounds lo hi st xs.length).2.1 (sliceBounds lo hi st xs.length).2.2).filterMap (xs[·]?)

theorem RepL.pick {R : Vw} {vs : List Value} {xs : List AV} (r : RepL R vs xs) : ∀ is : List Nat, RepL R (is.filterMap (vs[·]?)) (is.filterMap (xs[·]?))
  | [] => by simp [RepL]
  | i :: is => by
    cases hx : xs[i]? with
    | none =>
      have hv : vs[i]? = none := by rw [List.getElem?_eq_none_iff] at hx ⊢; rw [r.length]; exact hx
      simp only [List.filterMap_cons, hx, hv]
      exact RepL.pick r is
    | some x =>
      obtain ⟨v, hv, q⟩ := r.get hx
      simp only [List.filterMap_cons, hx, hv, RepL]
      exact ⟨q, RepL.pick r is⟩

theorem IsL.typeIs {s : Shared} {a : Addr} {vs : List Value} (x : IsL s.heap a vs) : s.TypeIs (.ref a) "list" := x.isList.typeIs

noncomputable def ints? : List AV → Option (List Int)
  | [] => some []
  | .int i :: r => (ints? r).map (i :: ·)
  | _ :: _ => none

theorem ints_items {R : Vw} : ∀ {xs : List AV} {vs : List Value} {ns : List Int}, ints? xs = some ns → RepL R vs xs → ∃ ps : List (Int × Tok), vs.toArray = intItems ps.toArray ∧ ps.map (·.1) = ns ∧ ∀ p ∈ ps, p.2 ≠ 0 ∧ R.t p.2 = some p.1
  | [], [], ns, h, _ => by simp [ints?] at h; subst h; exact ⟨[], by simp [intItems], rfl, by simp⟩
  | [], _ :: _, _, _, r => by simp [RepL] at r
  | _ :: _, [], _, _, r => by simp [RepL] at r
  | x :: xs, v :: vs, ns, h, r => by
    simp only [RepL] at r
    cases x <;> simp only [ints?, reduceCtorEq, Option.map_eq_some_iff] at h
    rename_i i
    obtain ⟨ms, h, rfl⟩ := h
    obtain ⟨ps, e1, e2, e4⟩ := ints_items h r.2
    obtain ⟨r1, _⟩ := r
    simp only [Rep] at r1
    obtain ⟨t, rfl, t0⟩ := r1
    refine ⟨(i, t) :: ps, ?_, by simp [e2], fun p hp => (List.mem_cons.mp hp).elim (fun z => by subst z; exact t0) (e4 p)⟩
    have e3 : vs = ps.map fun p => Value.int p.1 p.2 := by have := congrArg Array.toList e1; simpa [intItems] using this
    rw [e3]; simp [intItems]

/-- the greatest of a row -/
noncomputable def maxI : List Int → Option Int
  | [] => none
  | [a] => some a
  | a :: r => (maxI r).map fun m => if m > a then m else a
noncomputable def minI : List Int → Option Int
  | [] => none
  | [a] => some a
  | a :: r => (minI r).map fun m => if m < a then m else a
theorem maxI_of {m : Int} : ∀ {l : List Int}, m ∈ l → (∀ x ∈ l, x ≤ m) → maxI l = some m
  | [], h, _ => by cases h
  | [a], h, _ => by simp at h; subst h; rfl
  | a :: b :: r, h, k => by
    show (maxI (b :: r)).map _ = _
    by_cases hb : m ∈ b :: r
    · rw [maxI_of hb fun x hx => k x (List.mem_cons_of_mem _ hx)]
      have := k a (List.mem_cons_self ..)
      show some (if m > a then m else a) = some m
      split <;> congr 1 <;> omega
    · have ha : m = a := (List.mem_cons.mp h).resolve_right hb
      subst ha
      have : ∃ y, maxI (b :: r) = some y ∧ y ≤ m := by
        have : ∀ l : List Int, l ≠ [] → ∃ y, maxI l = some y ∧ y ∈ l := by
          intro l
          induction l with
          | nil => intro h; exact absurd rfl h
          | cons a l ih =>
            intro _
            cases l with
            | nil => exact ⟨a, rfl, by simp⟩
            | cons b l =>
              obtain ⟨y, e, h⟩ := ih (by simp)
              refine ⟨if y > a then y else a, by show (maxI (b :: l)).map _ = _; rw [e]; rfl, ?_⟩
              split
              · exact List.mem_cons_of_mem _ h
              · exact List.mem_cons_self ..
        obtain ⟨y, e, h⟩ := this (b :: r) (by simp)
        exact ⟨y, e, k y (List.mem_cons_of_mem _ h)⟩
      obtain ⟨y, e, hy⟩ := this
      rw [e]
      show some (if y > m then y else m) = some m
      rw [if_neg (by omega)]
theorem minI_neg : ∀ l : List Int, minI l = (maxI (l.map (- ·))).map (- ·)
  | [] => rfl
  | [a] => by simp [minI, maxI]
  | a :: b :: r => by
    show (minI (b :: r)).map _ = ((maxI ((b :: r).map (- ·))).map _).map _
    rw [minI_neg (b :: r)]
    cases maxI ((b :: r).map (- ·)) with
    | none => rfl
    | some y => simp only [Option.map_some]; congr 1; split <;> split <;> omega
theorem minI_of {m : Int} {l : List Int} (h : m ∈ l) (k : ∀ x ∈ l, m ≤ x) : minI l = some m := by
  rw [minI_neg, maxI_of (m := -m) (List.mem_map.mpr ⟨m, h, rfl⟩) (fun x hx => by obtain ⟨y, hy, rfl⟩ := List.mem_map.mp hx; have := k y hy; omega)]
  simp

theorem numAt_list (ps : List (Int × Tok)) (i : Nat) (h : i < ps.length) : numAt ps.toArray i = (ps[i]).1 := by simp [numAt, h]

section
variable {c : Cx} {q : Bool} {k : Nat} {A : Around} {s : Shared} {H : Hd}
theorem best_min {ps : List (Int × Tok)} {v : Value} (hne : 0 < ps.length) (h : (intItems ps.toArray)[argBest (fun i j => decide (numAt ps.toArray i < numAt ps.toArray j)) (ps.toArray.size - 1)]? = some v) :
    ∃ m t, v = .int m t ∧ (m, t) ∈ ps ∧ minI (ps.map (·.1)) = some m := by
  obtain ⟨h1, h2⟩ := argBest_lt (numAt ps.toArray) (ps.toArray.size - 1)
  generalize argBest (fun i j => decide (numAt ps.toArray i < numAt ps.toArray j)) (ps.toArray.size - 1) = b at h h1 h2
  simp only [List.size_toArray] at h1 h2
  have hb : b < ps.length := by omega
  refine ⟨(ps[b]).1, (ps[b]).2, ?_, List.getElem_mem _, minI_of (List.mem_map.mpr ⟨ps[b], List.getElem_mem _, rfl⟩) fun x hx => ?_⟩
  · simp [intItems, hb] at h; exact h.symm
  · obtain ⟨p, hp, rfl⟩ := List.mem_map.mp hx
    obtain ⟨j, hj, rfl⟩ := List.mem_iff_getElem.mp hp
    have := h2 j (by omega)
    rw [numAt_list ps j hj, numAt_list ps b hb] at this
    exact this

/-- two lists behind each other -/
theorem lists_add {l b : Addr} {vs ws : List Value} {xs ys : List AV} (hL : Live H s.heap) (hl : IsL s.heap l vs) (hb : IsL s.heap b ws) (hx : RepL (vis s.heap H) vs xs) (hy : RepL (vis s.heap H) ws ys) (hz : xs.length + ys.length ≤ 1048576) :
    Tr c q A H (binaryOp .Add (.ref l) (.ref b)) (.ok (.lst (xs ++ ys))) s := by
  intro Q E P
  obtain ⟨⟨cls, dd, data, sl⟩, n, ho, hc, hd, _⟩ := id hl
  obtain ⟨⟨cls2, dd2, data2, sl2⟩, n2, ho2, hc2, hd2, _⟩ := id hb
  simp only at hc hd hc2 hd2
  subst hc hd hc2 hd2
  have e : vs.toArray ++ ws.toArray = (vs ++ ws).toArray := by simp
  refine concat_meets ⟨_, ho, rfl⟩ ⟨_, ho2, rfl⟩ noFill_list_add seq_list_add PySem.F.slot_list_add PySem.F.entry_list_add (PySem.F.args_list_add_2 _ _) (list_addW l b vs.toArray ws.toArray n n2 dd dd2 sl sl2 (by simp [hx.length, hy.length]; exact line_ok hz)) ⟨ho, ho2, ?_⟩
  rw [e]
  exact Post.old P (Kp.push _) (rep_fresh_list hL (by simpa using hz) (hx.append hy))

noncomputable def idxL (xs : List AV) (i : Int) : Res :=
  if 0 ≤ i then (match xs[i.toNat]? with | some x => .ok x | none => .stuck) else if -(xs.length : Int) ≤ i then (match xs[(i + xs.length).toNat]? with | some x => .ok x | none => .stuck) else .stuck
theorem idxL_ok {l : Addr} {vs : List Value} {xs : List AV} {i : Int} {t : Tok} (hl : IsL s.heap l vs) (hz : xs.length ≤ 1048576) (r : RepL (vis s.heap H) vs xs) : Tr c q A H (getItem (.ref l) (.int i t)) (idxL xs i) s := by
  intro Q E P
  unfold idxL at P
  by_cases h0 : 0 ≤ i
  · rw [if_pos h0] at P
    cases hx : xs[i.toNat]? with
    | none => rw [hx] at P; exact P.elim
    | some x =>
      rw [hx] at P
      obtain ⟨v, hv, rv⟩ := r.get hx
      have : i.toNat < xs.length := by obtain ⟨h, _⟩ := List.getElem?_eq_some_iff.mp hx; exact h
      exact wpAny_getItem_list hl.isList h0 (by omega) (x := v) (by simpa using hv) (Post.old P (Kp.refl _ _) rv)
  · rw [if_neg h0] at P
    by_cases h1 : -(xs.length : Int) ≤ i
    · rw [if_pos h1] at P
      cases hx : xs[(i + xs.length).toNat]? with
      | none => rw [hx] at P; exact P.elim
      | some x =>
        rw [hx] at P
        obtain ⟨v, hv, rv⟩ := r.get hx
        exact wpAny_getItem_list_neg hl.isList (by omega) (by simpa [r.length] using h1) (by omega) (x := v) (by simpa [r.length] using hv) (Post.old P (Kp.refl _ _) rv)
    · rw [if_neg h1] at P; exact P.elim

noncomputable def sliceL (xs : List AV) (a b z : AV) : Res := match asPart a, asPart b, asPart z with
  | some lo, some hi, some st => if st = some 0 then .stuck else .ok (.lst (pickL xs lo hi st))
  | _, _, _ => .stuck
theorem sliceL_ok {l r : Addr} {vs : List Value} {xs : List AV} {x y z : AV} {ux uy uz : Value} (hL : Live H s.heap) (hl : IsL s.heap l vs) (hz : xs.length ≤ 1048576) (rr : RepL (vis s.heap H) vs xs) (h1 : Rep (vis s.heap H) ux x) (h2 : Rep (vis s.heap H) uy y) (h3 : Rep (vis s.heap H) uz z)
    (hr : s.heap.get? r = some { cls := .type "slice", data := .fields #[ux, uy, uz] }) : Tr c q A H (getItem (.ref l) (.ref r)) (sliceL xs x y z) s := by
  intro Q E P
  unfold sliceL at P
  cases e1 : asPart x with
  | none => rw [e1] at P; exact P.elim
  | some lo =>
    cases e2 : asPart y with
    | none => rw [e1, e2] at P; exact P.elim
    | some hi =>
      cases e3 : asPart z with
      | none => rw [e1, e2, e3] at P; exact P.elim
      | some st =>
        rw [e1, e2, e3] at P
        simp only at P
        by_cases h0 : st = some 0
        · rw [if_pos h0] at P; exact P.elim
        · rw [if_neg h0] at P
          refine wpAny_getItem_list_slice hl.isList ⟨_, hr, rfl, rfl⟩ (asPart_ok e1 h1) (asPart_ok e2 h2) (asPart_ok e3 h3) h0 ?_ (by simp [rr.length]; exact line_ok hz)
          have e : slicePick vs.toArray lo hi st = ((sliceRange (sliceBounds lo hi st xs.length).1 (sliceBounds lo hi st xs.length).2.1 (sliceBounds lo hi st xs.length).2.2).filterMap (vs[·]?)).toArray := by
            unfold slicePick; simp [rr.length]
          have hsz := slicePick_size_le vs.toArray lo hi st
          rw [e]
          rw [e] at hsz
          have rp := rr.pick (sliceRange (sliceBounds lo hi st xs.length).1 (sliceBounds lo hi st xs.length).2.1 (sliceBounds lo hi st xs.length).2.2)
          refine Post.old P (Kp.push _) (rep_fresh_list hL ?_ rp)
          have := rp.length
          simp only [List.size_toArray, rr.length] at hsz
          show (List.filterMap _ _).length ≤ _
          rw [← this]; omega
end
end Mine
end
section
open PySem PySem.W PyProof.Rows
namespace Mine
open SeqAt
set_option maxRecDepth 100000

theorem no_some {α : Type} {P : Prop} {x : α} (h : (Option.none : Option α) = some x) : P := nomatch h
theorem no_true {P : Prop} (h : false = true) : P := nomatch h
noncomputable def AV.lst? : AV → Option (List AV) | .lst x => some x | _ => Option.none
noncomputable def AV.tup? : AV → Option (List AV) | .tup x => some x | _ => Option.none
noncomputable def AV.str? : AV → Option Str | .str x => some x | _ => Option.none
noncomputable def AV.bytes? : AV → Option (Array UInt8) | .bytes x => some x | _ => Option.none
noncomputable def AV.int? : AV → Option Int | .int x => some x | _ => Option.none
noncomputable def AV.type? : AV → Option String | .type x => some x | _ => Option.none
noncomputable def AV.none? : AV → Bool | .none => true | _ => false
theorem lst?_eq {a : AV} {x} : (h : a.lst? = some x) → a = .lst x := match a with | .lst _ => fun h => congrArg AV.lst (Option.some.inj h) | .none | .bool _ | .int _ | .float _ | .str _ | .bytes _ | .type _ | .range _ _ _ | .tup _ | .set _ _ | .ptr _ | .itr _ _ | .fn _ | .dict _ | .any => no_some
theorem tup?_eq {a : AV} {x} : (h : a.tup? = some x) → a = .tup x := match a with | .tup _ => fun h => congrArg AV.tup (Option.some.inj h) | .none | .bool _ | .int _ | .float _ | .str _ | .bytes _ | .type _ | .range _ _ _ | .lst _ | .set _ _ | .ptr _ | .itr _ _ | .fn _ | .dict _ | .any => no_some
theorem str?_eq {a : AV} {x} : (h : a.str? = some x) → a = .str x := match a with | .str _ => fun h => congrArg AV.str (Option.some.inj h) | .none | .bool _ | .int _ | .float _ | .bytes _ | .type _ | .range _ _ _ | .tup _ | .lst _ | .set _ _ | .ptr _ | .itr _ _ | .fn _ | .dict _ | .any => no_some
theorem bytes?_eq {a : AV} {x} : (h : a.bytes? = some x) → a = .bytes x := match a with | .bytes _ => fun h => congrArg AV.bytes (Option.some.inj h) | .none | .bool _ | .int _ | .float _ | .str _ | .type _ | .range _ _ _ | .tup _ | .lst _ | .set _ _ | .ptr _ | .itr _ _ | .fn _ | .dict _ | .any => no_some
theorem int?_eq {a : AV} {x} : (h : a.int? = some x) → a = .int x := match a with | .int _ => fun h => congrArg AV.int (Option.some.inj h) | .none | .bool _ | .float _ | .str _ | .bytes _ | .type _ | .range _ _ _ | .tup _ | .lst _ | .set _ _ | .ptr _ | .itr _ _ | .fn _ | .dict _ | .any => no_some
theorem type?_eq {a : AV} {x} : (h : a.type? = some x) → a = .type x := match a with | .type _ => fun h => congrArg AV.type (Option.some.inj h) | .none | .bool _ | .int _ | .float _ | .str _ | .bytes _ | .range _ _ _ | .tup _ | .lst _ | .set _ _ | .ptr _ | .itr _ _ | .fn _ | .dict _ | .any => no_some
theorem none?_eq {a : AV} : (h : a.none? = true) → a = .none := match a with | .none => fun _ => rfl | .bool _ | .int _ | .float _ | .str _ | .bytes _ | .type _ | .range _ _ _ | .tup _ | .lst _ | .set _ _ | .ptr _ | .itr _ _ | .fn _ | .dict _ | .any => no_true
noncomputable def two {α β : Type} (f : AV → Option α) (a b : AV) (g : α → α → β) (e : β) : β := match f a with
  | some x => (match f b with
    | some y => g x y
    | none => e)
  | none => e
theorem two_cases {α β : Type} {f : AV → Option α} {a b : AV} {g : α → α → β} {e : β} {P : β → Prop} (h1 : ∀ x y, f a = some x → f b = some y → P (g x y)) (h2 : P e) : P (two f a b g e) := by
  unfold two
  cases ha : f a with
  | none => exact h2
  | some x => cases hb : f b with
    | none => exact h2
    | some y => exact h1 x y ha hb
noncomputable def AV.bool? : AV → Option Bool | .bool x => some x | _ => Option.none
theorem bool?_eq {a : AV} {x} : (h : a.bool? = some x) → a = .bool x := match a with | .bool _ => fun h => congrArg AV.bool (Option.some.inj h) | .none | .int _ | .float _ | .str _ | .bytes _ | .type _ | .range _ _ _ | .tup _ | .lst _ | .set _ _ | .ptr _ | .itr _ _ | .fn _ | .dict _ | .any => no_some
/- equality -/
noncomputable def eqO (x y : AV) : Option Bool := two AV.str? x y (fun a b => some (a == b)) (two AV.bytes? x y (fun a b => some (a.toList == b.toList)) none)
noncomputable def eqS (x y : AV) : Option Bool := two AV.int? x y (fun a b => some (a == b)) (two AV.bool? x y (fun a b => some (a == b)) (if (x.none? && y.none?) = true then some true else eqO x y))
noncomputable def allZ (f : AV → AV → Option Bool) : List AV → List AV → Option Bool
  | x :: xs, y :: ys => match f x y with
    | some a => (allZ f xs ys).map (a && ·)
    | none => none
  | _, _ => some true
noncomputable def eqL (f : AV → AV → Option Bool) (xs ys : List AV) : Option Bool := if xs.length = ys.length then allZ f xs ys else some false
noncomputable def eqT (f : AV → AV → Option Bool) (xs ys : List AV) : Option Bool := (allZ f xs ys).map (· && xs.length == ys.length)
/-- items: classes by their names -/
noncomputable def itm (f : AV → AV → Option Bool) (x y : AV) : Option Bool := two AV.type? x y (fun a b => if a = b then some true else none) (f x y)
noncomputable def eqN : Nat → AV → AV → Option Bool
  | 0, x, y => eqS x y
  | n + 1, x, y => two AV.lst? x y (eqL (itm (eqN n))) (two AV.tup? x y (eqT (itm (eqN n))) (eqS x y))
structure EqB (A : Around) (s : Shared) (va vb : Value) (b : Bool) : Prop where
  rc : RcAt A s va vb b
  ne : RcNeAt A s va vb (!b)
  eq : EqAt A s va vb b
theorem EqAt.bytes_bytes {A : Around} {s : Shared} (a : Array UInt8) (t : Tok) (b : Array UInt8) (u : Tok) : EqAt A s (.bytes a t) (.bytes b u) (a.toList == b.toList) := fun prog w E Q h => by
  unfold eqBool
  refine wpAny_holding ?_
  refine wpAny_ite_split (fun hab => ?_) (fun _ => ?_)
  · have e : a = b := by have := eq_of_beq hab; injection this
    subst e
    exact wpAny_bind (wpAny_rule (wpAny_pure (by simpa using h)))
  · exact wpAny_bind ((eq_bytes (wpAny_truthy_bool h) : wpAny _ _ (compareOp .Eq _ _) _ _ _))
theorem EqAt.none_none {A : Around} {s : Shared} : EqAt A s .none .none true := EqAt.same _
theorem eqO_ok {A : Around} {s : Shared} {H : Hd} {x y : AV} {va vb : Value} {b : Bool} (h : eqO x y = some b) (ra : RepO s.heap H va x) (rb : RepO s.heap H vb y) : EqB A s va vb b := by
  revert h
  refine two_cases (P := fun r => r = some b → EqB A s va vb b) (fun a c ea ec h => ?_) (two_cases (P := fun r => r = some b → EqB A s va vb b) (fun a c ea ec h => ?_) nofun)
  · rw [str?_eq ea] at ra; rw [str?_eq ec] at rb
    obtain ⟨t, rfl⟩ := ra; obtain ⟨u, rfl⟩ := rb
    cases h; exact ⟨RcAt.str_str _ _ _ _, RcNeAt.str_str _ _ _ _, EqAt.str_str _ _ _ _⟩
  · rw [bytes?_eq ea] at ra; rw [bytes?_eq ec] at rb
    obtain ⟨t, rfl⟩ := ra; obtain ⟨u, rfl⟩ := rb
    cases h
    exact ⟨fun prog w E Q h => (eq_bytes h : wpAny _ _ (compareOp .Eq _ _) _ _ _), fun prog w E Q h => (ne_bytes h : wpAny _ _ (compareOp .NotEq _ _) _ _ _), EqAt.bytes_bytes _ _ _ _⟩
theorem eqS_ok {A : Around} {s : Shared} {H : Hd} {x y : AV} {va vb : Value} {b : Bool} (h : eqS x y = some b) (ra : RepO s.heap H va x) (rb : RepO s.heap H vb y) : EqB A s va vb b := by
  revert h
  refine two_cases (P := fun r => r = some b → EqB A s va vb b) (fun a c ea ec h => ?_) (two_cases (P := fun r => r = some b → EqB A s va vb b) (fun a c ea ec h => ?_) fun h => ?_)
  · rw [int?_eq ea] at ra; rw [int?_eq ec] at rb
    obtain ⟨t, rfl, _⟩ := ra; obtain ⟨u, rfl, _⟩ := rb
    cases h; exact ⟨RcAt.int_int _ _ _ _, RcNeAt.int_int _ _ _ _, EqAt.int_int _ _ _ _⟩
  · rw [bool?_eq ea] at ra; rw [bool?_eq ec] at rb
    cases ra; cases rb
    cases h; exact ⟨RcAt.bool_bool _ _, RcNeAt.bool_bool _ _, EqAt.bool_bool _ _⟩
  · split at h
    · rename_i hn
      have hn := Bool.and_eq_true_iff.mp hn
      rw [none?_eq hn.1] at ra; rw [none?_eq hn.2] at rb
      cases ra; cases rb
      cases h; exact ⟨RcAt.none_none, RcNeAt.none_none, EqAt.none_none⟩
    · exact eqO_ok h ra rb
theorem allZ_some {f : AV → AV → Option Bool} : ∀ {xs ys : List AV} {b : Bool}, allZ f xs ys = some b → ∃ e : Nat → Bool, (∀ (j : Nat) x y, xs[j]? = some x → ys[j]? = some y → f x y = some (e j)) ∧ b = (List.range (min xs.length ys.length)).all e
  | [], ys, b, h => by
    simp only [allZ, Option.some.injEq] at h
    exact ⟨fun _ => true, fun j x y hx => by simp at hx, by simp [← h]⟩
  | x :: xs, [], b, h => by
    simp only [allZ, Option.some.injEq] at h
    exact ⟨fun _ => true, fun j x y _ hy => by simp at hy, by simp [← h]⟩
  | x :: xs, y :: ys, b, h => by
    simp only [allZ] at h
    split at h
    · rename_i a ha
      simp only [Option.map_eq_some_iff] at h
      obtain ⟨c, hc, rfl⟩ := h
      obtain ⟨e, he, hb⟩ := allZ_some hc
      refine ⟨fun j => match j with | 0 => a | j + 1 => e j, fun j x' y' hx hy => ?_, ?_⟩
      · cases j with
        | zero => simp at hx hy; subst hx; subst hy; exact ha
        | succ j => simp at hx hy; exact he j x' y' hx hy
      · rw [hb, List.length_cons, List.length_cons, Nat.succ_min_succ, List.range_succ_eq_map, List.all_cons, List.all_map]; rfl
    · cases h
theorem vis_fun {h : Heap} {H : Hd} {a : Addr} {c c' : Value} {d d' : Data} (x : (vis h H).r a c d) (y : (vis h H).r a c' d') : c = c' ∧ d = d' := by
  obtain ⟨_, o, e, rfl, rfl, _⟩ := x
  obtain ⟨_, o', e', rfl, rfl, _⟩ := y
  rw [e] at e'; cases e'
  exact ⟨rfl, rfl⟩
theorem eqO_same {h : Heap} {H : Hd} {x y : AV} {v : Value} {b : Bool} (e : eqO x y = some b) (ra : Rep (vis h H) v x) (rb : Rep (vis h H) v y) : b = true := by
  revert e
  refine two_cases (P := fun r => r = some b → b = true) (fun a c ea ec e => ?_) (two_cases (P := fun r => r = some b → b = true) (fun a c ea ec e => ?_) nofun)
  · rw [str?_eq ea] at ra; rw [str?_eq ec] at rb
    obtain ⟨t, rfl⟩ := ra; obtain ⟨u, e2⟩ := rb; cases e2; cases e; exact beq_self_eq_true _
  · rw [bytes?_eq ea] at ra; rw [bytes?_eq ec] at rb
    obtain ⟨t, rfl⟩ := ra; obtain ⟨u, e2⟩ := rb; cases e2; cases e; exact beq_self_eq_true _
theorem eqS_same {h : Heap} {H : Hd} {x y : AV} {v : Value} {b : Bool} (e : eqS x y = some b) (ra : Rep (vis h H) v x) (rb : Rep (vis h H) v y) : b = true := by
  revert e
  refine two_cases (P := fun r => r = some b → b = true) (fun a c ea ec e => ?_) (two_cases (P := fun r => r = some b → b = true) (fun a c ea ec e => ?_) fun e => ?_)
  · rw [int?_eq ea] at ra; rw [int?_eq ec] at rb
    obtain ⟨t, rfl, _⟩ := ra; obtain ⟨u, e2, _⟩ := rb; cases e2; cases e; exact beq_self_eq_true _
  · rw [bool?_eq ea] at ra; rw [bool?_eq ec] at rb
    cases ra; cases rb; cases e; exact beq_self_eq_true _
  · split at e
    · cases e; rfl
    · exact eqO_same e ra rb
theorem allZ_same {h : Heap} {H : Hd} {f : AV → AV → Option Bool} (hf : ∀ x y v b, f x y = some b → Rep (vis h H) v x → Rep (vis h H) v y → b = true) : ∀ {xs ys : List AV} {vs : List Value} {b : Bool}, allZ f xs ys = some b → RepL (vis h H) vs xs → RepL (vis h H) vs ys → b = true
  | [], _, _, b, e, _, _ => by simp only [allZ, Option.some.injEq] at e; exact e.symm
  | _ :: _, [], _, b, e, _, _ => by simp only [allZ, Option.some.injEq] at e; exact e.symm
  | x :: xs, y :: ys, [], b, e, r, _ => by simp [RepL] at r
  | x :: xs, y :: ys, v :: vs, b, e, r, r' => by
    simp only [RepL] at r r'
    simp only [allZ] at e
    split at e
    · rename_i a ha
      simp only [Option.map_eq_some_iff] at e
      obtain ⟨c, hc, rfl⟩ := e
      rw [hf x y v a ha r.1 r'.1, allZ_same hf hc r.2 r'.2]; rfl
    · cases e
theorem eqL_same {h : Heap} {H : Hd} {f : AV → AV → Option Bool} (hf : ∀ x y v b, f x y = some b → Rep (vis h H) v x → Rep (vis h H) v y → b = true) {xs ys : List AV} {v : Value} {b : Bool} (e : eqL f xs ys = some b) (ra : Rep (vis h H) v (.lst xs)) (rb : Rep (vis h H) v (.lst ys)) : b = true := by
  simp only [Rep] at ra rb
  obtain ⟨_, a, vs, k, rfl, r1, l1⟩ := ra
  obtain ⟨_, a', vs', k', ea, r2, l2⟩ := rb
  cases ea
  have := (vis_fun r1 r2).2
  simp only [Data.seq.injEq] at this
  have hv : vs = vs' := congrArg Array.toList this.1
  subst hv
  rw [eqL, if_pos (l1.length.symm.trans l2.length)] at e
  exact allZ_same hf e l1 l2
theorem eqT_same {h : Heap} {H : Hd} {f : AV → AV → Option Bool} (hf : ∀ x y v b, f x y = some b → Rep (vis h H) v x → Rep (vis h H) v y → b = true) {xs ys : List AV} {v : Value} {b : Bool} (e : eqT f xs ys = some b) (ra : Rep (vis h H) v (.tup xs)) (rb : Rep (vis h H) v (.tup ys)) : b = true := by
  simp only [Rep] at ra rb
  obtain ⟨_, a, vs, k, rfl, r1, l1⟩ := ra
  obtain ⟨_, a', vs', k', ea, r2, l2⟩ := rb
  cases ea
  have := (vis_fun r1 r2).2
  simp only [Data.seq.injEq] at this
  have hv : vs = vs' := congrArg Array.toList this.1
  subst hv
  obtain ⟨c, hc, rfl⟩ := Option.map_eq_some_iff.mp e
  rw [allZ_same hf hc l1 l2, l1.length.symm.trans l2.length, Bool.true_and]; exact beq_self_eq_true _
theorem itm_same {h : Heap} {H : Hd} {f : AV → AV → Option Bool} (hf : ∀ x y v b, f x y = some b → Rep (vis h H) v x → Rep (vis h H) v y → b = true) : ∀ x y v b, itm f x y = some b → Rep (vis h H) v x → Rep (vis h H) v y → b = true := fun x y v b e ra rb => by
  revert e
  refine two_cases (P := fun r => r = some b → b = true) (fun a c _ _ e => ?_) fun e => hf x y v b e ra rb
  split at e
  · cases e; rfl
  · cases e
theorem eqN_same {h : Heap} {H : Hd} : ∀ (n : Nat) (x y : AV) (v : Value) (b : Bool), eqN n x y = some b → Rep (vis h H) v x → Rep (vis h H) v y → b = true
  | 0, x, y, v, b, e, ra, rb => eqS_same e ra rb
  | n + 1, x, y, v, b, e, ra, rb => by
    revert e
    refine two_cases (P := fun r => r = some b → b = true) (fun a c ea ec e => ?_) (two_cases (P := fun r => r = some b → b = true) (fun a c ea ec e => ?_) fun e => eqS_same e ra rb)
    · rw [lst?_eq ea] at ra; rw [lst?_eq ec] at rb
      exact eqL_same (itm_same (eqN_same n)) e ra rb
    · rw [tup?_eq ea] at ra; rw [tup?_eq ec] at rb
      exact eqT_same (itm_same (eqN_same n)) e ra rb
/-- what is known of the items of two rows -/
noncomputable def EqF (A : Around) (s : Shared) (H : Hd) (f : AV → AV → Option Bool) : Prop := ∀ x y va vb b, f x y = some b → Rep (vis s.heap H) va x → Rep (vis s.heap H) vb y → EqAt A s va vb b
theorem eq_items {A : Around} {s : Shared} {H : Hd} {f : AV → AV → Option Bool} (hf : EqF A s H f) {xs ys : List AV} {vs ws : List Value} (rl : RepL (vis s.heap H) vs xs) (rl' : RepL (vis s.heap H) ws ys) {e : Nat → Bool} (he : ∀ (j : Nat) x y, xs[j]? = some x → ys[j]? = some y → f x y = some (e j)) :
    ∀ j (h1 : j < vs.toArray.size) (h2 : j < ws.toArray.size), EqAt A s vs.toArray[j] ws.toArray[j] (e j) := fun j h1 h2 => by
  have h1' : j < vs.length := h1
  have h2' : j < ws.length := h2
  have e1 : xs[j]? = some (xs[j]'(by rw [← rl.length]; exact h1')) := List.getElem?_eq_getElem _
  have e2 : ys[j]? = some (ys[j]'(by rw [← rl'.length]; exact h2')) := List.getElem?_eq_getElem _
  obtain ⟨v, hv, rv⟩ := rl.get e1
  obtain ⟨v', hv', rv'⟩ := rl'.get e2
  rw [List.getElem?_eq_getElem h1'] at hv
  rw [List.getElem?_eq_getElem h2'] at hv'
  cases hv; cases hv'
  exact hf _ _ _ _ _ (he j _ _ e1 e2) rv rv'
abbrev EqR (A : Around) (s : Shared) (H : Hd) (x y : AV) (va vb : Value) (b : Bool) : Prop := RcAt A s va vb b ∧ RcNeAt A s va vb (!b) ∧ (Rep (vis s.heap H) va x → Rep (vis s.heap H) vb y → EqAt A s va vb b)
theorem eq_refs {A : Around} {s : Shared} {H : Hd} {x y : AV} {l l' : Addr} {b : Bool} (same : ∀ v, Rep (vis s.heap H) v x → Rep (vis s.heap H) v y → b = true) (g1 : RcAt A s (.ref l) (.ref l') b) (g2 : RcNeAt A s (.ref l) (.ref l') (!b)) : EqR A s H x y (.ref l) (.ref l') b := by
  refine ⟨g1, g2, fun r r' => ?_⟩
  by_cases hll : l = l'
  · subst hll
    rw [same _ r r']
    exact EqAt.same _
  · exact EqAt.of_refs hll g1
theorem eqL_ok {A : Around} {s : Shared} {H : Hd} {f : AV → AV → Option Bool} (hu : A.units < cLine) (hf : EqF A.in1 s H f) (hs : ∀ x y v b, f x y = some b → Rep (vis s.heap H) v x → Rep (vis s.heap H) v y → b = true) {xs ys : List AV} {va vb : Value} {b : Bool} (h : eqL f xs ys = some b) (ra : RepO s.heap H va (.lst xs)) (rb : RepO s.heap H vb (.lst ys)) : EqR A s H (.lst xs) (.lst ys) va vb b := by
  have same : ∀ v, Rep (vis s.heap H) v (.lst xs) → Rep (vis s.heap H) v (.lst ys) → b = true := fun v r r' => eqL_same hs h r r'
  obtain ⟨_, l, vs, rfl, hl, rl⟩ := ra
  obtain ⟨_, l', ws, rfl, hl', rl'⟩ := rb
  have n1 := rl.length
  have n2 := rl'.length
  unfold eqL at h
  split at h
  · rename_i hlen
    have hsz : vs.toArray.size = ws.toArray.size := (n1.trans hlen).trans n2.symm
    obtain ⟨e, he, rfl⟩ := allZ_some h
    have hm : min xs.length ys.length = vs.toArray.size := by rw [← hlen, Nat.min_self]; exact n1.symm
    rw [hm] at same ⊢
    have hE := eq_items hf rl rl' he
    exact eq_refs same (RcAt.lists hl.isList hl'.isList hsz hu hE) (RcNeAt.lists hl.isList hl'.isList hsz hu hE)
  · rename_i hlen
    cases h
    have hsz : (vs.toArray.size != ws.toArray.size) = true := bne_iff_ne.mpr fun z => hlen ((n1.symm.trans z).trans n2)
    exact eq_refs same (RcAt.lists_lengths hl.isList hl'.isList hsz hu) (RcNeAt.lists_lengths hl.isList hl'.isList hsz hu)
theorem eqT_ok {A : Around} {s : Shared} {H : Hd} {f : AV → AV → Option Bool} (hu : A.units < cLine) (hf : EqF A.in1 s H f) (hs : ∀ x y v b, f x y = some b → Rep (vis s.heap H) v x → Rep (vis s.heap H) v y → b = true) {xs ys : List AV} {va vb : Value} {b : Bool} (h : eqT f xs ys = some b) (ra : RepO s.heap H va (.tup xs)) (rb : RepO s.heap H vb (.tup ys)) : EqR A s H (.tup xs) (.tup ys) va vb b := by
  have same : ∀ v, Rep (vis s.heap H) v (.tup xs) → Rep (vis s.heap H) v (.tup ys) → b = true := fun v r r' => eqT_same hs h r r'
  have ra : Rep (vis s.heap H) va (.tup xs) := ra
  have rb : Rep (vis s.heap H) vb (.tup ys) := rb
  simp only [Rep] at ra rb
  obtain ⟨_, l, vs, k, rfl, ⟨_, o, e1, e2, e3, _⟩, rl⟩ := ra
  obtain ⟨_, l', ws, k', rfl, ⟨_, o', e1', e2', e3', _⟩, rl'⟩ := rb
  have hl : s.heap.IsTuple l vs.toArray := ⟨o, e1, e2, k, e3⟩
  have hl' : s.heap.IsTuple l' ws.toArray := ⟨o', e1', e2', k', e3'⟩
  obtain ⟨c, hc, rfl⟩ := Option.map_eq_some_iff.mp h
  obtain ⟨e, he, rfl⟩ := allZ_some hc
  have m1 : xs.length = vs.toArray.size := rl.length.symm
  have m2 : ys.length = ws.toArray.size := rl'.length.symm
  rw [m1, m2] at same ⊢
  have hE := eq_items hf rl rl' he
  exact eq_refs same (RcAt.tuples hl hl' hu hE) (RcNeAt.tuples hl hl' hu hE)
theorem itm_ok {A : Around} {s : Shared} {H : Hd} {f : AV → AV → Option Bool} (hf : EqF A s H f) : EqF A s H (itm f) := fun x y va vb b e ra rb => by
  revert e
  refine two_cases (P := fun r => r = some b → EqAt A s va vb b) (fun a c ea ec e => ?_) fun e => hf x y va vb b e ra rb
  rw [type?_eq ea] at ra; rw [type?_eq ec] at rb
  cases ra; cases rb
  split at e
  · rename_i h; cases e; subst h; exact EqAt.same _
  · cases e
theorem eqN_ok {s : Shared} {H : Hd} : ∀ (n : Nat) {A : Around} {x y : AV} {va vb : Value} {b : Bool}, A.units + n < cLine → eqN n x y = some b → RepO s.heap H va x → RepO s.heap H vb y → EqR A s H x y va vb b
  | 0, A, x, y, va, vb, b, _, h, ra, rb => let ⟨h1, h2, h3⟩ := eqS_ok (A := A) h ra rb; ⟨h1, h2, fun _ _ => h3⟩
  | n + 1, A, x, y, va, vb, b, hu, h, ra, rb => by
    have hf : EqF A.in1 s H (itm (eqN n)) := itm_ok fun x y va vb b e r r' => (eqN_ok n (A := A.in1) (by show A.units + 1 + n < cLine; omega) e (.of r) (.of r')).2.2 r r'
    have hu1 : A.units < cLine := by omega
    revert h
    refine two_cases (P := fun r => r = some b → EqR A s H x y va vb b) (fun a c ea ec h => ?_) (two_cases (P := fun r => r = some b → EqR A s H x y va vb b) (fun a c ea ec h => ?_) fun h => ?_)
    · have ea := lst?_eq ea; have ec := lst?_eq ec
      subst ea; subst ec
      exact eqL_ok hu1 hf (itm_same (eqN_same n)) h ra rb
    · have ea := tup?_eq ea; have ec := tup?_eq ec
      subst ea; subst ec
      exact eqT_ok hu1 hf (itm_same (eqN_same n)) h ra rb
    · obtain ⟨h1, h2, h3⟩ := eqS_ok (A := A) h ra rb
      exact ⟨h1, h2, fun _ _ => h3⟩
noncomputable def eqCmp (op : CmpOp) (x y : AV) : Option Bool := match op with
  | .Eq => eqN 3 x y
  | .NotEq => (eqN 3 x y).map (!·)
  | _ => none
theorem eqCmp_ok {c : Cx} {q : Bool} {k : Nat} {A : Around} {s : Shared} {H : Hd} {op : CmpOp} {x y : AV} {va vb : Value} {r : Bool} (hm : Rm c q (k + 1) A H s) (h : eqCmp op x y = some r) (ra : RepO s.heap H va x) (rb : RepO s.heap H vb y) : Tr c q A H (compareOp op va vb) (.ok (.bool r)) s := by
  have hu : A.units + 3 < cLine := by have := hm.units; omega
  cases op <;> simp only [eqCmp, reduceCtorEq] at h
  · exact fun Q E P => (eqN_ok 3 hu h ra rb).1 _ _ _ _ (Post.old P (Kp.refl _ _) rfl)
  · simp only [Option.map_eq_some_iff] at h
    obtain ⟨b, h, rfl⟩ := h
    exact fun Q E P => (eqN_ok 3 hu h ra rb).2.1 _ _ _ _ (Post.old P (Kp.refl _ _) rfl)

/- order -/
noncomputable def lexI : List Int → List Int → Ordering
  | [], [] => .eq
  | [], _ :: _ => .lt
  | _ :: _, [] => .gt
  | a :: as, b :: bs => if a = b then lexI as bs else if a < b then .lt else .gt
noncomputable def ordB (op : CmpOp) (o : Ordering) : Bool := match op with
  | .Lt => o == .lt
  | .LtE => o != .gt
  | .Gt => o == .gt
  | _ => o != .lt
theorem ints_at : ∀ {vs : List Value} {ns : List Int} {i : Nat}, IntsAre vs ns → i < ns.length → ∃ n t, vs[i]? = some (.int n t) ∧ ns[i]? = some n ∧ ns.drop i = n :: ns.drop (i + 1)
  | _, _, _, .nil, h => by simp at h
  | _, _, 0, .cons n t _, _ => ⟨n, t, rfl, rfl, rfl⟩
  | _, _, i + 1, .cons n t r, h => by
    obtain ⟨m, u, h1, h2, h3⟩ := ints_at (i := i) r (by simpa using h)
    exact ⟨m, u, by simpa using h1, by simpa using h2, by simpa using h3⟩
theorem ints_len : ∀ {vs : List Value} {ns : List Int}, IntsAre vs ns → vs.length = ns.length
  | _, _, .nil => rfl
  | _, _, .cons _ _ r => by simp [ints_len r]
end Mine
end
section
open PySem PySem.W PyProof.Rows
namespace Mine
open SeqAt
set_option maxRecDepth 100000
theorem lexI_drop {ns ms : List Int} {i : Nat} (h1 : i < ns.length) (h2 : ms.length ≤ i) : lexI (ns.drop i) (ms.drop i) = .gt := by
  rw [List.drop_eq_getElem_cons h1, List.drop_of_length_le h2]; rfl
theorem lexI_end {ns ms : List Int} {i : Nat} (h1 : ns.length ≤ i) (h2 : i < ms.length) : lexI (ns.drop i) (ms.drop i) = .lt := by
  rw [List.drop_eq_getElem_cons h2, List.drop_of_length_le h1]; rfl
theorem lexI_both {ns ms : List Int} {i : Nat} (h1 : ns.length ≤ i) (h2 : ms.length ≤ i) : lexI (ns.drop i) (ms.drop i) = .eq := by
  rw [List.drop_of_length_le h1, List.drop_of_length_le h2]; rfl
theorem lexI_step {n m : Int} {ns ms : List Int} (h : (n == m) = true) : lexI (n :: ns) (m :: ms) = lexI ns ms := by
  simp only [lexI]; rw [if_pos (eq_of_beq h)]
theorem lexI_ne {n m : Int} {ns ms : List Int} (h : (n == m) = false) : lexI (n :: ns) (m :: ms) = if n < m then .lt else .gt := by
  simp only [lexI]; rw [if_neg (by simpa using h)]
theorem rc_int_lt {prog : Program} {w : World} {A : Around} {E : Value → Shared → Prop} {s : Shared} {a b : Int} {t u : Tok} {Q : Value → Shared → Prop} (h : Q (.bool (decide (a < b))) s) : wpAny (model prog w) A (richCompare .Lt (.int a t) (.int b u)) Q E s := PySem.P.lt_int h
theorem lt_loop (l b : Addr) (vs ws : List Value) (ns ms : List Int) (n n2 : Nat) (dd dd2 : Option Addr) (sl sl2 : Array (Option Value)) (hi : IntsAre vs ns) (hj : IntsAre ws ms) (k : Nat) :
    ∀ i : Nat, ns.length - i = k → i ≤ ns.length → i ≤ ms.length → Meets (Builtin.«list.__eq__.loop» ⟨[.ref l, .ref b, rawInt i, rawInt 0], []⟩)
      (fun _ R s => s.heap.get? l = some { cls := .type "list", dict := dd, data := .seq vs.toArray n, slots := sl } ∧ s.heap.get? b = some { cls := .type "list", dict := dd2, data := .seq ws.toArray n2, slots := sl2 } ∧
        R (.ok (.ret (.bool (ordB .Lt (lexI (ns.drop i) (ms.drop i)))))) s) := by
  have z1 : vs.toArray.size = ns.length := by simp [ints_len hi]
  have z2 : ws.toArray.size = ms.length := by simp [ints_len hj]
  induction k with
  | zero =>
    intro i hk h1 h2 prog w A R s h
    obtain ⟨hp, g, d, tk, os⟩ := s; obtain ⟨hl, hb, h⟩ := h
    wp_walk using AutoSeq1.wpAny_loadPart' hl, AutoSeq1.wpAny_loadPart' hb
    have hi1 : vs.toArray[((i : Nat) : Int).toNat]? = none := by simp; rw [ints_len hi]; omega
    rw [hi1]
    wp_walk using AutoSeq1.wpAny_loadPart' hl, AutoSeq1.wpAny_loadPart' hb
    show R (.ok (.ret (.bool (decide (vs.toArray.size < ws.toArray.size))))) _
    have e : ordB .Lt (lexI (ns.drop i) (ms.drop i)) = decide (vs.toArray.size < ws.toArray.size) := by
      rw [z1, z2]
      by_cases hm : i < ms.length
      · rw [lexI_end (by omega) hm]
        have : decide (ns.length < ms.length) = true := by simp; omega
        rw [this]; rfl
      · rw [lexI_both (by omega) (by omega)]
        have : decide (ns.length < ms.length) = false := by simp; omega
        rw [this]; rfl
    rw [e] at h
    exact h
  | succ k ih =>
    intro i hk h1 h2 prog w A R s h
    obtain ⟨hp, g, d, tk, os⟩ := s; obtain ⟨hl, hb, h⟩ := h
    wp_walk using AutoSeq1.wpAny_loadPart' hl, AutoSeq1.wpAny_loadPart' hb
    have hlt : i < ns.length := by omega
    obtain ⟨a, t, ea, ea2, ea3⟩ := ints_at hi hlt
    have hi1 : vs.toArray[((i : Nat) : Int).toNat]? = some (.int a t) := by simpa using ea
    rw [hi1]
    by_cases hm : i < ms.length
    · obtain ⟨c, u, ec, ec2, ec3⟩ := ints_at hj hm
      have hi2 : ws.toArray[((i : Nat) : Int).toNat]? = some (.int c u) := by simpa using ec
      rw [hi2]
      have hc : ((i : Int) + 1) = ((i + 1 : Nat) : Int) := by push_cast; rfl
      rw [ea3, ec3] at h
      refine wpAny_bind (EqAt.int_int a t c u prog w _ _ ?_)
      cases hb' : a == c with
      | true =>
        rw [lexI_step hb'] at h
        wp_walk
        rw [hc]
        exact ⟨plainId_quiet MeetsSeq3.plain_eq_loop _, codeAny_builtin MeetsSeq3.entry_eq_loop (by
          rw [Around.under_plainId MeetsSeq3.plain_eq_loop _]
          exact ih (i + 1) (by omega) (by omega) (by omega) prog w A R _ ⟨hl, hb, h⟩)⟩
      | false =>
        rw [lexI_ne hb'] at h
        wp_walk using AutoSeq1.wpAny_loadPart' hl, AutoSeq1.wpAny_loadPart' hb
        rw [hi1, hi2]
        have e : ordB .Lt (if a < c then Ordering.lt else .gt) = decide (a < c) := by
          have hne : a ≠ c := by simpa using hb'
          by_cases hac : a < c
          · rw [if_pos hac]
            have : decide (a < c) = true := by simp; omega
            rw [this]; rfl
          · rw [if_neg hac]
            have : decide (a < c) = false := by simp; omega
            rw [this]; rfl
        rw [e] at h
        refine wpAny_bind (rc_int_lt ?_)
        wp_walk
        exact h
    · have hi2 : ws.toArray[((i : Nat) : Int).toNat]? = none := by simp; rw [ints_len hj]; omega
      rw [hi2]
      wp_walk using AutoSeq1.wpAny_loadPart' hl, AutoSeq1.wpAny_loadPart' hb
      show R (.ok (.ret (.bool (decide (vs.toArray.size < ws.toArray.size))))) _
      have e : ordB .Lt (lexI (ns.drop i) (ms.drop i)) = decide (vs.toArray.size < ws.toArray.size) := by
        rw [z1, z2, lexI_drop hlt (by omega)]
        have : decide (ns.length < ms.length) = false := by simp; omega
        rw [this]; rfl
      rw [e] at h
      exact h
theorem list_lt (l b : Addr) (vs ws : List Value) (ns ms : List Int) (n n2 : Nat) (dd dd2 : Option Addr) (sl sl2 : Array (Option Value)) (hi : IntsAre vs ns) (hj : IntsAre ws ms) :
    Meets (Builtin.«list.__lt__» ⟨[.ref l, .ref b], []⟩)
      (fun _ R s => s.heap.get? l = some { cls := .type "list", dict := dd, data := .seq vs.toArray n, slots := sl } ∧ s.heap.get? b = some { cls := .type "list", dict := dd2, data := .seq ws.toArray n2, slots := sl2 } ∧
        R (.ok (.ret (.bool (ordB .Lt (lexI ns ms))))) s) := by
  intro prog w A R s h
  obtain ⟨hp, g, d, tk, os⟩ := s; obtain ⟨hl, hb, h⟩ := h
  have f3 := AutoSeq1.sub_list_list
  wp_walk using AutoSeq1.wpAny_loadPart' hl, AutoSeq1.wpAny_loadPart' hb
  exact ⟨plainId_quiet MeetsSeq3.plain_eq_loop _, codeAny_builtin MeetsSeq3.entry_eq_loop (by
    rw [Around.under_plainId MeetsSeq3.plain_eq_loop _]
    exact lt_loop l b vs ws ns ms n n2 dd dd2 sl sl2 hi hj _ 0 rfl (Nat.zero_le _) (Nat.zero_le _) prog w A R _ ⟨hl, hb, h⟩)⟩
end Mine
end
section
open PySem PySem.W PyProof.Rows
namespace Mine
set_option maxRecDepth 100000
section
variable {c : Cx} {q : Bool} {k : Nat} {A : Around} {s : Shared} {H : Hd}
theorem rep_tup_is {v : Value} {xs : List AV} (r : Rep (vis s.heap H) v (.tup xs)) : ∃ l vs n sl, v = .ref l ∧ s.heap.get? l = some { cls := .type "tuple", dict := none, data := .seq (List.toArray vs) n, slots := sl } ∧ RepL (vis s.heap H) vs xs ∧ xs.length ≤ 1048576 := by
  simp only [Rep] at r
  obtain ⟨hz, l, vs, n, rfl, ⟨_, ⟨oc, od, odt, os⟩, e, hc, hd, hdi, _⟩, rl⟩ := r
  simp only at hc hd hdi
  subst hc hd hdi
  exact ⟨l, vs, n, os, rfl, e, rl, hz⟩
theorem tups_add {va vb : Value} {xs ys : List AV} (hL : Live H s.heap) (ra : Rep (vis s.heap H) va (.tup xs)) (rb : Rep (vis s.heap H) vb (.tup ys)) (hz : xs.length + ys.length ≤ 1048576) :
    Tr c q A H (binaryOp .Add va vb) (.ok (.tup (xs ++ ys))) s := by
  intro Q E P
  obtain ⟨l, vs, n, sl, rfl, ho, hx, _⟩ := rep_tup_is ra
  obtain ⟨b, ws, n2, sl2, rfl, ho2, hy, _⟩ := rep_tup_is rb
  cases vs with
  | nil =>
    have e : xs = [] := List.eq_nil_of_length_eq_zero (by rw [← hx.length]; rfl)
    subst e
    refine concat_meets ⟨_, ho, rfl⟩ ⟨_, ho2, rfl⟩ noFill_tuple_add seq_tuple_add PySem.F.slot_tuple_add PySem.F.entry_tuple_add (PySem.F.args_tuple_add_2 _ _) (tuple_addW0 l b _ _ n n2 _ _ sl sl2 rfl) ⟨ho, ho2, ?_⟩
    exact Post.old P (Kp.refl _ _) rb
  | cons v vs =>
    cases ws with
    | nil =>
      have e : ys = [] := List.eq_nil_of_length_eq_zero (by rw [← hy.length]; rfl)
      subst e
      rw [List.append_nil] at P
      refine concat_meets ⟨_, ho, rfl⟩ ⟨_, ho2, rfl⟩ noFill_tuple_add seq_tuple_add PySem.F.slot_tuple_add PySem.F.entry_tuple_add (PySem.F.args_tuple_add_2 _ _) (tuple_addW1 l b _ _ n n2 _ _ sl sl2 (by simp) rfl) ⟨ho, ho2, ?_⟩
      exact Post.old P (Kp.refl _ _) ra
    | cons w ws =>
      refine concat_meets ⟨_, ho, rfl⟩ ⟨_, ho2, rfl⟩ noFill_tuple_add seq_tuple_add PySem.F.slot_tuple_add PySem.F.entry_tuple_add (PySem.F.args_tuple_add_2 _ _) (tuple_addW2 l b _ _ n n2 _ _ sl sl2 (by simp) (by simp) (by
        have h1 := hx.length
        have h2 := hy.length
        simp only [List.size_toArray]
        exact line_ok (by omega))) ⟨ho, ho2, ?_⟩
      have e : (v :: vs).toArray ++ (w :: ws).toArray = ((v :: vs) ++ (w :: ws)).toArray := by simp
      rw [e]
      exact Post.old P (Kp.push _) (rep_fresh_tup hL (by simpa using hz) (hx.append hy))
theorem min2_ok {a b : Int} {t u : Tok} (ht : Rep (vis s.heap H) (.int a t) (.int a)) (hu : Rep (vis s.heap H) (.int b u) (.int b)) (hm : Rm c true k A H s) : Tr c true A H (PySem.call (.builtin "min") [.int a t, .int b u]) (.ok (.int (if b < a then b else a))) s := fun Q E P =>
  wpAny_up (min_two_ints (hm.hand rfl) fun h' tk hk hl => by
    have k : Kp A s { s with heap := h', toks := tk } := Kp.of hl hk
    split at P
    · rename_i h; rw [if_pos h]; exact Post.old P k (hu.kp k)
    · rename_i h; rw [if_neg h]; exact Post.old P k (ht.kp k))
theorem truthL_ok {l : Addr} {vs : List Value} {xs : List AV} (hl : IsL s.heap l vs) (hz : xs.length ≤ 1048576) (rl : RepL (vis s.heap H) vs xs) : TrB c A (truthy (.ref l)) (!xs.isEmpty) s := fun Q E P => by
  refine wpAny_truthy_list hl.isList (by rw [List.size_toArray, rl.length]; omega) ?_
  have e : (!vs.toArray.isEmpty) = !xs.isEmpty := by
    have := rl.length
    cases vs with
    | nil => cases xs with
      | nil => rfl
      | cons _ _ => simp at this
    | cons _ _ => cases xs with
      | nil => simp at this
      | cons _ _ => simp
  rw [e]
  exact P _ (Kp.toks (by omega))
end
end Mine
end
section
open PySem PySem.W PyProof.Rows PySem.Calls
namespace Mine
set_option maxRecDepth 100000
set_option linter.unusedVariables false
section
variable {c : Cx} {q : Bool} {k : Nat} {A : Around} {s : Shared} {H : Hd}
end
end Mine
end
section
open PySem PySem.W PyProof.Rows
namespace Mine

/-- built-ins by name -/
inductive BI where
  | len | range | min | sorted
deriving DecidableEq, Inhabited
noncomputable def BI.name : BI → String
  | len => "len" | range => "range" | min => "min"
  | sorted => "sorted"
/-- methods by name -/
inductive MI where
  | index | count | join | other
deriving DecidableEq, Inhabited
noncomputable def MI.name : MI → String
  | index => "index" | count => "count" | join => "join" | other => "other"

abbrev Store := List (Option MO)
/-- an operand: a value, or the list that a slot holds alone -/
inductive OV where
  | av (x : AV)
  | own (i : Nat)
deriving Inhabited
/-- what an expression comes to, with the things that can turn behind it -/
inductive ER where
  | ok (v : OV) (σ : Store)
  | exc (x : EX) (σ : Store)
  | stuck
deriving Inhabited

/-- methods that turn their thing -/
inductive EMI where
  | append | pop
deriving DecidableEq, Inhabited
noncomputable def EMI.name : EMI → String
  | .append => "append" | .pop => "pop"
/-- methods of a list that a slot holds alone -/
inductive OMI where
  | append | insert | remove
deriving DecidableEq, Inhabited
noncomputable def OMI.name : OMI → String
  | .append => "append" | .insert => "insert" | .remove => "remove"
/-- attributes of a class -/
inductive TA where
  | name_ | lengthHint
deriving DecidableEq, Inhabited
noncomputable def TA.name : TA → String
  | .lengthHint => "__length_hint__" | .name_ => "__name__"
mutual
inductive PE where
  | const (v : AV)
  | name (i : Nat)
  | glob (b : BI)
  | bin (op : Operator) (l r : PE)
  | un (op : UnaryOp) (x : PE)
  | cmp (op : CmpOp) (l r : PE)
  | bop (op : BoolOp) (xs : PEs)
  | ife (t a b : PE)
  | list (xs : PEs)
  | tup (xs : PEs)
  | sub (o i : PE)
  | slice (o a b s : PE)
  | call (f : Nat) (xs : PEs)
  | bcall (f : BI) (xs : PEs)
  | comp (caps : List Nat) (elt src : PE) (cond : PEs)
  | isOrEq (i j : Nat)
inductive PEs where
  | nil
  | cons (e : PE) (es : PEs)
end

noncomputable def RepOL (h : Heap) (H : Hd) : List Value → List AV → Prop
  | [], [] => True
  | v :: vs, x :: xs => RepO h H v x ∧ RepOL h H vs xs
  | _, _ => False
theorem RepOL.kp {A : Around} {H : Hd} {s s' : Shared} (k : Kp A s s') : ∀ {vs : List Value} {xs : List AV}, RepOL s.heap H vs xs → RepOL s'.heap H vs xs
  | [], [], _ => trivial
  | [], _ :: _, r => r.elim
  | _ :: _, [], r => r.elim
  | _ :: _, _ :: _, r => ⟨r.1.kp k, RepOL.kp k r.2⟩

/-- what an iterator over a value hands out -/
structure Itr (c : Cx) (A : Around) (I : Addr) (fp : Addr → Prop) (P : Nat → Value → Prop) (G : Nat → Option Int) (n : Nat) (St : Nat → Heap → Prop) : Prop where
  fld : ∀ i h, St i h → ∃ o fs, h.get? I = some o ∧ o.data = .fields fs ∧ ¬ okC o.cls
  nt : ∀ i h, St i h → ∃ o n, h.get? I = some o ∧ o.cls = .type n ∧ ["enumerate", "zip", "dict_itemiterator", "dict_reverseitemiterator", "odict_iterator", "itertools.zip_longest", "itertools.pairwise"].contains n = false
  frame : ∀ i h h', St i h → (∀ b o, fp b → h.get? b = some o → ((∃ fs, o.data = .fields fs) → h'.get? b = some o) ∧ ∃ sl, h'.get? b = some { o with slots := sl }) → St i h'
  item : ∀ i (s : Shared) (Q : Option Value → Shared → Prop) (E : Value → Shared → Prop), i < n → St i s.heap →
    (∀ v h' tk, (P i v ∨ ∃ j, G i = some j ∧ v = .int j s.toks ∧ s.toks < tk) → St (i + 1) h' → (∀ b o, b ≠ I → s.heap.get? b = some o → h'.get? b = some o) → (∃ o, h'.get? I = some o) → Q (some v) { s with heap := h', toks := tk }) → wpAny c.M A (pyNext (.ref I)) Q E s
  done : ∀ (s : Shared) (Q : Option Value → Shared → Prop) (E : Value → Shared → Prop), St n s.heap →
    (∀ h' tk, (∀ b o, b ≠ I → s.heap.get? b = some o → h'.get? b = some o) → Q none { s with heap := h', toks := tk }) → wpAny c.M A (pyNext (.ref I)) Q E s
  self : ∀ i (s : Shared) (Q : Value → Shared → Prop) (E : Value → Shared → Prop), St i s.heap → Q (.ref I) s → wpAny c.M A (pyIter (.ref I)) Q E s

/-- the words that are served -/
structure OpsF where
  bin : Operator → AV → AV → Res
  inpl : Operator → AV → AV → Res
  un : UnaryOp → AV → Res
  cmp : CmpOp → AV → AV → Option Bool
  truth : AV → Option Bool
  idx : AV → AV → Res
  slice : AV → AV → AV → AV → Res
  bcall : BI → List AV → Res
  items : AV → Option (List AV)
  is_ : AV → AV → Option Bool
  isEq : AV → AV → Option Bool
  ometh : OMI → List AV → List AV → Option (List AV)
/-- where may be written -/
noncomputable def Wr (σ : Store) (H : Hd) (lo : Nat) (b : Addr) : Prop := ∃ n mo, lo ≤ n ∧ σ[n]? = some (some mo) ∧ H.m n = some b
/-- a step that turns what may be turned, and makes anew -/
structure Ss (A : Around) (lo : Nat) (σ : Store) (H : Hd) (s : Shared) (σ' : Store) (H' : Hd) (s' : Shared) : Prop where
  rest : ∃ h' tk, s' = { s with heap := h', toks := tk }
  kv : Kv (FrA A) (Wr σ H lo) s.heap s'.heap
  lv : ∀ b o, s.heap.get? b = some o → ∃ o', s'.heap.get? b = some o'
  nf : Nf H s H' s'
  te : ∀ n i, H.t n = some i → H'.t n = some i
  hp : ∀ b, H.p b → H'.p b
  hid : ∀ b, H'.p b → H.p b ∨ s.heap.get? b = none
  mx : ∀ n a, H.m n = some a → H'.m n = some a
  mn : ∀ n a, H'.m n = some a → H.m n = some a ∨ (σ.length ≤ n ∧ s.heap.get? a = none)
  o : H'.o = H.o
  sto : Sto σ' H' s'.heap
  live : Live H' s'.heap
  len : σ.length ≤ σ'.length
  rv : ∀ (n : Nat) mo, n < σ.length → σ'[n]? = some (some mo) → ∃ mo', σ[n]? = some (some mo')
  hm0 : ∀ n a, H.m n = some a → n < σ.length

theorem Ss.of_kp {A : Around} {lo : Nat} {σ : Store} {H : Hd} {s s' : Shared} (k : Kp A s s') (S : Sto σ H s.heap) (L : Live H s.heap) : Ss A lo σ H s σ H s' where
  rest := let ⟨h, t, e, _⟩ := k; ⟨h, t, e⟩
  kv := k.kh.kv
  lv := fun b o e => let ⟨_, q⟩ := (k.kh b o e).2; ⟨_, q⟩
  nf := k.nf
  te := fun _ _ e => e
  hp := fun _ z => z
  hid := fun _ z => .inl z
  mx := fun _ _ z => z
  mn := fun _ _ z => .inl z
  o := rfl
  sto := S.kh k.kh
  live := L.kp k
  len := Nat.le_refl _
  rv := fun n mo _ e => ⟨mo, e⟩
  hm0 := S.lt
theorem Ss.of_kt {A : Around} {lo : Nat} {σ : Store} {H H' : Hd} {s s' : Shared} (k : Kt A H s H' s') (S : Sto σ H s.heap) (L : Live H s.heap) : Ss A lo σ H s σ H' s' where
  rest := let ⟨h, t, e, _⟩ := k.kp; ⟨h, t, e⟩
  kv := k.kp.kh.kv
  lv := fun b o e => let ⟨_, q⟩ := (k.kp.kh b o e).2; ⟨_, q⟩
  nf := k.nf
  te := k.te
  hp := fun _ z => by rw [k.p]; exact z
  hid := fun _ z => .inl (by rw [← k.p]; exact z)
  mx := fun _ _ z => by rw [k.m]; exact z
  mn := fun _ _ z => .inl (by rw [← k.m]; exact z)
  o := k.o
  sto := S.kt k
  live := L.kt k
  len := Nat.le_refl _
  rv := fun n mo _ e => ⟨mo, e⟩
  hm0 := S.lt
theorem Ss.vis {A : Around} {lo : Nat} {σ σ' : Store} {H H' : Hd} {s s' : Shared} (x : Ss A lo σ H s σ' H' s') (S : Sto σ H s.heap) : (vis s.heap H).Le (Mine.vis s'.heap H') := ⟨by
  rintro a c d ⟨n, o, e, r⟩
  have hw : ∀ b, Wr σ H lo b → H.p b := fun b ⟨m, mo, _, e1, e2⟩ => S.hid m b mo e1 e2
  obtain ⟨_, o', e', r'⟩ := (x.kv.vis (H := H) hw).r a c d ⟨n, o, e, r⟩
  refine ⟨fun z => ?_, o', e', r'⟩
  rcases x.hid a z with z | z
  · exact n z
  · (rw [e] at z; cases z), x.mx, x.te⟩
theorem Ss.trans {A : Around} {lo : Nat} {σ σ₁ σ₂ : Store} {H H₁ H₂ : Hd} {s s₁ s₂ : Shared} (x : Ss A lo σ H s σ₁ H₁ s₁) (y : Ss A lo σ₁ H₁ s₁ σ₂ H₂ s₂) : Ss A lo σ H s σ₂ H₂ s₂ := by
  have dead : ∀ b, s₁.heap.get? b = none → s.heap.get? b = none := fun b z => by
    cases q : s.heap.get? b with
    | none => rfl
    | some o => obtain ⟨o', e'⟩ := x.lv b o q; rw [z] at e'; cases e'
  exact {
    rest := by
      obtain ⟨h, t, rfl⟩ := x.rest
      obtain ⟨h', t', rfl⟩ := y.rest
      exact ⟨h', t', rfl⟩
    kv := fun b o n e => by
      have n1 : ¬ Wr σ₁ H₁ lo b := fun ⟨m, mo, l1, e1, e2⟩ => by
        rcases x.mn m b e2 with e2 | ⟨_, e2⟩
        · have hm := x.sto.lt m b (x.mx m b e2)
          rcases Nat.lt_or_ge m σ.length with hl | hl
          · obtain ⟨mo', e3⟩ := x.rv m mo hl e1
            exact n ⟨m, mo', l1, e3, e2⟩
          · exact n (by
              rcases Classical.em (∃ mo', σ[m]? = some (some mo')) with ⟨mo', e3⟩ | e3
              · exact ⟨m, mo', l1, e3, e2⟩
              · exact absurd e2 (fun e2 => by
                  have := x.hm0 m b e2; omega))
        · rw [e] at e2; cases e2
      obtain ⟨p1, sl, p2⟩ := x.kv b o n e
      obtain ⟨q1, sl', q2⟩ := y.kv b _ n1 p2
      exact ⟨fun f => (y.kv b o n1 (p1 f)).1 f, sl', q2⟩
    lv := fun b o e => let ⟨o', e'⟩ := x.lv b o e; y.lv b o' e'
    nf := x.nf.trans y.nf
    te := fun n i e => y.te n i (x.te n i e)
    hp := fun b z => y.hp b (x.hp b z)
    hid := fun b z => by
      rcases y.hid b z with z | z
      · exact x.hid b z
      · exact .inr (dead b z)
    mx := fun n a z => y.mx n a (x.mx n a z)
    mn := fun n a z => by
      rcases y.mn n a z with z | ⟨z1, z2⟩
      · exact x.mn n a z
      · exact .inr ⟨Nat.le_trans x.len z1, dead a z2⟩
    o := y.o.trans x.o
    sto := y.sto
    live := y.live
    len := Nat.le_trans x.len y.len
    hm0 := x.hm0
    rv := fun n mo hl e => by
      obtain ⟨mo', e'⟩ := y.rv n mo (Nat.lt_of_lt_of_le hl x.len) e
      exact x.rv n mo' hl e' }

/-- an operand's value -/
noncomputable def RepW (H : Hd) (R : Vw) (w : Value) : OV → Prop
  | .av x => Rep R w x
  | .own i => ∃ a, H.o i = some a ∧ w = .ref a
noncomputable def RepWL (H : Hd) (R : Vw) : List Value → List OV → Prop
  | [], [] => True
  | v :: vs, x :: xs => RepW H R v x ∧ RepWL H R vs xs
  | _, _ => False
theorem RepW.ss {A : Around} {lo : Nat} {σ σ' : Store} {H H' : Hd} {s s' : Shared} (x : Ss A lo σ H s σ' H' s') (S : Sto σ H s.heap) {w : Value} : ∀ {v : OV}, RepW H (vis s.heap H) w v → RepW H' (vis s'.heap H') w v
  | .av _, r => Rep.mono (x.vis S) r
  | .own i, ⟨a, e, q⟩ => ⟨a, by rw [x.o]; exact e, q⟩
theorem RepWL.ss {A : Around} {lo : Nat} {σ σ' : Store} {H H' : Hd} {s s' : Shared} (x : Ss A lo σ H s σ' H' s') (S : Sto σ H s.heap) : ∀ {ws : List Value} {vs : List OV}, RepWL H (vis s.heap H) ws vs → RepWL H' (vis s'.heap H') ws vs
  | [], [], _ => trivial
  | [], _ :: _, r => r.elim
  | _ :: _, [], r => r.elim
  | _ :: _, _ :: _, r => ⟨RepW.ss x S r.1, RepWL.ss x S r.2⟩

noncomputable def PostE (q : Bool) (A : Around) (lo : Nat) (σ : Store) (H : Hd) (r : ER) (s : Shared) (Q E : Value → Shared → Prop) : Prop := match r with
  | .ok v σ' => ∀ w H' s', Ss A lo σ H s σ' H' s' → RepW H' (vis s'.heap H') w v → Q w s'
  | .exc x σ' => q = true ∧ ∀ e H' sr s', Ss A lo σ H s σ' H' sr → Xp A sr s' e x → E e s'
  | .stuck => False
theorem PostE.ss {q : Bool} {A : Around} {lo : Nat} {σ σ₁ : Store} {H H₁ : Hd} {r : ER} {s s₁ : Shared} {Q E : Value → Shared → Prop} (P : PostE q A lo σ H r s Q E) (x : Ss A lo σ H s σ₁ H₁ s₁) : PostE q A lo σ₁ H₁ r s₁ Q E := by
  cases r with
  | ok v σ' => exact fun w H' s' y r => P w H' s' (x.trans y) r
  | exc z σ' => exact ⟨P.1, fun e H' sr s' y X => P.2 e H' sr s' (x.trans y) X⟩
  | stuck => exact P
/-- a tree comes to r -/
noncomputable def Ev (c : Cx) (q : Bool) (A : Around) (lo : Nat) (σ : Store) (H : Hd) (t : Sem Value) (r : ER) (s : Shared) : Prop := ∀ Q E, PostE q A lo σ H r s Q E → wpAny c.M A t Q E s
noncomputable def EvB (c : Cx) (A : Around) (lo : Nat) (σ : Store) (H : Hd) (t : Sem Bool) (r : Option (Bool × Store)) (s : Shared) : Prop := ∀ b σ', r = some (b, σ') → ∀ Q E, (∀ H' s', Ss A lo σ H s σ' H' s' → Q b s') → wpAny c.M A t Q E s
noncomputable def EvL (c : Cx) (A : Around) (lo : Nat) (σ : Store) (H : Hd) (t : Sem (List Value)) (r : Option (List OV × Store)) (s : Shared) : Prop := ∀ xs σ', r = some (xs, σ') → ∀ Q E, (∀ vs H' s', Ss A lo σ H s σ' H' s' → RepWL H' (vis s'.heap H') vs xs → Q vs s') → wpAny c.M A t Q E s
theorem Ev.stuck {c : Cx} {q : Bool} {A : Around} {lo : Nat} {σ : Store} {H : Hd} {t : Sem Value} {s : Shared} : Ev c q A lo σ H t .stuck s := fun _ _ P => P.elim
noncomputable def ofRes : Res → Store → ER
  | .ok v, σ => .ok (.av v) σ
  | .exc x, σ => .exc x σ
  | .stuck, _ => .stuck
theorem Ev.of_tr {c : Cx} {q : Bool} {A : Around} {lo : Nat} {σ : Store} {H : Hd} {t : Sem Value} {r : Res} {s : Shared} (S : Sto σ H s.heap) (L : Live H s.heap) (X : Tr c q A H t r s) : Ev c q A lo σ H t (ofRes r σ) s := fun Q E P => by
  cases r with
  | ok v => exact X Q E fun w s' H' k r => P w H' s' (.of_kt k S L) r
  | exc x => exact X Q E ⟨P.1, fun e s' Y => P.2 e H s s' (.of_kp (Kp.refl _ _) S L) Y⟩
  | stuck => exact P.elim
/-- nothing that was there is turned -/
theorem Ss.kp {A : Around} {lo : Nat} {σ σ' : Store} {H H' : Hd} {s s' : Shared} (x : Ss A lo σ H s σ' H' s') (hl : σ.length ≤ lo) : Kp A s s' := by
  obtain ⟨h', tk, e⟩ := x.rest
  have := x.kv
  have l := x.nf.2.1
  rw [e] at this l
  refine ⟨h', tk, e, l, ?_⟩
  refine this.kh fun b o _ ⟨n, mo, l1, l2, _⟩ => ?_
  rw [List.getElem?_eq_none (by omega)] at l2; cases l2
theorem Ss.kt {A : Around} {lo : Nat} {σ σ' : Store} {H H' : Hd} {s s' : Shared} (x : Ss A lo σ H s σ' H' s') (hl : σ.length ≤ lo) : Kt A H s (H.wt H'.t) s' := ⟨x.kp hl, rfl, x.te, x.nf.2.2⟩
theorem Ev.pure {c : Cx} {q : Bool} {A : Around} {lo : Nat} {σ σ' : Store} {H : Hd} {t : Sem Value} {y : AV} {s : Shared} (X : Ev c q A lo σ H t (.ok (.av y) σ') s) (hl : σ.length ≤ lo) (hs : σ'.length = σ.length) : Tr c q A H t (.ok y) s := fun Q E P => X Q E fun w H' s' x r => by
  refine P w s' _ (x.kt hl) (Rep.mono (vis_hide (H := H.wt H'.t) x.hp (fun n a e => ?_) fun _ _ e => e) r)
  show H.m n = some a
  rcases x.mn n a e with e | ⟨e1, _⟩
  · exact e
  · have := x.sto.lt n a e; omega
theorem EvB.pure {c : Cx} {A : Around} {lo : Nat} {σ σ' : Store} {H : Hd} {t : Sem Bool} {b : Bool} {s : Shared} (X : EvB c A lo σ H t (some (b, σ')) s) (hl : σ.length ≤ lo) : TrB c A t b s := fun Q E P => X b σ' rfl Q E fun H' s' x => P s' (x.kp hl)

structure OpsOk (c : Cx) (O : OpsF) : Prop where
  bin : ∀ {q k A} {s : Shared} {H op a b va vb}, Rm c q (k + 1) A H s → Live H s.heap → RepO s.heap H va a → RepO s.heap H vb b → Tr c q A H (binaryOp op va vb) (O.bin op a b) s
  inpl : ∀ {q k A} {s : Shared} {H op a b va vb}, Rm c q (k + 1) A H s → Live H s.heap → RepO s.heap H va a → RepO s.heap H vb b → Tr c q A H (inplaceOp op va vb) (O.inpl op a b) s
  un : ∀ {q k A} {s : Shared} {H op a va}, Rm c q (k + 1) A H s → Live H s.heap → RepO s.heap H va a → Tr c q A H (unaryOp op va) (O.un op a) s
  cmp : ∀ {q k A} {s : Shared} {H op a b va vb r}, Rm c q (k + 1) A H s → Live H s.heap → RepO s.heap H va a → RepO s.heap H vb b → O.cmp op a b = some r → Tr c q A H (compareOp op va vb) (.ok (.bool r)) s
  truth : ∀ {q k A} {s : Shared} {H a va r}, Rm c q (k + 1) A H s → Live H s.heap → RepO s.heap H va a → O.truth a = some r → TrB c A (truthy va) r s
  idx : ∀ {q k A} {s : Shared} {H a b va vb}, Rm c q (k + 1) A H s → Live H s.heap → RepO s.heap H va a → RepO s.heap H vb b → Tr c q A H (getItem va vb) (O.idx a b) s
  idxT : ∀ {s : Shared} {H a va b}, RepO s.heap H va a → O.idx a b ≠ .stuck → ∃ T id, s.TypeIs va T ∧ typeLookup (.type T) "__getitem__" = pure (some (.builtin id))
  slice : ∀ {q k A} {s : Shared} {H a x y z va r ux uy uz}, Rm c q (k + 1) A H s → Live H s.heap → RepO s.heap H va a → Rep (vis s.heap H) ux x → Rep (vis s.heap H) uy y → Rep (vis s.heap H) uz z →
    s.heap.get? r = some { cls := .type "slice", data := .fields #[ux, uy, uz] } → Tr c q A H (getItem va (.ref r)) (O.slice a x y z) s
  sliceT : ∀ {s : Shared} {H a va x y z}, RepO s.heap H va a → O.slice a x y z ≠ .stuck → ∃ T id, s.TypeIs va T ∧ typeLookup (.type T) "__getitem__" = pure (some (.builtin id))
  bcall : ∀ {q k A} {s : Shared} {H f v xs vs}, q = true → Rm c q (k + 1) A H s → c.h0.StaysIn s.heap → Live H s.heap → RepOL s.heap H vs xs → bootBuiltins (f.name : Str) = some v → Tr c q A H (PySem.call v vs) (O.bcall f xs) s
  itemsR : ∀ {a xs}, O.items a = some xs → (∀ n, a ≠ .ptr n) ∧ (∀ k ys, a ≠ .itr k ys) ∧ a ≠ .any
  ometh : ∀ {q k A} {s : Shared} {H m D vs xs ws args xs'}, q = true → Rm c q (k + 1) A H s → Live H s.heap → IsL s.heap D vs → xs.length ≤ 1048576 → RepL (vis s.heap H) vs xs → RepL (vis s.heap H) ws args → O.ometh m xs args = some xs' → ∀ (Q E : Value → Shared → Prop),
    (∀ h' vs' tk, IsL h' D vs' → xs'.length ≤ 1048576 → RepL (vis s.heap H) vs' xs' → Heap.SameBut D s.heap h' → Q .none { s with heap := h', toks := tk }) → wpAny c.M A (PySem.call (.builtin ("list." ++ m.name)) (.ref D :: ws)) Q E s
  isEq : ∀ {q k A} {s : Shared} {H a b va vb r}, Rm c q (k + 1) A H s → c.h0.StaysIn s.heap → Live H s.heap → RepO s.heap H va a → RepO s.heap H vb b → O.isEq a b = some r → ∃ i, Tr c q A H (compareOp .Is va vb) (.ok (.bool i)) s ∧ (i = true → r = true) ∧ ∀ s', Kp A s s' → Tr c q A H (compareOp .Eq va vb) (.ok (.bool r)) s'
  is_ : ∀ {q k A} {s : Shared} {H op a b va vb r σ}, Rm c q (k + 1) A H s → Sto σ H s.heap → Rep (vis s.heap H) va a → Rep (vis s.heap H) vb b → O.is_ a b = some r → (op = .Is ∨ op = .IsNot) → Tr c q A H (compareOp op va vb) (.ok (.bool (if op = .Is then r else !r))) s
  items : ∀ {q k A} {s : Shared} {H a va xs}, Rm c q (k + 1) A H s → q = true → Live H s.heap → RepO s.heap H va a → O.items a = some xs → ∀ Q E,
    (∀ I fp P G St h' tk, (∀ b o, s.heap.get? b = some o → h'.get? b = some o) → s.heap.get? I = none → fp I → (∀ b, fp b → ∃ o, h'.get? b = some o) → (∀ b, fp b → b = I ∨ va = .ref b) → xs.length ≤ 1048576 → Itr c A I fp P G xs.length St → St 0 h' →
      (∀ (i : Nat) v x, P i v → xs[i]? = some x → Rep (vis s.heap H) v x) → (∀ (i : Nat) j x, G i = some j → xs[i]? = some x → x = .int j) → Q (.ref I) { s with heap := h', toks := tk }) → wpAny c.M A (pyIter va) Q E s



noncomputable def FnObj (c : Cx) (f : Str) : Prop := ∃ a o fd, c.mg f = some (.ref a) ∧ c.h0.get? a = some o ∧ o.data = .func fd
/-- a def's contract -/
noncomputable def Calls (c : Cx) (k : Nat) (f : Str) (σ : Store) (lo : Nat) (args : List AV) (r : ER) : Prop :=
  ∀ A s H vs a, Rm c true k A H s → c.h0.StaysIn s.heap → Live H s.heap → Sto σ H s.heap → (∀ n a, H.m n = some a → c.h0.get? a = none) → RepL (vis s.heap H) vs args → c.mg f = some (.ref a) → Ev c true A lo σ H (call (.ref a) vs) r s
/-- the defs that may be called -/
abbrev Cal := Store → Nat → Nat → List AV → ER
structure CallsOk (c : Cx) (k : Nat) (call : Cal) (fname : Nat → Str) : Prop where
  ok : ∀ σ lo f args, call σ lo f args ≠ .stuck → Calls c k (fname f) σ lo args (call σ lo f args) ∧ FnObj c (fname f)

structure PR where
  v : ER
  t : Option (Bool × Store)

noncomputable def derefS (ρ : List (Option Ent)) (σ : Store) : OV → AV
  | .own i => match ρ[i]? with
    | some (some (.own xs)) => .lst xs
    | _ => .any
  | .av x => deref σ x
noncomputable def ER.bind : ER → (OV → Store → ER) → ER
  | .ok v σ, f => f v σ
  | .exc x σ, _ => .exc x σ
  | .stuck, _ => .stuck
noncomputable def ER.bindA : ER → (AV → Store → ER) → ER
  | .ok (.av v) σ, f => f v σ
  | .ok (.own _) _, _ => .stuck
  | .exc x σ, _ => .exc x σ
  | .stuck, _ => .stuck
noncomputable def ofB : Option Bool → Store → ER
  | some b, σ => .ok (.av (.bool b)) σ
  | none, _ => .stuck
noncomputable def ER.truth (tr : AV → Option Bool) (ρ : List (Option Ent)) : ER → Option (Bool × Store)
  | .ok v σ => (tr (derefS ρ σ v)).map fun b => (b, σ)
  | _ => none
noncomputable def PR.of (tr : AV → Option Bool) (ρ : List (Option Ent)) (r : ER) : PR := ⟨r, r.truth tr ρ⟩
noncomputable def plains : List OV → Option (List AV)
  | [] => some []
  | .av x :: r => (plains r).map (x :: ·)
  | .own _ :: _ => none
noncomputable def onL (x : Option (List OV × Store)) (f : List OV → Store → ER) : ER := match x with
  | some (l, σ) => f l σ
  | none => .stuck
noncomputable def onP (x : Option (List OV × Store)) (f : List AV → Store → ER) : ER := onL x fun l σ => match plains l with
  | some l => f l σ
  | none => .stuck
noncomputable def mapF (f : AV → Option (Option AV)) : List AV → Option (List AV)
  | [] => some []
  | x :: r => match f x with
    | some (some y) => (mapF f r).map (y :: ·)
    | some none => mapF f r
    | none => none
noncomputable def mask (caps : List Nat) (ρ : List (Option Ent)) : List (Option Ent) := ρ.mapIdx fun i e => if caps.contains i then e else none
noncomputable def elemF (n : Nat) : ER → Option AV
  | .ok (.av v) σ => if σ.length = n then some v else none
  | _ => none
noncomputable def compF (n : Nat) (t : Option (Bool × Store)) (e : ER) : Option (Option AV) := match t with
  | some (true, _) => (elemF n e).map some
  | some (false, _) => some none
  | none => none

/-- the state within a comprehension -/
noncomputable def Fs.inner (st : Fs) (caps : List Nat) (x : AV) : Fs := ⟨mask caps st.ρ ++ [some (.val x)], st.σ, st.σ.length, st.n0⟩
abbrev Fs.at (st : Fs) (σ : Store) : Fs := { st with σ := σ }
noncomputable def slotV (st : Fs) (i : Nat) : ER := match st.ρ[i]? with
  | some (some (.val v)) => .ok (.av v) st.σ
  | some (some (.own _)) => .ok (.own i) st.σ
  | _ => .stuck
noncomputable def onItems (x : Option (List AV)) (f : List AV → ER) : ER := match x with
  | some l => f l
  | none => .stuck
section
variable (O : OpsF) (cal : Cal) (q : Bool)
mutual
noncomputable def pe (st : Fs) : PE → PR
  | .const v => .of O.truth st.ρ (.ok (.av v) st.σ)
  | .name i => .of O.truth st.ρ (slotV st i)
  | .glob b => .of O.truth st.ρ (.ok (.av (.type b.name)) st.σ)
  | .bin op l r => .of O.truth st.ρ ((pe st l).v.bind fun a σ₁ => (pe (st.at σ₁) r).v.bind fun b σ₂ => ofRes (O.bin op (derefS st.ρ σ₂ a) (derefS st.ρ σ₂ b)) σ₂)
  | .un op x => ⟨(pe st x).v.bind fun a σ₁ => ofRes (O.un op (derefS st.ρ σ₁ a)) σ₁, match op with | .Not => (pe st x).t.map fun p => (!p.1, p.2) | _ => ((pe st x).v.bind fun a σ₁ => ofRes (O.un op (derefS st.ρ σ₁ a)) σ₁).truth O.truth st.ρ⟩
  | .cmp op l r => .of O.truth st.ρ (match op with
    | .Is => (pe st l).v.bindA fun a σ₁ => (pe (st.at σ₁) r).v.bindA fun b σ₂ => ofB (O.is_ a b) σ₂
    | .IsNot => (pe st l).v.bindA fun a σ₁ => (pe (st.at σ₁) r).v.bindA fun b σ₂ => ofB ((O.is_ a b).map (!·)) σ₂
    | op => (pe st l).v.bind fun a σ₁ => (pe (st.at σ₁) r).v.bind fun b σ₂ => ofB (O.cmp op (derefS st.ρ σ₂ a) (derefS st.ρ σ₂ b)) σ₂)
  | .bop op xs => ⟨pbop st op xs, pall st op xs⟩
  | .ife t a b => match (pe st t).t with
    | some (true, σ₁) => pe (st.at σ₁) a
    | some (false, σ₁) => pe (st.at σ₁) b
    | none => ⟨.stuck, none⟩
  | .list xs => .of O.truth st.ρ (onP (pes st xs) fun l σ₁ => if l.length ≤ 100 then .ok (.av (.lst l)) σ₁ else .stuck)
  | .tup xs => .of O.truth st.ρ (onP (pes st xs) fun l σ₁ => if l.length ≤ 100 then .ok (.av (.tup l)) σ₁ else .stuck)
  | .sub o i => .of O.truth st.ρ ((pe st o).v.bind fun a σ₁ => (pe (st.at σ₁) i).v.bind fun b σ₂ => ofRes (O.idx (derefS st.ρ σ₂ a) (derefS st.ρ σ₂ b)) σ₂)
  | .slice o a b s => .of O.truth st.ρ ((pe st o).v.bind fun v σ₁ => (pe (st.at σ₁) a).v.bindA fun x σ₂ => (pe (st.at σ₂) b).v.bindA fun y σ₃ => (pe (st.at σ₃) s).v.bindA fun z σ₄ => ofRes (O.slice (derefS st.ρ σ₄ v) x y z) σ₄)
  | .call f xs => .of O.truth st.ρ (match q with | true => onP (pes st xs) fun l σ₁ => cal σ₁ st.lo f l | false => .stuck)
  | .bcall f xs => .of O.truth st.ρ (match q with | true => onL (pes st xs) fun l σ₁ => ofRes (O.bcall f (l.map (derefS st.ρ σ₁))) σ₁ | false => .stuck)
  | .isOrEq i j => ⟨.stuck, match st.ρ[i]?, st.ρ[j]? with
    | some (some (.val a)), some (some (.val b)) => (O.isEq (deref st.σ a) (deref st.σ b)).map fun r => (r, st.σ)
    | _, _ => none⟩
  | .comp caps elt src conds => .of O.truth st.ρ (match q with
    | true => (pe st src).v.bind fun a σ₁ => onItems (O.items (derefS st.ρ σ₁ a)) fun l =>
      onItems (mapF (fun x => compF σ₁.length (pall ((st.at σ₁).inner caps x) .And conds) (pe ((st.at σ₁).inner caps x) elt).v) l) fun ys => .ok (.av (.lst ys)) σ₁
    | false => .stuck)
noncomputable def pes (st : Fs) : PEs → Option (List OV × Store)
  | .nil => some ([], st.σ)
  | .cons e es => match (pe st e).v with
    | .ok v σ₁ => (match pes (st.at σ₁) es with
      | some (l, σ₂) => some (v :: l, σ₂)
      | none => none)
    | _ => none
noncomputable def pall (st : Fs) (op : BoolOp) : PEs → Option (Bool × Store)
  | .nil => some (op == .And, st.σ)
  | .cons e es => match op, (pe st e).t with
    | .And, some (false, σ₁) => some (false, σ₁)
    | .Or, some (true, σ₁) => some (true, σ₁)
    | .And, some (true, σ₁) => pall (st.at σ₁) .And es
    | .Or, some (false, σ₁) => pall (st.at σ₁) .Or es
    | _, none => none
noncomputable def pbop (st : Fs) (op : BoolOp) : PEs → ER
  | .nil => .stuck
  | .cons e .nil => (pe st e).v
  | .cons e (.cons e' es) => (pe st e).v.bind fun v σ₁ => match op, O.truth (derefS st.ρ σ₁ v) with
    | .And, some false => .ok v σ₁
    | .Or, some true => .ok v σ₁
    | .And, some true => pbop (st.at σ₁) .And (.cons e' es)
    | .Or, some false => pbop (st.at σ₁) .Or (.cons e' es)
    | _, none => .stuck
end
end
/- equations -/
section
variable {O : OpsF} {cal : Cal} {q : Bool} {st : Fs}
theorem qe_const {v} : pe O cal q st (.const v) = .of O.truth st.ρ (.ok (.av v) st.σ) := rfl
theorem qe_name {i} : pe O cal q st (.name i) = .of O.truth st.ρ (slotV st i) := rfl
theorem qe_glob {b} : pe O cal q st (.glob b) = .of O.truth st.ρ (.ok (.av (.type b.name)) st.σ) := rfl
theorem qe_bin {op l r} : pe O cal q st (.bin op l r) = .of O.truth st.ρ ((pe O cal q st l).v.bind fun a σ₁ => (pe O cal q (st.at σ₁) r).v.bind fun b σ₂ => ofRes (O.bin op (derefS st.ρ σ₂ a) (derefS st.ρ σ₂ b)) σ₂) := rfl
theorem qe_un {op x} : pe O cal q st (.un op x) = ⟨(pe O cal q st x).v.bind fun a σ₁ => ofRes (O.un op (derefS st.ρ σ₁ a)) σ₁, match op with | .Not => (pe O cal q st x).t.map fun p => (!p.1, p.2) | _ => ((pe O cal q st x).v.bind fun a σ₁ => ofRes (O.un op (derefS st.ρ σ₁ a)) σ₁).truth O.truth st.ρ⟩ := rfl
theorem qe_cmp {op l r} : pe O cal q st (.cmp op l r) = .of O.truth st.ρ (match op with
    | .Is => (pe O cal q st l).v.bindA fun a σ₁ => (pe O cal q (st.at σ₁) r).v.bindA fun b σ₂ => ofB (O.is_ a b) σ₂
    | .IsNot => (pe O cal q st l).v.bindA fun a σ₁ => (pe O cal q (st.at σ₁) r).v.bindA fun b σ₂ => ofB ((O.is_ a b).map (!·)) σ₂
    | op => (pe O cal q st l).v.bind fun a σ₁ => (pe O cal q (st.at σ₁) r).v.bind fun b σ₂ => ofB (O.cmp op (derefS st.ρ σ₂ a) (derefS st.ρ σ₂ b)) σ₂) := rfl
theorem qe_bop {op xs} : pe O cal q st (.bop op xs) = ⟨pbop O cal q st op xs, pall O cal q st op xs⟩ := rfl
theorem qe_ife {t a b} : pe O cal q st (.ife t a b) = match (pe O cal q st t).t with
    | some (true, σ₁) => pe O cal q (st.at σ₁) a
    | some (false, σ₁) => pe O cal q (st.at σ₁) b
    | none => ⟨.stuck, none⟩ := rfl
theorem qe_list {xs} : pe O cal q st (.list xs) = .of O.truth st.ρ (onP (pes O cal q st xs) fun l σ₁ => if l.length ≤ 100 then .ok (.av (.lst l)) σ₁ else .stuck) := rfl
theorem qe_tup {xs} : pe O cal q st (.tup xs) = .of O.truth st.ρ (onP (pes O cal q st xs) fun l σ₁ => if l.length ≤ 100 then .ok (.av (.tup l)) σ₁ else .stuck) := rfl
theorem qe_sub {o i} : pe O cal q st (.sub o i) = .of O.truth st.ρ ((pe O cal q st o).v.bind fun a σ₁ => (pe O cal q (st.at σ₁) i).v.bind fun b σ₂ => ofRes (O.idx (derefS st.ρ σ₂ a) (derefS st.ρ σ₂ b)) σ₂) := rfl
theorem qe_slice {o a b s} : pe O cal q st (.slice o a b s) = .of O.truth st.ρ ((pe O cal q st o).v.bind fun v σ₁ => (pe O cal q (st.at σ₁) a).v.bindA fun x σ₂ => (pe O cal q (st.at σ₂) b).v.bindA fun y σ₃ => (pe O cal q (st.at σ₃) s).v.bindA fun z σ₄ => ofRes (O.slice (derefS st.ρ σ₄ v) x y z) σ₄) := rfl
theorem qe_call {f xs} : pe O cal q st (.call f xs) = .of O.truth st.ρ (match q with | true => onP (pes O cal q st xs) fun l σ₁ => cal σ₁ st.lo f l | false => .stuck) := rfl
theorem qe_bcall {f xs} : pe O cal q st (.bcall f xs) = .of O.truth st.ρ (match q with | true => onL (pes O cal q st xs) fun l σ₁ => ofRes (O.bcall f (l.map (derefS st.ρ σ₁))) σ₁ | false => .stuck) := rfl
theorem qe_isOrEq {i j} : pe O cal q st (.isOrEq i j) = ⟨.stuck, match st.ρ[i]?, st.ρ[j]? with
    | some (some (.val a)), some (some (.val b)) => (O.isEq (deref st.σ a) (deref st.σ b)).map fun r => (r, st.σ)
    | _, _ => none⟩ := rfl
theorem qe_comp {caps elt src conds} : pe O cal q st (.comp caps elt src conds) = .of O.truth st.ρ (match q with
    | true => (pe O cal q st src).v.bind fun a σ₁ => onItems (O.items (derefS st.ρ σ₁ a)) fun l =>
      onItems (mapF (fun x => compF σ₁.length (pall O cal q ((st.at σ₁).inner caps x) .And conds) (pe O cal q ((st.at σ₁).inner caps x) elt).v) l) fun ys => .ok (.av (.lst ys)) σ₁
    | false => .stuck) := rfl
theorem qes_nil : pes O cal q st .nil = some ([], st.σ) := rfl
theorem qes_cons {e es} : pes O cal q st (.cons e es) = match (pe O cal q st e).v with
    | .ok v σ₁ => (match pes O cal q (st.at σ₁) es with
      | some (l, σ₂) => some (v :: l, σ₂)
      | none => none)
    | _ => none := rfl
end
/- equations end -/
end Mine
end
section
open PySem PySem.W PyProof.Rows
namespace Mine

theorem closure_ok {env : Env} : ∀ (names : List (Str × NameKind)) (acc : List (Str × Addr)), (∀ y, (y, NameKind.free) ∈ names → (env.cells.lookup y).isSome = true) →
    ∃ cl, (forIn names acc fun (p : Str × NameKind) (cs : List (Str × Addr)) => (if (p.2 == NameKind.free) = true then do let a ← cellOf env p.1; pure (ForInStep.yield ((p.1, a) :: cs)) else pure (ForInStep.yield cs) : Sem (ForInStep (List (Str × Addr))))) = pure cl ∧
      (∀ y cc, cl.lookup y = some cc → (env.cells.lookup y = some cc ∧ (y, NameKind.free) ∈ names) ∨ acc.lookup y = some cc) ∧ (∀ y, (y, NameKind.free) ∈ names ∨ (∃ cc, acc.lookup y = some cc ∧ env.cells.lookup y = some cc) → cl.lookup y = env.cells.lookup y)
  | [], acc, _ => ⟨acc, by rw [List.forIn_nil], fun _ _ e => .inr e, fun y h => by
      rcases h with h | ⟨cc, a, b⟩
      · cases h
      · rw [a, b]⟩
  | (n, kd) :: r, acc, h => by
    rw [List.forIn_cons]
    by_cases hk : (kd == NameKind.free) = true
    · have hkf : kd = .free := by simpa using hk
      subst hkf
      obtain ⟨a, ha⟩ := Option.isSome_iff_exists.mp (h n (List.mem_cons_self ..))
      obtain ⟨cl, e, p1, p2⟩ := closure_ok r ((n, a) :: acc) fun y hy => h y (List.mem_cons_of_mem _ hy)
      refine ⟨cl, ?_, fun y cc q => ?_, fun y hy => ?_⟩
      · simp only [beq_self_eq_true, if_true]
        have : cellOf env n = pure a := by unfold cellOf; rw [ha]
        rw [this]
        simpa using e
      · rcases p1 y cc q with q | q
        · exact .inl ⟨q.1, List.mem_cons_of_mem _ q.2⟩
        · rw [List.lookup_cons] at q
          cases hb : y == n with
          | true => rw [hb] at q; cases q; rw [beq_iff_eq.mp hb]; exact .inl ⟨ha, List.mem_cons_self ..⟩
          | false => rw [hb] at q; exact .inr q
      · refine p2 y ?_
        by_cases hyn : y = n
        · subst hyn; exact .inr ⟨a, by simp, ha⟩
        · rcases hy with hy | ⟨cc, q1, q2⟩
          · rcases List.mem_cons.mp hy with e' | hy
            · cases e'; exact absurd rfl hyn
            · exact .inl hy
          · refine .inr ⟨cc, ?_, q2⟩
            rw [List.lookup_cons]
            have : (y == n) = false := by simpa using hyn
            rw [this]; exact q1
    · obtain ⟨cl, e, p1, p2⟩ := closure_ok r acc fun y hy => h y (List.mem_cons_of_mem _ hy)
      refine ⟨cl, ?_, fun y cc q => (p1 y cc q).imp (fun z => ⟨z.1, List.mem_cons_of_mem _ z.2⟩) id, fun y hy => p2 y ?_⟩
      · rw [if_neg hk]; simpa using e
      · rcases hy with hy | hy
        · rcases List.mem_cons.mp hy with e' | hy
          · cases e'; exact absurd rfl hk
          · exact .inl hy
        · exact .inr hy
theorem closureFor_ok3 {env : Env} {scope : Scope} (h : ∀ y, (y, NameKind.free) ∈ scope.names → (env.cells.lookup y).isSome = true) :
    ∃ cl, closureFor scope env = pure cl ∧ (∀ y cc, cl.lookup y = some cc → env.cells.lookup y = some cc) ∧ (∀ y, (y, NameKind.free) ∈ scope.names → cl.lookup y = env.cells.lookup y) ∧ ∀ y cc, cl.lookup y = some cc → (y, NameKind.free) ∈ scope.names := by
  obtain ⟨cl, e, p1, p2⟩ := closure_ok scope.names [] h
  refine ⟨cl, ?_, fun y cc q => (p1 y cc q).elim (·.1) fun q => by simp at q, fun y hy => p2 y (.inl hy), fun y cc q => (p1 y cc q).elim (·.2) fun q => by simp at q⟩
  unfold closureFor
  simp only [bind_pure_comp] at e ⊢
  first
    | (rw [← e]; done)
    | (simpa using e)
/-- the tests of a comprehension -/
abbrev testsOf (ifs : List Expr) (env : Env) : Sem Bool := forIn ifs true fun c r => if r = true then do let ok ← isTrue c env (eval c env); pure (ForInStep.yield ok) else pure (ForInStep.yield r)

end Mine
end
section
open PySem PySem.W PyProof.Rows
namespace Mine

theorem lookup_relabel_free {env : Env} (hk : env.scope.kind = .function) : ∀ {names : List (Str × NameKind)} {x : Str}, names.lookup x = some .free → env.kindOf x = some .cell →
    (names.map fun (n, k) => if (k == NameKind.free && env.scope.kind == .function && env.kindOf n == some .cell) then (n, NameKind.cell) else (n, k)).lookup x = some .cell
  | [], _, h, _ => by simp at h
  | (n, k) :: r, x, h, hc => by
    have ih := @lookup_relabel_free env hk r x
    show List.lookup x ((if (k == NameKind.free && env.scope.kind == .function && env.kindOf n == some .cell) = true then (n, NameKind.cell) else (n, k)) :: _) = _
    cases hx : x == n with
    | true =>
      simp only [List.lookup_cons, hx] at h
      cases h
      have e : x = n := beq_iff_eq.mp hx
      subst e
      have : (NameKind.free == NameKind.free && env.scope.kind == .function && env.kindOf x == some .cell) = true := by rw [hk, hc]; decide
      rw [if_pos this]
      simp [List.lookup_cons]
    | false =>
      simp only [List.lookup_cons, hx] at h
      by_cases hcc : (k == NameKind.free && env.scope.kind == .function && env.kindOf n == some .cell) = true
      · rw [if_pos hcc]; simp only [List.lookup_cons, hx]; exact ih h hc
      · rw [if_neg hcc]; simp only [List.lookup_cons, hx]; exact ih h hc
theorem lookup_relabel_cell {env : Env} : ∀ {names : List (Str × NameKind)} {x : Str}, (∀ y ∈ names, y.2 ≠ .cell) →
    (names.map fun (n, k) => if (k == NameKind.free && env.scope.kind == .function && env.kindOf n == some .cell) then (n, NameKind.cell) else (n, k)).lookup x = some .cell → (x, NameKind.free) ∈ names ∧ env.kindOf x = some .cell
  | [], _, _, h => by simp at h
  | (n, k) :: r, x, hno, h => by
    have ih := @lookup_relabel_cell env r x fun y hy => hno y (List.mem_cons_of_mem _ hy)
    have h : List.lookup x ((if (k == NameKind.free && env.scope.kind == .function && env.kindOf n == some .cell) = true then (n, NameKind.cell) else (n, k)) :: (r.map fun (n, k) => if (k == NameKind.free && env.scope.kind == .function && env.kindOf n == some .cell) then (n, NameKind.cell) else (n, k))) = some .cell := h
    cases hx : x == n with
    | true =>
      have e : x = n := beq_iff_eq.mp hx
      subst e
      by_cases hcc : (k == NameKind.free && env.scope.kind == .function && env.kindOf x == some .cell) = true
      · simp only [Bool.and_eq_true, beq_iff_eq] at hcc
        obtain ⟨⟨h1, _⟩, h3⟩ := hcc
        subst h1
        exact ⟨List.mem_cons_self .., h3⟩
      · rw [if_neg hcc] at h
        simp only [List.lookup_cons, hx] at h
        cases h
        exact absurd rfl (hno (x, NameKind.cell) (List.mem_cons_self ..))
    | false =>
      have : List.lookup x (r.map fun (n, k) => if (k == NameKind.free && env.scope.kind == .function && env.kindOf n == some .cell) then (n, NameKind.cell) else (n, k)) = some .cell := by
        by_cases hcc : (k == NameKind.free && env.scope.kind == .function && env.kindOf n == some .cell) = true
        · rw [if_pos hcc] at h; simpa only [List.lookup_cons, hx] using h
        · rw [if_neg hcc] at h; simpa only [List.lookup_cons, hx] using h
      exact ⟨List.mem_cons_of_mem _ (ih this).1, (ih this).2⟩

theorem vis_new {Fr : Addr → Prop} {H H₃ : Hd} {h h₂ : Heap} (k : Kh Fr h h₂) (hN : ∀ b, H₃.p b → H.p b ∨ h.get? b = none) (hT : ∀ n i, H.t n = some i → H₃.t n = some i) (hM : ∀ n a, H.m n = some a → H₃.m n = some a) : (vis h H).Le (vis h₂ H₃) := ⟨by
  rintro a c d ⟨n, o, e, r⟩
  obtain ⟨_, o', e', r'⟩ := (k.vis (H := H)).r a c d ⟨n, o, e, r⟩
  refine ⟨fun z => ?_, o', e', r'⟩
  rcases hN a z with z | z
  · exact n z
  · (rw [e] at z; cases z), hM, hT⟩
theorem Sto.new {Fr : Addr → Prop} {σ : Store} {H H₃ : Hd} {h h₂ : Heap} (S : Sto σ H h) (k : Kh Fr h h₂) (hH : ∀ b, H.p b → H₃.p b) (hN : ∀ b, H₃.p b → H.p b ∨ h.get? b = none) (hT : ∀ n i, H.t n = some i → H₃.t n = some i) (hM : H₃.m = H.m) : Sto σ H₃ h₂ where
  at' := fun n mo e => let ⟨a, q, r⟩ := S.at' n mo e; ⟨a, by rw [hM]; exact q, r.kv (k.kv (W := fun _ => False)) id (vis_new k hN hT fun n a e => by rw [hM]; exact e)⟩
  inj := fun n n' a e e' => S.inj n n' a (by rw [← hM]; exact e) (by rw [← hM]; exact e')
  lt := fun n a e => S.lt n a (by rw [← hM]; exact e)
  hid := fun n a mo q e => hH a (S.hid n a mo q (by rw [← hM]; exact e))
  al := fun n a e => let ⟨_, q⟩ := S.al n a (by rw [← hM]; exact e); let ⟨_, q'⟩ := (k a _ q).2; ⟨_, q'⟩
  tot := fun n a e => S.tot n a (by rw [← hM]; exact e)

theorem mask_get {caps : List Nat} {ρ : List (Option Ent)} {i : Nat} {t : Ent} (h : (mask caps ρ)[i]? = some (some t)) : i ∈ caps ∧ ρ[i]? = some (some t) := by
  unfold mask at h
  rw [List.getElem?_mapIdx] at h
  cases q : ρ[i]? with
  | none => rw [q] at h; simp at h
  | some e =>
    rw [q] at h
    simp only [Option.map_some, Option.some.injEq] at h
    split at h
    · rename_i hc
      exact ⟨by simpa using hc, by rw [h]⟩
    · cases h
theorem mask_length {caps : List Nat} {ρ : List (Option Ent)} : (mask caps ρ).length = ρ.length := by simp [mask]

structure CompOk (names : List Str) (env : Env) (scope : Scope) (x : Str) (caps : List Nat) : Prop where
  cell : ∀ y ∈ scope.names, y.2 ≠ .cell
  kind : scope.kind = .function
  loc : ∀ y ∈ scope.names, y.2 = .local → scope.names.lookup y.1 = some .local
  var : scope.names.lookup x = some .local
  free : ∀ y, (y, NameKind.free) ∈ scope.names → env.kindOf y = some .cell
  cap : ∀ i ∈ caps, ∀ y, names[i]? = some y → scope.names.lookup y = some .free

theorem comp_fm {c : Cx} {Fr : Addr → Prop} {names : List Str} {env cenv : Env} {st : Fs} {fe : FE} {H H₃ : Hd} {h h₂ : Heap} {scope : Scope} {x : Str} {caps : List Nat} {m : Str → Option Value} {v : Value} {item : AV}
    (F : Fm c Fr names env st fe H h) (hlen : st.ρ.length = names.length) (K : CompOk names env scope x caps) (k : Kh Fr h h₂) (hH : ∀ b, H.p b → H₃.p b) (hN : ∀ b, H₃.p b → H.p b ∨ h.get? b = none) (hT : ∀ n i, H.t n = some i → H₃.t n = some i) (hM : H₃.m = H.m) (hO : H₃.o = H.o) (hL : Live H₃ h₂)
    (hC : h₂.Ns cenv.locals m) (hCH : H₃.p cenv.locals) (hCn : h.get? cenv.locals = none) (hmx : m x = some v) (hr : Rep (vis h₂ H₃) v item) (hsc : cenv.scope = relabel scope env) (hg : cenv.globals = env.globals) (hb : cenv.builtins = env.builtins) (hcd : cenv.code = env.code)
    (hcl1 : ∀ y cc, cenv.cells.lookup y = some cc → env.cells.lookup y = some cc) (hcl2 : ∀ y, (y, NameKind.free) ∈ scope.names → cenv.cells.lookup y = env.cells.lookup y) :
    Fm c Fr (names ++ [x]) cenv (st.inner caps item) fe H₃ h₂ := by
  have kx : cenv.kindOf x = some .local := by
    show cenv.scope.names.lookup x = some .local
    rw [hsc]; exact lookup_relabel_local K.var
  have kc : ∀ y, scope.names.lookup y = some .free → cenv.kindOf y = some .cell := fun y hy => by
    show cenv.scope.names.lookup y = some .cell
    rw [hsc]; exact lookup_relabel_free F.kind hy (K.free y (mem_of_lookup hy))
  have get : ∀ (i : Nat) y t, (names ++ [x])[i]? = some y → (mask caps st.ρ ++ [some (Ent.val item)])[i]? = some (some t) → (i = names.length ∧ y = x ∧ t = .val item) ∨ (i < names.length ∧ names[i]? = some y ∧ i ∈ caps ∧ st.ρ[i]? = some (some t)) := by
    intro i y t h1 h2
    by_cases hi : i < names.length
    · rw [List.getElem?_append_left hi] at h1
      rw [List.getElem?_append_left (by rw [mask_length, hlen]; exact hi)] at h2
      exact .inr ⟨hi, h1, mask_get h2⟩
    · have hge : names.length ≤ i := Nat.le_of_not_lt hi
      rw [List.getElem?_append_right hge] at h1
      rw [List.getElem?_append_right (by rw [mask_length, hlen]; exact hge), mask_length, hlen] at h2
      cases hz : i - names.length with
      | zero => rw [hz] at h1 h2; simp at h1 h2; exact .inl ⟨by omega, h1.symm, h2.symm⟩
      | succ n => rw [hz] at h1; simp at h1
  have kn : ∀ {b}, h₂.get? b = none → fe.h.get? b = none → True := fun _ _ => trivial
  exact {
    keep := F.keep.trans k.kv
    wsub := F.wsub
    base := F.base
    baseF := F.baseF
    basew := F.basew
    hle := fun b q => hH b (F.hle b q)
    mle := fun n a e => by rw [hM]; exact F.mle n a e
    mold := fun n a l e => F.mold n a l (by rw [← hM]; exact e)
    mnew := fun n a l e => F.mnew n a l (by rw [← hM]; exact e)
    mw := fun n a mo l l' q e => absurd (Nat.lt_of_lt_of_le l F.n0le) (Nat.not_lt.mpr l')
    hlt := hL
    felt := F.felt
    wlt := F.wlt
    kind := by rw [hsc]; exact K.kind
    glob := hg.trans F.glob
    bi := hb.trans F.bi
    code := by rw [hcd]; exact F.code
    ns := ⟨m, hC⟩
    hl := hCH
    lnew := by
      cases e : fe.h.get? cenv.locals with
      | none => rfl
      | some o =>
        exfalso
        by_cases hw : fe.w cenv.locals
        · obtain ⟨o', e'⟩ := F.hlt _ (F.hle _ (F.wsub _ hw))
          rw [hCn] at e'; cases e'
        · obtain ⟨sl, e'⟩ := (F.keep _ o hw e).2
          rw [hCn] at e'; cases e'
    hc := fun y cc qk q => by
      have qk : cenv.scope.names.lookup y = some .cell := qk
      rw [hsc] at qk
      obtain ⟨_, q2⟩ := lookup_relabel_cell K.cell qk
      obtain ⟨a, b⟩ := F.hc y cc q2 (hcl1 y cc q)
      exact ⟨hH _ a, b⟩
    cl := fun y q => by
      have q : cenv.scope.names.lookup y = some .cell := q
      rw [hsc] at q
      obtain ⟨q1, q2⟩ := lookup_relabel_cell K.cell q
      obtain ⟨cc, w, e, n⟩ := F.cl y q2
      exact ⟨cc, w, (hcl2 y q1).trans e, k.cell n⟩
    capart := fun y z cc a b => F.capart y z cc (hcl1 y cc a) (hcl1 z cc b)
    vals := fun i y t h1 h2 => by
      rcases get i y t h1 h2 with ⟨_, rfl, rfl⟩ | ⟨_, n1, n2, n3⟩
      · exact ⟨v, .inl ⟨kx, m, hC, hmx⟩, hr⟩
      · obtain ⟨w, nv, r⟩ := F.vals i y t n1 n3
        have hfr := K.cap i n2 y n1
        have hcell := K.free y (mem_of_lookup hfr)
        rcases nv with ⟨q, _⟩ | ⟨q, cc, e, n⟩
        · rw [hcell] at q; cases q
        · exact ⟨w, .inr ⟨kc y hfr, cc, (hcl2 y (mem_of_lookup hfr)).trans e, k.cell n⟩, r.mono (vis_new k hN hT fun n a e => by rw [hM]; exact e) (fun a e => by rw [hO]; exact e) fun a vs _ l => k.isL l⟩
    own := fun i a e => by
      rw [hO] at e
      obtain ⟨p, q, r, vs, l⟩ := F.own i a e
      exact ⟨hH a p, q, fun n => by rw [hM]; exact r n, vs, k.isL l⟩
    oinj := fun i j a => by rw [hO]; exact F.oinj i j a
    sto := F.sto.new k hH hN hT hM
    mh0 := fun n a e => F.mh0 n a (by rw [← hM]; exact e)
    n0le := F.n0le
    tle := fun n i e => hT n i (F.tle n i e) }

theorem mapF_snoc {f : AV → Option (Option AV)} : ∀ {l : List AV} {ys : List AV} {x : AV}, mapF f l = some ys → mapF f (l ++ [x]) = match f x with | some (some y) => some (ys ++ [y]) | some none => some ys | none => none
  | [], ys, x, h => by
    simp only [mapF, Option.some.injEq] at h
    subst h
    simp only [List.nil_append, mapF]
    cases f x with
    | none => rfl
    | some r => cases r <;> rfl
  | z :: l, ys, x, h => by
    simp only [mapF, List.cons_append] at h ⊢
    cases hz : f z with
    | none => rw [hz] at h; cases h
    | some r =>
      rw [hz] at h
      cases r with
      | none => exact mapF_snoc h
      | some y =>
        simp only [Option.map_eq_some_iff] at h
        obtain ⟨ys', h1, rfl⟩ := h
        simp only [mapF_snoc h1]
        cases f x with
        | none => rfl
        | some r => cases r <;> rfl
theorem mapF_take {f : AV → Option (Option AV)} : ∀ {l : List AV} {ys : List AV} (j : Nat), mapF f l = some ys → ∃ zs, mapF f (l.take j) = some zs
  | _, _, 0, _ => ⟨[], by simp [mapF]⟩
  | [], _, _ + 1, _ => ⟨[], by simp [mapF]⟩
  | z :: l, ys, j + 1, h => by
    simp only [mapF, List.take_succ_cons] at h ⊢
    cases hz : f z with
    | none => rw [hz] at h; cases h
    | some r =>
      rw [hz] at h
      cases r with
      | none => exact mapF_take j h
      | some y =>
        simp only [Option.map_eq_some_iff] at h
        obtain ⟨ys', h1, _⟩ := h
        obtain ⟨zs, e⟩ := mapF_take j h1
        exact ⟨y :: zs, by simp [e]⟩
theorem mapF_length {f : AV → Option (Option AV)} : ∀ {l ys : List AV}, mapF f l = some ys → ys.length ≤ l.length
  | [], ys, h => by simp only [mapF, Option.some.injEq] at h; subst h; simp
  | z :: l, ys, h => by
    simp only [mapF] at h
    cases hz : f z with
    | none => rw [hz] at h; cases h
    | some r =>
      rw [hz] at h
      cases r with
      | none => have := mapF_length h; simp; omega
      | some y =>
        simp only [Option.map_eq_some_iff] at h
        obtain ⟨ys', h1, rfl⟩ := h
        have := mapF_length h1
        simp; omega
theorem mapF_step {f : AV → Option (Option AV)} {l ys : List AV} {j : Nat} {x : AV} {zs : List AV} (h : mapF f l = some ys) (hx : l[j]? = some x) (hz : mapF f (l.take j) = some zs) :
    (∃ y, f x = some (some y) ∧ mapF f (l.take (j + 1)) = some (zs ++ [y])) ∨ (f x = some none ∧ mapF f (l.take (j + 1)) = some zs) := by
  have e : l.take (j + 1) = l.take j ++ [x] := by rw [List.take_add_one, hx]; rfl
  obtain ⟨ws, hw⟩ := mapF_take (j + 1) h
  rw [e, mapF_snoc hz] at hw
  rw [e, mapF_snoc hz]
  cases hf : f x with
  | none => rw [hf] at hw; cases hw
  | some r =>
    cases r with
    | none => exact .inr ⟨rfl, rfl⟩
    | some y => exact .inl ⟨y, rfl, rfl⟩
end Mine
end
section
open PySem PySem.W PyProof.Rows
namespace Mine

/-- what a turn of a comprehension does with an item -/
noncomputable def TurnOk (c : Cx) (q : Bool) (k : Nat) (A : Around) (names : List Str) (env : Env) (st : Fs) (fe : FE) (scope : Scope) (x : Str) (caps : List Nat) (elt : Expr) (ifs : List Expr) (f : AV → Option (Option AV)) : Prop :=
  ∀ item (s₃ : Shared) H₃ cenv, cenv.scope = relabel scope env → Rm c q k A H₃ s₃ → Fm c (FrA A) (names ++ [x]) cenv (st.inner caps item) fe H₃ s₃.heap →
    (∀ y, f item = some (some y) → TrB c A (testsOf ifs cenv) true s₃ ∧ ∀ s₄, Kp A s₃ s₄ → Tr c q A H₃ (eval elt cenv) (.ok y) s₄) ∧ (f item = some none → TrB c A (testsOf ifs cenv) false s₃)

theorem Kh.trans' {F W : Addr → Prop} {h₁ h₂ h₃ : Heap} (x : Kh F h₁ h₂) (y : Kv F W h₂ h₃) (n : ∀ b o, h₁.get? b = some o → ¬ W b) : Kh F h₁ h₃ := fun b o e =>
  ⟨fun z => (y b o (n b o e) ((x b o e).1 z)).1 z, by obtain ⟨sl, e₂⟩ := (x b o e).2; obtain ⟨sl', e₃⟩ := (y b _ (n b o e) e₂).2; exact ⟨sl', e₃⟩⟩

theorem list_appendL {prog : Program} {w : World} {A : Around} {E : Value → Shared → Prop} {s : Shared} {l : Addr} {items : List Value} {x : Value} {Q : Value → Shared → Prop} (hsz : (List.toArray items).size ≤ sizeLine) (hl : IsL s.heap l items)
    (hQ : ∀ h', IsL h' l (items ++ [x]) → Heap.SameBut l s.heap h' → Q .none { s with heap := h' }) :
    wpAny (model prog w) A (call (.builtin "list.append") [.ref l, x]) Q E s := by
  obtain ⟨o, n, ho, hc, hd, hn⟩ := id hl
  obtain ⟨n', hd'⟩ := Obj.data_mapSeq hd (·.push x)
  refine wpAny_call_entry slot_list_append hl.isList.typeIs entry_list_append ?_ (args_list_append _ _)
  show wpAny _ _ (updateSeq l (·.push x) >>= fun _ => ret .none) _ _ s
  refine wpAny_bind ?_
  refine wpAny_updateSeq ho hd (wpAny_pure ⟨.none, rfl, hQ _ ?_ (Heap.SameBut.update ..)⟩)
  refine ⟨_, n', Heap.get?_update_self _ ho (Obj.isFreed_of_seq hd'), (Obj.cls_mapSeq ..).trans hc, by rw [hd']; simp, ?_⟩
  obtain ⟨oc, od, odt, os⟩ := o
  simp only at hd hn ⊢
  subst hd
  exact hn

theorem comp_core {c : Cx} {q : Bool} {k : Nat} {A : Around} {s₁ s₂ : Shared} {H : Hd} {fe : FE} {names : List Str} {env : Env} {st : Fs} {elt iter : Expr} {x : Str} {px pos : Pos} {ifs : List Expr} {scope : Scope} {caps : List Nat}
    {cl : List (Str × Addr)} {I : Addr} {fp : Addr → Prop} {P : Nat → Value → Prop} {G : Nat → Option Int} {St : Nat → Heap → Prop} {l ys : List AV} {f : AV → Option (Option AV)} {E : Value → Shared → Prop} {RR : Value → Addr → Result → Shared → Prop}
    (hm : Rm c q k A H s₁) (F : Fm c (FrA A) names env st fe H s₁.heap) (hlen : st.ρ.length = names.length) (K : CompOk names env scope x caps)
    (hcl1 : ∀ y cc, cl.lookup y = some cc → env.cells.lookup y = some cc) (hcl2 : ∀ y, (y, NameKind.free) ∈ scope.names → cl.lookup y = env.cells.lookup y)
    (hs : ∃ h' tk, s₂ = { s₁ with heap := h', toks := tk } ∧ s₁.toks ≤ tk) (hk : ∀ b o, s₁.heap.get? b = some o → s₂.heap.get? b = some o) (hI : s₁.heap.get? I = none) (hIl : ∀ b, fp b → ∃ o, s₂.heap.get? b = some o) (hfI : fp I)
    (W : Itr c A I fp P G l.length St) (hst : St 0 s₂.heap) (hsz : l.length ≤ 1048576) (hP : ∀ (i : Nat) v y, P i v → l[i]? = some y → Rep (vis s₁.heap H) v y) (hG : ∀ (i : Nat) j y, G i = some j → l[i]? = some y → y = .int j)
    (hf : mapF f l = some ys) (T : TurnOk c q k A names env st fe scope x caps elt ifs f)
    (hR : ∀ D C h' tk m' vs T, s₁.toks ≤ tk → (∀ n i, H.t n = some i → T n = some i) → (∀ n i, T n = some i → n < tk) → s₂.heap.get? D = none → s₂.heap.get? C = none → D ≠ C → h'.Ns C m' → IsL h' D vs → RepL (vis h' ((H.wt T).add fun b => b = C ∨ b = D ∨ b = I)) vs ys → Kv (FrA A) (fun b => b = I) s₂.heap h' →
      RR (.ref D) C (.ok .next) { s₂ with heap := h', toks := tk }) :
    wpAny c.M A (newList []) (fun acc s₃ => wpAny c.M A (newFunctionEnv scope env.globals cl [] env.qual none .none (some env)) (fun cenv s₄ =>
      codeAny c.M A (.compStart (.ListComp elt [⟨.Name x px, iter, ifs, 0⟩] scope pos) 0 (.ref I) acc { cenv with scope := relabel scope env }) (RR acc cenv.locals) s₄) E s₃) E s₂ := by
  refine wpAny_newObj_type (wpAny_newFunctionEnv K.cell (by intro y hy; simp at hy) (fun h₁ hns₁ hsb₁ => ?_) K.kind)
  dsimp only at hns₁ hsb₁ ⊢
  generalize hD : s₂.heap.objs.size = D
  generalize hH2 : s₂.heap.push { cls := .type "list", dict := none, data := .seq ([] : List Value).toArray } = H2 at hns₁ hsb₁ ⊢
  generalize hC : H2.objs.size = C at hns₁ hsb₁ ⊢
  have hCD : C = D + 1 := by rw [← hC, ← hH2, Heap.size_push, hD]
  have hDC : D ≠ C := by omega
  have hDn : s₂.heap.get? D = none := Heap.get?_none_of_le (by omega)
  have hCn : s₂.heap.get? C = none := Heap.get?_none_of_le (by omega)
  have hDn₁ : s₁.heap.get? D = none := by
    cases e : s₁.heap.get? D with
    | none => rfl
    | some o => have := hk _ _ e; rw [hDn] at this; cases this
  have hCn₁ : s₁.heap.get? C = none := by
    cases e : s₁.heap.get? C with
    | none => rfl
    | some o => have := hk _ _ e; rw [hCn] at this; cases this
  have old : ∀ b o, s₂.heap.get? b = some o → h₁.get? b = some o := fun b o e => by
    have e1 : H2.get? b = some o := by rw [← hH2]; exact Heap.get?_push_of_some _ e
    refine hsb₁.extBut b o (fun q => ?_) (Heap.get?_push_of_some _ e1)
    rw [q, hCn] at e; cases e
  have hacc : IsL h₁ D [] := by
    have e1 : H2.get? D = some { cls := .type "list", dict := none, data := .seq ([] : List Value).toArray } := by rw [← hH2, ← hD]; exact Heap.get?_push_size _ rfl
    exact ⟨_, _, hsb₁.extBut _ _ hDC (Heap.get?_push_of_some _ e1), rfl, rfl, rfl⟩
  obtain ⟨hI0, tkI, rfl, hleI⟩ := hs
  dsimp only at *
  obtain ⟨oI, hoI⟩ := hIl I hfI
  have hIC : I ≠ C := fun q => by rw [q, hCn] at hoI; cases hoI
  have hID : I ≠ D := fun q => by rw [q, hDn] at hoI; cases hoI
  have fpC : ∀ b, fp b → b ≠ C ∧ b ≠ D := fun b hb => by
    obtain ⟨o, ho⟩ := hIl b hb
    exact ⟨fun q => by (rw [q, hCn] at ho; cases ho), fun q => by (rw [q, hDn] at ho; cases ho)⟩
  generalize hH3 : (H.add fun b => b = C ∨ b = D ∨ b = I) = H₃
  have hM3 : H₃.m = H.m := by rw [← hH3]; rfl
  have hT3 : H₃.t = H.t := by rw [← hH3]; rfl
  have hO3 : H₃.o = H.o := by rw [← hH3]; rfl
  have hHH : ∀ b, H.p b → H₃.p b := fun b z => by rw [← hH3]; exact .inl z
  have hW3 : ∀ b, (b = C ∨ b = D ∨ b = I) → H₃.p b := fun b z => by rw [← hH3]; exact .inr z
  have hHN : ∀ b, H₃.p b → H.p b ∨ s₁.heap.get? b = none := fun b z => by
    rw [← hH3] at z
    rcases z with z | z | z | z
    · exact .inl z
    · exact .inr (z ▸ hCn₁)
    · exact .inr (z ▸ hDn₁)
    · exact .inr (z ▸ hI)
  have hkH1 : Kh (FrA A) s₁.heap h₁ := Kh.of_keeps fun b o e => old b o (hk b o e)
  have hst₁ : St 0 h₁ := W.frame _ _ _ hst fun b o _ e => ⟨fun _ => old b o e, o.slots, old b o e⟩
  have loop : ∀ s₃ : Shared, s₃ = { s₁ with heap := h₁, toks := tkI + ([] : List (Str × Value)).length } →
      codeAny c.M A (.compLoop (.ListComp elt [⟨.Name x px, iter, ifs, 0⟩] scope pos) 0 (.ref I) (.ref D) (compEnvC scope cl C env)) (RR (.ref D) C) s₃ := by
    rintro s₃ rfl
    refine codeAny_compLoop_tests (fun n s' => ∃ h' tk m' j zs vs T, s' = { s₁ with heap := h', toks := tk } ∧ s₁.toks ≤ tk ∧ (∀ n i, H.t n = some i → T n = some i) ∧ (∀ n i, T n = some i → n < tk) ∧ St j h' ∧ j ≤ l.length ∧ n = l.length + 1 - j ∧ IsL h' D vs ∧ mapF f (l.take j) = some zs ∧
      RepL (vis h' (H₃.wt T)) vs zs ∧ h'.Ns C m' ∧ Kv (FrA A) (fun b => b = C ∨ b = D ∨ b = I) h₁ h' ∧ (∃ o, h'.get? I = some o)) ?_ (l.length + 1)
      ⟨h₁, _, _, 0, [], [], H.t, rfl, hleI, fun _ _ e => e, fun n i e => Nat.lt_of_lt_of_le (hm.td n i e) hleI, hst₁, Nat.zero_le _, rfl, hacc, by simp [mapF], by simp [RepL], hns₁, Kv.refl _ _ _, oI, old _ _ hoI⟩
    rintro n s' ⟨h', tk, m', j, zs, vs, T₀, rfl, hle, hte, htd, hst', hj, rfl, hD', hzs, hvs, hC', hkv, hoI'⟩
    by_cases hlt : j < l.length
    · obtain ⟨item, hit⟩ : ∃ y, l[j]? = some y := ⟨l[j], by simp [hlt]⟩
      refine wpAny_up (W.item j _ _ _ hlt hst' fun v h₂ tk₂ hPv hst₂ hk₂ hI₂ hle₂ => ?_)
      have hle2' : tk ≤ tk₂ := hle₂
      have hle₂ : s₁.toks ≤ tk₂ := Nat.le_trans hle hle₂
      dsimp only
      obtain ⟨T', te', td', hitem⟩ : ∃ T', (∀ n i, T₀ n = some i → T' n = some i) ∧ (∀ n i, T' n = some i → n < tk₂) ∧ ∀ h₃, Kh (FrA A) s₁.heap h₃ → Rep (vis h₃ (H₃.wt T')) v item := by
        rcases hPv with hPv | ⟨j', g1, rfl, g2⟩
        · exact ⟨T₀, fun _ _ e => e, fun n i e => Nat.lt_of_lt_of_le (htd n i e) hle2', fun h₃ kh₃ => Rep.mono (vis_new (H₃ := H₃.wt T₀) kh₃ hHN hte fun n a e => by show H₃.m n = _; rw [hM3]; exact e) (hP j v item hPv hit)⟩
        · have g2 : tk < tk₂ := g2
          refine ⟨fun n => if n = tk then some j' else T₀ n, fun n i e => ?_, fun n i e => ?_, fun h₃ _ => ?_⟩
          · exact (if_neg (fun z => absurd (htd n i e) (by rw [z]; exact Nat.lt_irrefl _))).trans e
          · dsimp only at e
            split at e
            · rename_i z; rw [z]; exact g2
            · exact Nat.lt_of_lt_of_le (htd n i e) hle2'
          · rw [hG j j' item g1 hit]
            exact ⟨tk, rfl, Nat.ne_of_gt (Nat.lt_of_lt_of_le hm.tok hle), if_pos rfl⟩
      have hte' : ∀ n i, H.t n = some i → T' n = some i := fun n i e => te' n i (hte n i e)
      obtain ⟨oI₂, hoI₂⟩ := hI₂
      have kv₂ : Kv (FrA A) (fun b => b = C ∨ b = D ∨ b = I) h' h₂ := Kv.of_but hk₂ (.inr (.inr rfl))
      obtain ⟨oC, esC, epC, hoC, rC⟩ := hC'
      have hC₂ : h₂.Ns C m' := ⟨oC, esC, epC, hk₂ C oC (Ne.symm hIC) hoC, rC⟩
      have hD₂ : IsL h₂ D vs := hD'.at' fun o e => hk₂ D o (Ne.symm hID) e
      refine wpAny_assign_Name (wpAny_storeName_local (env := compEnvC scope cl C env) (lookup_relabel_local K.var) hC₂ (fun h₃ hn₃ hs₃ => ?_) (by simp [compEnvC, relabel, K.kind]))
      have kv₃ : Kv (FrA A) (fun b => b = C ∨ b = D ∨ b = I) h₂ h₃ := Kv.of_sameBut hs₃ (.inl rfl)
      have kv13 := (hkv.trans kv₂).trans kv₃
      have kh₃ : Kh (FrA A) s₁.heap h₃ := hkH1.trans' kv13 fun b o e => by
        rintro (z | z | z)
        · rw [z, hCn₁] at e; cases e
        · rw [z, hDn₁] at e; cases e
        · rw [z, hI] at e; cases e
      have hD₃ : IsL h₃ D vs := hD₂.at' fun o e => hs₃.extBut D o hDC e
      have hst₃ : St (j + 1) h₃ := W.frame _ _ _ hst₂ fun b o hb e => ⟨fun _ => hs₃.extBut b o (fpC b hb).1 e, o.slots, hs₃.extBut b o (fpC b hb).1 e⟩
      have hoI₃ : h₃.get? I = some oI₂ := hs₃.extBut I oI₂ hIC hoI₂
      have live₃ : Live H₃ h₃ := fun b z => by
        rw [← hH3] at z
        rcases z with z | rfl | rfl | rfl
        · obtain ⟨o, e⟩ := F.hlt b z
          obtain ⟨sl, e'⟩ := (kh₃ b o e).2
          exact ⟨_, e'⟩
        · obtain ⟨o, _, _, e, _⟩ := hn₃; exact ⟨o, e⟩
        · obtain ⟨o, _, e, _⟩ := hD₃; exact ⟨o, e⟩
        · exact ⟨_, hoI₃⟩
      have F₃ : Fm c (FrA A) (names ++ [x]) (compEnvC scope cl C env) (st.inner caps item) fe (H₃.wt T') h₃ :=
        comp_fm (H₃ := H₃.wt T') F hlen K kh₃ hHH hHN hte' hM3 hO3 live₃ hn₃ (hW3 C (.inl rfl)) hCn₁ (by simp) (hitem h₃ kh₃) rfl rfl rfl rfl hcl1 hcl2
      have htd3 : Td (H₃.wt T') { s₁ with heap := h₃, toks := tk₂ + 1 } := fun n i e => Nat.lt_succ_of_lt (td' n i e)
      have hm₃ : Rm c q k A (H₃.wt T') { s₁ with heap := h₃, toks := tk₂ + 1 } := hm.nf ⟨kh₃.nh, Nat.le_trans hle₂ (Nat.le_succ _), fun _ => htd3⟩
      have TT := T item { s₁ with heap := h₃, toks := tk₂ + 1 } (H₃.wt T') (compEnvC scope cl C env) rfl hm₃ F₃
      rcases mapF_step hf hit hzs with ⟨y, hy, hzs'⟩ | ⟨hy, hzs'⟩
      · obtain ⟨t1, t2⟩ := TT.1 y hy
        refine t1 _ _ fun s₄ k₄ => ?_
        simp only [if_true]
        refine t2 s₄ k₄ _ _ fun yv s₅ H₅ k₅ ry => ?_
        have k35 := k₄.trans k₅.kp
        have td₅ := k₅.td (htd3.le k₄.tk)
        have te₅ := k₅.te
        obtain ⟨T₅, rfl⟩ : ∃ T₅, H₅ = H₃.wt T₅ := ⟨H₅.t, k₅.e⟩
        clear k₅
        obtain ⟨h₅, tk₅, e₅, hle₅, kh₅⟩ := k35
        subst e₅
        have hD₅ := kh₅.isL hD₃
        have hvl : vs.length ≤ 1048576 := by
          have e1 := hvs.length
          have e2 := mapF_length hzs
          have e3 : (l.take j).length ≤ l.length := by rw [List.length_take]; omega
          omega
        have hsz' : (List.toArray vs).size ≤ sizeLine := by
          rw [List.size_toArray, show sizeLine = 16777216 from by decide]
          omega
        refine list_appendL hsz' hD₅ fun h₆ hl₆ hs₆ => ?_
        have kv56 : Kv (FrA A) (fun b => b = C ∨ b = D ∨ b = I) h₅ h₆ := Kv.of_sameBut hs₆ (.inr (.inl rfl))
        refine ⟨l.length + 1 - (j + 1), by omega, h₆, tk₅, (fun z => if z = x then some v else m' z), j + 1, zs ++ [y], vs ++ [yv], T₅, rfl, Nat.le_trans (Nat.le_trans hle₂ (Nat.le_succ _)) hle₅, fun n i e => te₅ n i (hte' n i e), td₅, ?_, hlt, rfl, hl₆, hzs', ?_, ?_, ((kv13.trans kh₅.kv).trans kv56), ?_⟩
        · refine W.frame _ _ _ hst₃ fun b o hb e => ⟨fun hf => hs₆.extBut b _ (fpC b hb).2 ((kh₅ b o e).1 (.inr hf)), ?_⟩
          obtain ⟨sl, e'⟩ := (kh₅ b o e).2
          exact ⟨sl, hs₆.extBut b _ (fpC b hb).2 e'⟩
        · have kvis : (vis h₅ (H₃.wt T₅)).Le (vis h₆ (H₃.wt T₅)) := kv56.vis hW3
          have kvis2 : (vis h' (H₃.wt T₀)).Le (vis h₆ (H₃.wt T₅)) := (((kv₂.trans kv₃).vis (H := H₃.wt T₀) hW3).trans (kh₅.vis (H := H₃.wt T₀))).trans ((kv56.vis (H := H₃.wt T₀) hW3).trans (vis_wt rfl rfl fun n i e => te₅ n i (te' n i e)))
          exact RepL.append (RepL.mono kvis2 hvs) (by simp only [RepL]; exact ⟨Rep.mono kvis ry, trivial⟩)
        · exact (kh₅.ns hn₃).sameBut hs₆ (Ne.symm hDC)
        · obtain ⟨sl, e'⟩ := (kh₅ I _ hoI₃).2
          exact ⟨_, hs₆.extBut I _ hID e'⟩
      · refine TT.2 hy _ _ fun s₄ k₄ => ?_
        simp only [Bool.false_eq_true, if_false]
        obtain ⟨h₄, tk₄, rfl, hle₄, kh₄⟩ := k₄
        refine ⟨l.length + 1 - (j + 1), by omega, h₄, tk₄, (fun z => if z = x then some v else m' z), j + 1, zs, vs, T₀, rfl, Nat.le_trans (Nat.le_trans hle₂ (Nat.le_succ _)) hle₄, hte, fun n i e => Nat.lt_of_lt_of_le (Nat.lt_of_lt_of_le (htd n i e) hle2') (Nat.le_trans (Nat.le_succ _) hle₄), ?_, hlt, rfl, kh₄.isL hD₃, hzs', ?_, kh₄.ns hn₃, kv13.trans kh₄.kv, ?_⟩
        · exact W.frame _ _ _ hst₃ fun b o hb e => ⟨fun hf => (kh₄ b o e).1 (.inr hf), (kh₄ b o e).2⟩
        · exact RepL.mono (((kv₂.trans kv₃).vis (H := H₃.wt T₀) hW3).trans kh₄.vis) hvs
        · obtain ⟨sl, e'⟩ := (kh₄ I _ hoI₃).2
          exact ⟨_, e'⟩
    · have hjl : j = l.length := by omega
      subst hjl
      refine wpAny_up (W.done _ _ _ hst' fun h₂ tk₂ hk₂ hle₂ => ?_)
      have hle2' : tk ≤ tk₂ := hle₂
      have hle₂ : s₁.toks ≤ tk₂ := Nat.le_trans hle hle₂
      have kv₂ : Kv (FrA A) (fun b => b = C ∨ b = D ∨ b = I) h' h₂ := Kv.of_but hk₂ (.inr (.inr rfl))
      rw [List.take_length, hf] at hzs
      cases hzs
      obtain ⟨oC, esC, epC, hoC, rC⟩ := hC'
      refine hR D C h₂ tk₂ m' vs T₀ hle₂ hte (fun n i e => Nat.lt_of_lt_of_le (htd n i e) hle2') hDn hCn hDC ⟨oC, esC, epC, hk₂ C oC (Ne.symm hIC) hoC, rC⟩ (hD'.at' fun o e => hk₂ D o (Ne.symm hID) e) ?_ ?_
      · rw [show (H.wt T₀).add (fun b => b = C ∨ b = D ∨ b = I) = H₃.wt T₀ from by rw [← hH3]; rfl]
        exact RepL.mono (kv₂.vis (H := H₃.wt T₀) hW3) hvs
      · intro b o nb e
        have e1 := old b o e
        have nC : ¬ (b = C ∨ b = D ∨ b = I) := by
          rintro (z | z | z)
          · rw [z, hCn] at e; cases e
          · rw [z, hDn] at e; cases e
          · exact nb z
        exact (hkv.trans kv₂) b o nC e1
  exact codeAny_compStart_list (loop _ rfl) (W.self 0 _ _ _ hst₁ (loop _ rfl))

/-- what a comprehension over a row l does: it makes the list ys -/
noncomputable def CompSpec (c : Cx) (q : Bool) (k : Nat) (A : Around) (names : List Str) (env : Env) (st : Fs) (fe : FE) (scope : Scope) (x : Str) (caps : List Nat) (ce : Expr) (H : Hd) (l ys : List AV) : Prop :=
  ∀ {s₁ s₂ : Shared} {cl : List (Str × Addr)} {I : Addr} {fp : Addr → Prop} {P : Nat → Value → Prop} {G : Nat → Option Int} {St : Nat → Heap → Prop} {E : Value → Shared → Prop} {RR : Value → Addr → Result → Shared → Prop},
    Rm c q k A H s₁ → Fm c (FrA A) names env st fe H s₁.heap → (∀ y cc, cl.lookup y = some cc → env.cells.lookup y = some cc) → (∀ y, (y, NameKind.free) ∈ scope.names → cl.lookup y = env.cells.lookup y) → (∀ y cc, cl.lookup y = some cc → (y, NameKind.free) ∈ scope.names) →
    (∃ h' tk, s₂ = { s₁ with heap := h', toks := tk } ∧ s₁.toks ≤ tk) → (∀ b o, s₁.heap.get? b = some o → s₂.heap.get? b = some o) → s₁.heap.get? I = none → (∀ b, fp b → ∃ o, s₂.heap.get? b = some o) → fp I →
    Itr c A I fp P G l.length St → St 0 s₂.heap → l.length ≤ 1048576 → (∀ (i : Nat) v y, P i v → l[i]? = some y → Rep (vis s₁.heap H) v y) → (∀ (i : Nat) j y, G i = some j → l[i]? = some y → y = .int j) →
    (∀ D C h' tk m' vs T, s₁.toks ≤ tk → (∀ n i, H.t n = some i → T n = some i) → (∀ n i, T n = some i → n < tk) → s₂.heap.get? D = none → s₂.heap.get? C = none → D ≠ C → h'.Ns C m' → IsL h' D vs → RepL (vis h' ((H.wt T).add fun b => b = C ∨ b = D ∨ b = I)) vs ys → Kv (FrA A) (fun b => b = I) s₂.heap h' →
      RR (.ref D) C (.ok .next) { s₂ with heap := h', toks := tk }) →
    wpAny c.M A (newList []) (fun acc s₃ => wpAny c.M A (newFunctionEnv scope env.globals cl [] env.qual none .none (some env)) (fun cenv s₄ =>
      codeAny c.M A (.compStart ce 0 (.ref I) acc { cenv with scope := relabel scope env }) (RR acc cenv.locals) s₄) E s₃) E s₂
theorem comp_spec1 {c : Cx} {q : Bool} {k : Nat} {A : Around} {fe : FE} {names : List Str} {env : Env} {st : Fs} {elt iter : Expr} {x : Str} {px pos : Pos} {ifs : List Expr} {scope : Scope} {caps : List Nat} {H : Hd} {l ys : List AV} {f : AV → Option (Option AV)} (hlen : st.ρ.length = names.length) (K : CompOk names env scope x caps)
    (hf : mapF f l = some ys) (T : TurnOk c q k A names env st fe scope x caps elt ifs f) : CompSpec c q k A names env st fe scope x caps (.ListComp elt [⟨.Name x px, iter, ifs, 0⟩] scope pos) H l ys :=
  fun hm F hcl1 hcl2 _ hs hk hI hIl hfI W hst hsz hP hG hR => comp_core hm F hlen K hcl1 hcl2 hs hk hI hIl hfI W hst hsz hP hG hf T hR
end Mine
end
section
open PySem PySem.W PyProof.Rows
namespace Mine
set_option linter.unusedVariables false
/- a comprehension whose variable is a cell -/
structure CompOkC (names : List Str) (env : Env) (scope : Scope) (x : Str) (caps : List Nat) : Prop where
  cell : scope.names.filter (fun p => p.2 == .cell) = [(x, .cell)]
  kind : scope.kind = .function
  loc : ∀ y ∈ scope.names, y.2 = .local → scope.names.lookup y.1 = some .local
  var : scope.names.lookup x = some .cell
  free : ∀ y, (y, NameKind.free) ∈ scope.names → env.kindOf y = some .cell
  cap : ∀ i ∈ caps, ∀ y, names[i]? = some y → scope.names.lookup y = some .free
theorem CompOkC.only {names : List Str} {env : Env} {scope : Scope} {x : Str} {caps : List Nat} (K : CompOkC names env scope x caps) : ∀ y ∈ scope.names, y.2 = .cell → y.1 = x := fun y hy e => by
  have : y ∈ scope.names.filter (fun p => p.2 == .cell) := List.mem_filter.mpr ⟨hy, by rw [e]; rfl⟩
  rw [K.cell, List.mem_singleton] at this
  rw [this]
end Mine
end
section
open PySem PySem.W PyProof.Rows
namespace Mine
set_option linter.unusedVariables false
end Mine
end
section
open PySem PySem.W PyProof.Rows
namespace Mine

noncomputable def encC : AV → Const → Bool
  | .int i, .int j => i == j
  | .bool a, .bool b => a == b
  | .none, .none => true
  | .str s, .str t => s == t
  | _, _ => false

noncomputable def BI.isTy : BI → Bool
  | .range => true
  | _ => false
theorem BI.boot_ty : ∀ {b : BI}, b.isTy = true → bootBuiltins (Str.ofString b.name) = some (.type b.name)
  | .range, _ => PyProof.Rows.Boot.«range»
noncomputable def BI.val (b : BI) : Value := if b.isTy then .type b.name else .builtin b.name
theorem BI.boot : ∀ (b : BI), bootBuiltins (Str.ofString b.name) = some b.val
  | .range => PyProof.Rows.Boot.«range»
  | .len => PyProof.Rows.Boot.«len»
  | .min => PyProof.Rows.Boot.«min»
  | .sorted => PyProof.Rows.Boot.«sorted»

noncomputable def isGlob (ks : List (Str × NameKind)) (x : Str) : Bool := ks.lookup x == some NameKind.globalImplicit && !(x == ("__debug__" : Str)) && !(x == ("__name__" : Str))

noncomputable def relab (ks : List (Str × NameKind)) (names : List (Str × NameKind)) : List (Str × NameKind) :=
  names.map fun p => if (p.2 == NameKind.free && ks.lookup p.1 == some NameKind.cell) then (p.1, NameKind.cell) else (p.1, p.2)

noncomputable def compOkB (ks : List (Str × NameKind)) (ns : List Str) (scope : Scope) (x : Str) (caps : List Nat) : Bool :=
  scope.names.all (fun y => !(y.2 == .cell)) && scope.kind == .function && scope.names.all (fun y => !(y.2 == .local) || scope.names.lookup y.1 == some .local) && scope.names.lookup x == some .local &&
  scope.names.all (fun y => !(y.2 == .free) || ks.lookup y.1 == some .cell) && caps.all (fun i => match ns[i]? with | some y => scope.names.lookup y == some .free | none => true)

/-- what is looked at of an expression -/
structure EH where
  cst : Const → Bool := fun _ => false
  name : Str → Bool := fun _ => false
  bin : Expr → Operator → Expr → Bool := fun _ _ _ => false
  un : UnaryOp → Expr → Bool := fun _ _ => false
  cmp : Expr → List CmpOp → List Expr → Bool := fun _ _ _ => false
  bop : BoolOp → List Expr → Bool := fun _ _ => false
  ife : Expr → Expr → Expr → Bool := fun _ _ _ => false
  list : List Expr → Bool := fun _ => false
  tup : List Expr → Nat → Pos → Bool := fun _ _ _ => false
  sub : Expr → Expr → Bool := fun _ _ => false
  slice : Option Expr → Option Expr → Option Expr → Bool := fun _ _ _ => false
  call : Expr → List Expr → List Keyword → Pos → Bool := fun _ _ _ _ => false
  attr : Expr → Str → Pos → Bool := fun _ _ _ => false
  comp : Expr → List Comprehension → Scope → Bool := fun _ _ _ => false
  set : List Expr → Nat → Bool := fun _ _ => false
noncomputable def onE (h : EH) : Expr → Bool
  | .Constant c _ _ => h.cst c
  | .Name x _ => h.name x
  | .BinOp l o r _ => h.bin l o r
  | .UnaryOp o x _ => h.un o x
  | .Compare l o r _ => h.cmp l o r
  | .BoolOp o l _ => h.bop o l
  | .IfExp t a b _ => h.ife t a b
  | .List l _ => h.list l
  | .Tuple l k p => h.tup l k p
  | .Subscript o i _ => h.sub o i
  | .Slice a b c _ => h.slice a b c
  | .Call f a k p => h.call f a k p
  | .Attribute o n p => h.attr o n p
  | .ListComp e g s _ => h.comp e g s
  | .Set l k _ => h.set l k
  | _ => false
noncomputable def one? {α : Type} (l : List α) (f : α → Bool) : Bool := match l with
  | [x] => f x
  | _ => false
noncomputable def two? {α : Type} (l : List α) (f : α → α → Bool) : Bool := match l with
  | [x, y] => f x y
  | _ => false
noncomputable def nil? {α : Type} (l : List α) (b : Bool) : Bool := match l with
  | [] => b
  | _ => false
theorem one?_eq {α : Type} {l : List α} {f : α → Bool} (h : one? l f = true) : ∃ x, l = [x] ∧ f x = true := by
  rcases l with _ | ⟨x, _ | ⟨y, r⟩⟩
  · cases h
  · exact ⟨x, rfl, h⟩
  · cases h
theorem two?_eq {α : Type} {l : List α} {f : α → α → Bool} (h : two? l f = true) : ∃ x y, l = [x, y] ∧ f x y = true := by
  rcases l with _ | ⟨x, _ | ⟨y, _ | ⟨z, r⟩⟩⟩
  · cases h
  · cases h
  · exact ⟨x, y, rfl, h⟩
  · cases h
theorem nil?_eq {α : Type} {l : List α} {b : Bool} (h : nil? l b = true) : l = [] ∧ b = true := by
  cases l with
  | nil => exact ⟨rfl, h⟩
  | cons _ _ => cases h
section
variable {ex : Expr}
theorem onE_elim {h : EH} {P : Expr → Prop} {ex : Expr} (he : onE h ex = true) (h0 : ∀ c k p, h.cst c = true → P (.Constant c k p)) (h1 : ∀ x p, h.name x = true → P (.Name x p)) (h2 : ∀ l o r p, h.bin l o r = true → P (.BinOp l o r p)) (h3 : ∀ o x p, h.un o x = true → P (.UnaryOp o x p)) (h4 : ∀ l o r p, h.cmp l o r = true → P (.Compare l o r p)) (h5 : ∀ o l p, h.bop o l = true → P (.BoolOp o l p)) (h6 : ∀ t a b p, h.ife t a b = true → P (.IfExp t a b p)) (h7 : ∀ l p, h.list l = true → P (.List l p)) (h8 : ∀ l k p, h.tup l k p = true → P (.Tuple l k p)) (h9 : ∀ o i p, h.sub o i = true → P (.Subscript o i p)) (h10 : ∀ a b c p, h.slice a b c = true → P (.Slice a b c p)) (h11 : ∀ g a k p, h.call g a k p = true → P (.Call g a k p)) (h12 : ∀ o n p, h.attr o n p = true → P (.Attribute o n p)) (h13 : ∀ e g s p, h.comp e g s = true → P (.ListComp e g s p)) (h14 : ∀ l k p, h.set l k = true → P (.Set l k p)) : P ex := by
  cases ex with
  | Constant c k p => exact h0 c k p he
  | Name x p => exact h1 x p he
  | BinOp l o r p => exact h2 l o r p he
  | UnaryOp o x p => exact h3 o x p he
  | Compare l o r p => exact h4 l o r p he
  | BoolOp o l p => exact h5 o l p he
  | IfExp t a b p => exact h6 t a b p he
  | List l p => exact h7 l p he
  | Tuple l k p => exact h8 l k p he
  | Subscript o i p => exact h9 o i p he
  | Slice a b c p => exact h10 a b c p he
  | Call g a k p => exact h11 g a k p he
  | Attribute o n p => exact h12 o n p he
  | ListComp e g s p => exact h13 e g s p he
  | Set l k p => exact h14 l k p he
  | _ => exact (Bool.false_ne_true he).elim
theorem onE_cst {f} (h : onE { cst := f } ex = true) : ∃ c k p, ex = .Constant c k p ∧ f c = true :=
  onE_elim (P := fun ex => ∃ c k p, ex = .Constant c k p ∧ f c = true) h (fun c k p z => ⟨c, k, p, rfl, z⟩) (fun _ _ z => (Bool.false_ne_true z).elim) (fun _ _ _ _ z => (Bool.false_ne_true z).elim) (fun _ _ _ z => (Bool.false_ne_true z).elim) (fun _ _ _ _ z => (Bool.false_ne_true z).elim) (fun _ _ _ z => (Bool.false_ne_true z).elim) (fun _ _ _ _ z => (Bool.false_ne_true z).elim) (fun _ _ z => (Bool.false_ne_true z).elim) (fun _ _ _ z => (Bool.false_ne_true z).elim) (fun _ _ _ z => (Bool.false_ne_true z).elim) (fun _ _ _ _ z => (Bool.false_ne_true z).elim) (fun _ _ _ _ z => (Bool.false_ne_true z).elim) (fun _ _ _ z => (Bool.false_ne_true z).elim) (fun _ _ _ _ z => (Bool.false_ne_true z).elim) (fun _ _ _ z => (Bool.false_ne_true z).elim)
theorem onE_name {f} (h : onE { name := f } ex = true) : ∃ x p, ex = .Name x p ∧ f x = true :=
  onE_elim (P := fun ex => ∃ x p, ex = .Name x p ∧ f x = true) h (fun _ _ _ z => (Bool.false_ne_true z).elim) (fun x p z => ⟨x, p, rfl, z⟩) (fun _ _ _ _ z => (Bool.false_ne_true z).elim) (fun _ _ _ z => (Bool.false_ne_true z).elim) (fun _ _ _ _ z => (Bool.false_ne_true z).elim) (fun _ _ _ z => (Bool.false_ne_true z).elim) (fun _ _ _ _ z => (Bool.false_ne_true z).elim) (fun _ _ z => (Bool.false_ne_true z).elim) (fun _ _ _ z => (Bool.false_ne_true z).elim) (fun _ _ _ z => (Bool.false_ne_true z).elim) (fun _ _ _ _ z => (Bool.false_ne_true z).elim) (fun _ _ _ _ z => (Bool.false_ne_true z).elim) (fun _ _ _ z => (Bool.false_ne_true z).elim) (fun _ _ _ _ z => (Bool.false_ne_true z).elim) (fun _ _ _ z => (Bool.false_ne_true z).elim)
theorem onE_bin {f} (h : onE { bin := f } ex = true) : ∃ l o r p, ex = .BinOp l o r p ∧ f l o r = true :=
  onE_elim (P := fun ex => ∃ l o r p, ex = .BinOp l o r p ∧ f l o r = true) h (fun _ _ _ z => (Bool.false_ne_true z).elim) (fun _ _ z => (Bool.false_ne_true z).elim) (fun l o r p z => ⟨l, o, r, p, rfl, z⟩) (fun _ _ _ z => (Bool.false_ne_true z).elim) (fun _ _ _ _ z => (Bool.false_ne_true z).elim) (fun _ _ _ z => (Bool.false_ne_true z).elim) (fun _ _ _ _ z => (Bool.false_ne_true z).elim) (fun _ _ z => (Bool.false_ne_true z).elim) (fun _ _ _ z => (Bool.false_ne_true z).elim) (fun _ _ _ z => (Bool.false_ne_true z).elim) (fun _ _ _ _ z => (Bool.false_ne_true z).elim) (fun _ _ _ _ z => (Bool.false_ne_true z).elim) (fun _ _ _ z => (Bool.false_ne_true z).elim) (fun _ _ _ _ z => (Bool.false_ne_true z).elim) (fun _ _ _ z => (Bool.false_ne_true z).elim)
theorem onE_un {f} (h : onE { un := f } ex = true) : ∃ o x p, ex = .UnaryOp o x p ∧ f o x = true :=
  onE_elim (P := fun ex => ∃ o x p, ex = .UnaryOp o x p ∧ f o x = true) h (fun _ _ _ z => (Bool.false_ne_true z).elim) (fun _ _ z => (Bool.false_ne_true z).elim) (fun _ _ _ _ z => (Bool.false_ne_true z).elim) (fun o x p z => ⟨o, x, p, rfl, z⟩) (fun _ _ _ _ z => (Bool.false_ne_true z).elim) (fun _ _ _ z => (Bool.false_ne_true z).elim) (fun _ _ _ _ z => (Bool.false_ne_true z).elim) (fun _ _ z => (Bool.false_ne_true z).elim) (fun _ _ _ z => (Bool.false_ne_true z).elim) (fun _ _ _ z => (Bool.false_ne_true z).elim) (fun _ _ _ _ z => (Bool.false_ne_true z).elim) (fun _ _ _ _ z => (Bool.false_ne_true z).elim) (fun _ _ _ z => (Bool.false_ne_true z).elim) (fun _ _ _ _ z => (Bool.false_ne_true z).elim) (fun _ _ _ z => (Bool.false_ne_true z).elim)
theorem onE_cmp {f} (h : onE { cmp := f } ex = true) : ∃ l o r p, ex = .Compare l o r p ∧ f l o r = true :=
  onE_elim (P := fun ex => ∃ l o r p, ex = .Compare l o r p ∧ f l o r = true) h (fun _ _ _ z => (Bool.false_ne_true z).elim) (fun _ _ z => (Bool.false_ne_true z).elim) (fun _ _ _ _ z => (Bool.false_ne_true z).elim) (fun _ _ _ z => (Bool.false_ne_true z).elim) (fun l o r p z => ⟨l, o, r, p, rfl, z⟩) (fun _ _ _ z => (Bool.false_ne_true z).elim) (fun _ _ _ _ z => (Bool.false_ne_true z).elim) (fun _ _ z => (Bool.false_ne_true z).elim) (fun _ _ _ z => (Bool.false_ne_true z).elim) (fun _ _ _ z => (Bool.false_ne_true z).elim) (fun _ _ _ _ z => (Bool.false_ne_true z).elim) (fun _ _ _ _ z => (Bool.false_ne_true z).elim) (fun _ _ _ z => (Bool.false_ne_true z).elim) (fun _ _ _ _ z => (Bool.false_ne_true z).elim) (fun _ _ _ z => (Bool.false_ne_true z).elim)
theorem onE_bop {f} (h : onE { bop := f } ex = true) : ∃ o l p, ex = .BoolOp o l p ∧ f o l = true :=
  onE_elim (P := fun ex => ∃ o l p, ex = .BoolOp o l p ∧ f o l = true) h (fun _ _ _ z => (Bool.false_ne_true z).elim) (fun _ _ z => (Bool.false_ne_true z).elim) (fun _ _ _ _ z => (Bool.false_ne_true z).elim) (fun _ _ _ z => (Bool.false_ne_true z).elim) (fun _ _ _ _ z => (Bool.false_ne_true z).elim) (fun o l p z => ⟨o, l, p, rfl, z⟩) (fun _ _ _ _ z => (Bool.false_ne_true z).elim) (fun _ _ z => (Bool.false_ne_true z).elim) (fun _ _ _ z => (Bool.false_ne_true z).elim) (fun _ _ _ z => (Bool.false_ne_true z).elim) (fun _ _ _ _ z => (Bool.false_ne_true z).elim) (fun _ _ _ _ z => (Bool.false_ne_true z).elim) (fun _ _ _ z => (Bool.false_ne_true z).elim) (fun _ _ _ _ z => (Bool.false_ne_true z).elim) (fun _ _ _ z => (Bool.false_ne_true z).elim)
theorem onE_ife {f} (h : onE { ife := f } ex = true) : ∃ t a b p, ex = .IfExp t a b p ∧ f t a b = true :=
  onE_elim (P := fun ex => ∃ t a b p, ex = .IfExp t a b p ∧ f t a b = true) h (fun _ _ _ z => (Bool.false_ne_true z).elim) (fun _ _ z => (Bool.false_ne_true z).elim) (fun _ _ _ _ z => (Bool.false_ne_true z).elim) (fun _ _ _ z => (Bool.false_ne_true z).elim) (fun _ _ _ _ z => (Bool.false_ne_true z).elim) (fun _ _ _ z => (Bool.false_ne_true z).elim) (fun t a b p z => ⟨t, a, b, p, rfl, z⟩) (fun _ _ z => (Bool.false_ne_true z).elim) (fun _ _ _ z => (Bool.false_ne_true z).elim) (fun _ _ _ z => (Bool.false_ne_true z).elim) (fun _ _ _ _ z => (Bool.false_ne_true z).elim) (fun _ _ _ _ z => (Bool.false_ne_true z).elim) (fun _ _ _ z => (Bool.false_ne_true z).elim) (fun _ _ _ _ z => (Bool.false_ne_true z).elim) (fun _ _ _ z => (Bool.false_ne_true z).elim)
theorem onE_list {f} (h : onE { list := f } ex = true) : ∃ l p, ex = .List l p ∧ f l = true :=
  onE_elim (P := fun ex => ∃ l p, ex = .List l p ∧ f l = true) h (fun _ _ _ z => (Bool.false_ne_true z).elim) (fun _ _ z => (Bool.false_ne_true z).elim) (fun _ _ _ _ z => (Bool.false_ne_true z).elim) (fun _ _ _ z => (Bool.false_ne_true z).elim) (fun _ _ _ _ z => (Bool.false_ne_true z).elim) (fun _ _ _ z => (Bool.false_ne_true z).elim) (fun _ _ _ _ z => (Bool.false_ne_true z).elim) (fun l p z => ⟨l, p, rfl, z⟩) (fun _ _ _ z => (Bool.false_ne_true z).elim) (fun _ _ _ z => (Bool.false_ne_true z).elim) (fun _ _ _ _ z => (Bool.false_ne_true z).elim) (fun _ _ _ _ z => (Bool.false_ne_true z).elim) (fun _ _ _ z => (Bool.false_ne_true z).elim) (fun _ _ _ _ z => (Bool.false_ne_true z).elim) (fun _ _ _ z => (Bool.false_ne_true z).elim)
theorem onE_tup {f} (h : onE { tup := f } ex = true) : ∃ l k p, ex = .Tuple l k p ∧ f l k p = true :=
  onE_elim (P := fun ex => ∃ l k p, ex = .Tuple l k p ∧ f l k p = true) h (fun _ _ _ z => (Bool.false_ne_true z).elim) (fun _ _ z => (Bool.false_ne_true z).elim) (fun _ _ _ _ z => (Bool.false_ne_true z).elim) (fun _ _ _ z => (Bool.false_ne_true z).elim) (fun _ _ _ _ z => (Bool.false_ne_true z).elim) (fun _ _ _ z => (Bool.false_ne_true z).elim) (fun _ _ _ _ z => (Bool.false_ne_true z).elim) (fun _ _ z => (Bool.false_ne_true z).elim) (fun l k p z => ⟨l, k, p, rfl, z⟩) (fun _ _ _ z => (Bool.false_ne_true z).elim) (fun _ _ _ _ z => (Bool.false_ne_true z).elim) (fun _ _ _ _ z => (Bool.false_ne_true z).elim) (fun _ _ _ z => (Bool.false_ne_true z).elim) (fun _ _ _ _ z => (Bool.false_ne_true z).elim) (fun _ _ _ z => (Bool.false_ne_true z).elim)
theorem onE_sub {f} (h : onE { sub := f } ex = true) : ∃ o i p, ex = .Subscript o i p ∧ f o i = true :=
  onE_elim (P := fun ex => ∃ o i p, ex = .Subscript o i p ∧ f o i = true) h (fun _ _ _ z => (Bool.false_ne_true z).elim) (fun _ _ z => (Bool.false_ne_true z).elim) (fun _ _ _ _ z => (Bool.false_ne_true z).elim) (fun _ _ _ z => (Bool.false_ne_true z).elim) (fun _ _ _ _ z => (Bool.false_ne_true z).elim) (fun _ _ _ z => (Bool.false_ne_true z).elim) (fun _ _ _ _ z => (Bool.false_ne_true z).elim) (fun _ _ z => (Bool.false_ne_true z).elim) (fun _ _ _ z => (Bool.false_ne_true z).elim) (fun o i p z => ⟨o, i, p, rfl, z⟩) (fun _ _ _ _ z => (Bool.false_ne_true z).elim) (fun _ _ _ _ z => (Bool.false_ne_true z).elim) (fun _ _ _ z => (Bool.false_ne_true z).elim) (fun _ _ _ _ z => (Bool.false_ne_true z).elim) (fun _ _ _ z => (Bool.false_ne_true z).elim)
theorem onE_slice {f} (h : onE { slice := f } ex = true) : ∃ a b c p, ex = .Slice a b c p ∧ f a b c = true :=
  onE_elim (P := fun ex => ∃ a b c p, ex = .Slice a b c p ∧ f a b c = true) h (fun _ _ _ z => (Bool.false_ne_true z).elim) (fun _ _ z => (Bool.false_ne_true z).elim) (fun _ _ _ _ z => (Bool.false_ne_true z).elim) (fun _ _ _ z => (Bool.false_ne_true z).elim) (fun _ _ _ _ z => (Bool.false_ne_true z).elim) (fun _ _ _ z => (Bool.false_ne_true z).elim) (fun _ _ _ _ z => (Bool.false_ne_true z).elim) (fun _ _ z => (Bool.false_ne_true z).elim) (fun _ _ _ z => (Bool.false_ne_true z).elim) (fun _ _ _ z => (Bool.false_ne_true z).elim) (fun a b c p z => ⟨a, b, c, p, rfl, z⟩) (fun _ _ _ _ z => (Bool.false_ne_true z).elim) (fun _ _ _ z => (Bool.false_ne_true z).elim) (fun _ _ _ _ z => (Bool.false_ne_true z).elim) (fun _ _ _ z => (Bool.false_ne_true z).elim)
theorem onE_call {f} (h : onE { call := f } ex = true) : ∃ g a k p, ex = .Call g a k p ∧ f g a k p = true :=
  onE_elim (P := fun ex => ∃ g a k p, ex = .Call g a k p ∧ f g a k p = true) h (fun _ _ _ z => (Bool.false_ne_true z).elim) (fun _ _ z => (Bool.false_ne_true z).elim) (fun _ _ _ _ z => (Bool.false_ne_true z).elim) (fun _ _ _ z => (Bool.false_ne_true z).elim) (fun _ _ _ _ z => (Bool.false_ne_true z).elim) (fun _ _ _ z => (Bool.false_ne_true z).elim) (fun _ _ _ _ z => (Bool.false_ne_true z).elim) (fun _ _ z => (Bool.false_ne_true z).elim) (fun _ _ _ z => (Bool.false_ne_true z).elim) (fun _ _ _ z => (Bool.false_ne_true z).elim) (fun _ _ _ _ z => (Bool.false_ne_true z).elim) (fun g a k p z => ⟨g, a, k, p, rfl, z⟩) (fun _ _ _ z => (Bool.false_ne_true z).elim) (fun _ _ _ _ z => (Bool.false_ne_true z).elim) (fun _ _ _ z => (Bool.false_ne_true z).elim)
theorem onE_attr {f} (h : onE { attr := f } ex = true) : ∃ o n p, ex = .Attribute o n p ∧ f o n p = true :=
  onE_elim (P := fun ex => ∃ o n p, ex = .Attribute o n p ∧ f o n p = true) h (fun _ _ _ z => (Bool.false_ne_true z).elim) (fun _ _ z => (Bool.false_ne_true z).elim) (fun _ _ _ _ z => (Bool.false_ne_true z).elim) (fun _ _ _ z => (Bool.false_ne_true z).elim) (fun _ _ _ _ z => (Bool.false_ne_true z).elim) (fun _ _ _ z => (Bool.false_ne_true z).elim) (fun _ _ _ _ z => (Bool.false_ne_true z).elim) (fun _ _ z => (Bool.false_ne_true z).elim) (fun _ _ _ z => (Bool.false_ne_true z).elim) (fun _ _ _ z => (Bool.false_ne_true z).elim) (fun _ _ _ _ z => (Bool.false_ne_true z).elim) (fun _ _ _ _ z => (Bool.false_ne_true z).elim) (fun o n p z => ⟨o, n, p, rfl, z⟩) (fun _ _ _ _ z => (Bool.false_ne_true z).elim) (fun _ _ _ z => (Bool.false_ne_true z).elim)
theorem onE_comp {f} (h : onE { comp := f } ex = true) : ∃ e g s p, ex = .ListComp e g s p ∧ f e g s = true :=
  onE_elim (P := fun ex => ∃ e g s p, ex = .ListComp e g s p ∧ f e g s = true) h (fun _ _ _ z => (Bool.false_ne_true z).elim) (fun _ _ z => (Bool.false_ne_true z).elim) (fun _ _ _ _ z => (Bool.false_ne_true z).elim) (fun _ _ _ z => (Bool.false_ne_true z).elim) (fun _ _ _ _ z => (Bool.false_ne_true z).elim) (fun _ _ _ z => (Bool.false_ne_true z).elim) (fun _ _ _ _ z => (Bool.false_ne_true z).elim) (fun _ _ z => (Bool.false_ne_true z).elim) (fun _ _ _ z => (Bool.false_ne_true z).elim) (fun _ _ _ z => (Bool.false_ne_true z).elim) (fun _ _ _ _ z => (Bool.false_ne_true z).elim) (fun _ _ _ _ z => (Bool.false_ne_true z).elim) (fun _ _ _ z => (Bool.false_ne_true z).elim) (fun e g s p z => ⟨e, g, s, p, rfl, z⟩) (fun _ _ _ z => (Bool.false_ne_true z).elim)
/-- a call of a name, no keywords -/
noncomputable def onNC (ex : Expr) (f : Str → List Expr → Bool) : Bool := onE { call := fun g es ks _ => onE { name := fun x => nil? ks (f x es) } g } ex
theorem onNC_eq {f} (h : onNC ex f = true) : ∃ x px es p, ex = .Call (.Name x px) es [] p ∧ f x es = true := by
  obtain ⟨g, es, ks, p, rfl, h⟩ := onE_call h
  obtain ⟨x, px, rfl, h⟩ := onE_name h
  obtain ⟨rfl, h⟩ := nil?_eq h
  exact ⟨x, px, es, p, rfl, h⟩
/-- a method's call, no keywords -/
noncomputable def onMC (ex : Expr) (f : Expr → Str → Pos → List Expr → Pos → Bool) : Bool := onE { call := fun g es ks p => onE { attr := fun o n ap => nil? ks (f o n ap es p) } g } ex
theorem onMC_eq {f} (h : onMC ex f = true) : ∃ o n ap es p, ex = .Call (.Attribute o n ap) es [] p ∧ f o n ap es p = true := by
  obtain ⟨g, es, ks, p, rfl, h⟩ := onE_call h
  obtain ⟨o, n, ap, rfl, h⟩ := onE_attr h
  obtain ⟨rfl, h⟩ := nil?_eq h
  exact ⟨o, n, ap, es, p, rfl, h⟩
/-- a comparison of two -/
noncomputable def onC1 (ex : Expr) (f : Expr → CmpOp → Expr → Bool) : Bool := onE { cmp := fun l os rs => one? os fun o => one? rs fun r => f l o r } ex
theorem onC1_eq {f} (h : onC1 ex f = true) : ∃ l o r p, ex = .Compare l [o] [r] p ∧ f l o r = true := by
  obtain ⟨l, os, rs, p, rfl, h⟩ := onE_cmp h
  obtain ⟨o, rfl, h⟩ := one?_eq h
  obtain ⟨r, rfl, h⟩ := one?_eq h
  exact ⟨l, o, r, p, rfl, h⟩
end

/-- a comprehension over one row -/
noncomputable def onLC (ex : Expr) (f : Expr → Str → Expr → List Expr → Scope → Bool) : Bool := onE { comp := fun e gs sc => one? gs fun g => onE { name := fun x => g.is_async == 0 && f e x g.iter g.ifs sc } g.target } ex
theorem onLC_eq {ex : Expr} {f} (h : onLC ex f = true) : ∃ e x px it ifs sc p, ex = .ListComp e [⟨.Name x px, it, ifs, 0⟩] sc p ∧ f e x it ifs sc = true := by
  obtain ⟨e, gs, sc, p, rfl, h⟩ := onE_comp h
  obtain ⟨⟨tg, it, ifs, as⟩, rfl, h⟩ := one?_eq h
  obtain ⟨x, px, e2, h⟩ := onE_name h
  rw [Bool.and_eq_true] at h
  obtain ⟨h1, h⟩ := h
  have h1 := eq_of_beq h1
  simp only at h1 e2
  subst h1; subst e2
  exact ⟨e, x, px, it, ifs, sc, p, rfl, h⟩
noncomputable def isSetd : PE → Bool
  | _ => false
noncomputable def isNone' : PE → Bool
  | .const .none => true
  | _ => false
section
variable (frees : List Str) (fname : Nat → Str)
mutual
noncomputable def encE (ks : List (Str × NameKind)) (ns : List Str) : PE → Expr → Bool
  | .const v, ex => onE { cst := encC v } ex
  | .name i, ex => onE { name := fun x => ns[i]? == some x && !(x == ("__debug__" : Str)) } ex
  | .glob b, ex => onE { name := fun x => b.isTy && x == Str.ofString b.name && isGlob ks x && frees.contains x } ex
  | .bin op l r, ex => onE { bin := fun l' op' r' => op == op' && encE ks ns l l' && encE ks ns r r' } ex
  | .un op x, ex => onE { un := fun op' x' => op == op' && encE ks ns x x' } ex
  | .cmp op l r, ex => onC1 ex fun l' op' r' => op == op' && encE ks ns l l' && encE ks ns r r' && !(behindInMarks op r')
  | .bop op xs, ex => onE { bop := fun op' xs' => op == op' && encEs ks ns xs xs' } ex
  | .ife t a b, ex => onE { ife := fun t' a' b' => encE ks ns t t' && encE ks ns a a' && encE ks ns b b' } ex
  | .list xs, ex => onE { list := fun es => encEs ks ns xs es } ex
  | .tup xs, ex => onE { tup := fun es _ _ => encEs ks ns xs es } ex
  | .sub o i, ex => onE { sub := fun o' i' => encE ks ns o o' && encE ks ns i i' } ex
  | .slice o a b s, ex => onE { sub := fun o' sl => onE { slice := fun a' b' s' => encE ks ns o o' && (match a' with | some e => encE ks ns a e | none => isNone' a) && (match b' with | some e => encE ks ns b e | none => isNone' b) && (match s' with | some e => encE ks ns s e | none => isNone' s) } sl } ex
  | .call f xs, ex => onNC ex fun x es => x == fname f && isGlob ks x && encEs ks ns xs es
  | .bcall f xs, ex => onNC ex fun x es => x == Str.ofString f.name && isGlob ks x && frees.contains x && encEs ks ns xs es
  | .isOrEq i j, ex => onE { bop := fun op es => op == .Or && two? es fun e1 e2 => onC1 e1 fun l o r => onE { name := fun x => onE { name := fun y => o == .Is && onC1 e2 fun l2 o2 r2 => onE { name := fun x' => onE { name := fun y' => o2 == .Eq && ns[i]? == some x && ns[j]? == some y && x' == x && y' == y && !(x == ("__debug__" : Str)) && !(y == ("__debug__" : Str)) } r2 } l2 } r } l } ex
  | .comp caps elt src conds, ex => onLC ex fun e' x it ifs scope => encE ks ns src it && !(isSetd src) && compOkB ks ns scope x caps && encE (relab ks scope.names) (ns ++ [x]) elt e' && encEs (relab ks scope.names) (ns ++ [x]) conds ifs
noncomputable def encEs (ks : List (Str × NameKind)) (ns : List Str) : PEs → List Expr → Bool
  | .nil, es => (match es with | [] => true | _ => false)
  | .cons p ps, es => (match es with | e :: r => encE ks ns p e && encEs ks ns ps r | _ => false)
end
end
theorem encC_cases {v : AV} {c : Const} (h : encC v c = true) : (∃ i, v = .int i ∧ c = .int i) ∨ (∃ b, v = .bool b ∧ c = .bool b) ∨ (v = .none ∧ c = .none) ∨ ∃ s, v = .str s ∧ c = .str s := by
  unfold encC at h
  split at h
  · exact .inl ⟨_, rfl, by rw [eq_of_beq h]⟩
  · exact .inr (.inl ⟨_, rfl, by rw [eq_of_beq h]⟩)
  · exact .inr (.inr (.inl ⟨rfl, rfl⟩))
  · exact .inr (.inr (.inr ⟨_, rfl, by rw [eq_of_beq h]⟩))
  · cases h
theorem isNone'_eq {p : PE} (h : isNone' p = true) : p = .const .none := by
  unfold isNone' at h
  split at h
  · rfl
  · cases h

theorem compOk_of {ks : List (Str × NameKind)} {ns : List Str} {scope : Scope} {x : Str} {caps : List Nat} {env : Env} (hks : env.scope.names = ks) (h : compOkB ks ns scope x caps = true) : CompOk ns env scope x caps := by
  simp only [compOkB, Bool.and_eq_true, List.all_eq_true, Bool.not_eq_true', beq_eq_false_iff_ne, beq_iff_eq, Bool.or_eq_true] at h
  obtain ⟨⟨⟨⟨⟨h1, h2⟩, h3⟩, h4⟩, h5⟩, h6⟩ := h
  refine ⟨h1, h2, fun y hy e => (h3 y hy).resolve_left fun n => n e, h4, fun y hy => ?_, fun i hi y hy => ?_⟩
  · have := (h5 _ hy).resolve_left fun n => n rfl
    show env.scope.names.lookup y = some .cell
    rw [hks]; exact this
  · have := h6 i hi
    rw [hy] at this
    exact beq_iff_eq.mp this

theorem relab_eq {ks : List (Str × NameKind)} {scope : Scope} {env : Env} (hks : env.scope.names = ks) (hk : env.scope.kind = .function) : (relabel scope env).names = relab ks scope.names := by
  unfold relabel relab
  simp only [hk]
  refine List.map_congr_left fun p _ => ?_
  obtain ⟨n, k⟩ := p
  have : env.kindOf n = ks.lookup n := by rw [← hks]; rfl
  simp [this]

/- equations -/
section
variable {frees : List Str} {fname : Nat → Str} {ks : List (Str × NameKind)} {ns : List Str}
theorem ec_const {v ex} : encE frees fname ks ns (.const v) ex = onE { cst := encC v } ex := rfl
theorem ec_name {i ex} : encE frees fname ks ns (.name i) ex = onE { name := fun x => ns[i]? == some x && !(x == ("__debug__" : Str)) } ex := rfl
theorem ec_glob {b ex} : encE frees fname ks ns (.glob b) ex = onE { name := fun x => b.isTy && x == Str.ofString b.name && isGlob ks x && frees.contains x } ex := rfl
theorem ec_bin {op l r ex} : encE frees fname ks ns (.bin op l r) ex = onE { bin := fun l' op' r' => op == op' && encE frees fname ks ns l l' && encE frees fname ks ns r r' } ex := rfl
theorem ec_un {op x ex} : encE frees fname ks ns (.un op x) ex = onE { un := fun op' x' => op == op' && encE frees fname ks ns x x' } ex := rfl
theorem ec_cmp {op l r ex} : encE frees fname ks ns (.cmp op l r) ex = onC1 ex fun l' op' r' => op == op' && encE frees fname ks ns l l' && encE frees fname ks ns r r' && !(behindInMarks op r') := rfl
theorem ec_bop {op xs ex} : encE frees fname ks ns (.bop op xs) ex = onE { bop := fun op' xs' => op == op' && encEs frees fname ks ns xs xs' } ex := rfl
theorem ec_ife {t a b ex} : encE frees fname ks ns (.ife t a b) ex = onE { ife := fun t' a' b' => encE frees fname ks ns t t' && encE frees fname ks ns a a' && encE frees fname ks ns b b' } ex := rfl
theorem ec_list {xs ex} : encE frees fname ks ns (.list xs) ex = onE { list := fun es => encEs frees fname ks ns xs es } ex := rfl
theorem ec_tup {xs ex} : encE frees fname ks ns (.tup xs) ex = onE { tup := fun es _ _ => encEs frees fname ks ns xs es } ex := rfl
theorem ec_sub {o i ex} : encE frees fname ks ns (.sub o i) ex = onE { sub := fun o' i' => encE frees fname ks ns o o' && encE frees fname ks ns i i' } ex := rfl
theorem ec_slice {o a b s ex} : encE frees fname ks ns (.slice o a b s) ex = onE { sub := fun o' sl => onE { slice := fun a' b' s' => encE frees fname ks ns o o' && (match a' with | some e => encE frees fname ks ns a e | none => isNone' a) && (match b' with | some e => encE frees fname ks ns b e | none => isNone' b) && (match s' with | some e => encE frees fname ks ns s e | none => isNone' s) } sl } ex := rfl
theorem ec_call {f xs ex} : encE frees fname ks ns (.call f xs) ex = onNC ex fun x es => x == fname f && isGlob ks x && encEs frees fname ks ns xs es := rfl
theorem ec_bcall {f xs ex} : encE frees fname ks ns (.bcall f xs) ex = onNC ex fun x es => x == Str.ofString f.name && isGlob ks x && frees.contains x && encEs frees fname ks ns xs es := rfl
theorem ec_isOrEq {i j ex} : encE frees fname ks ns (.isOrEq i j) ex = onE { bop := fun op es => op == .Or && two? es fun e1 e2 => onC1 e1 fun l o r => onE { name := fun x => onE { name := fun y => o == .Is && onC1 e2 fun l2 o2 r2 => onE { name := fun x' => onE { name := fun y' => o2 == .Eq && ns[i]? == some x && ns[j]? == some y && x' == x && y' == y && !(x == ("__debug__" : Str)) && !(y == ("__debug__" : Str)) } r2 } l2 } r } l } ex := rfl
theorem ec_comp {caps elt src conds ex} : encE frees fname ks ns (.comp caps elt src conds) ex = onLC ex fun e' x it ifs scope => encE frees fname ks ns src it && !(isSetd src) && compOkB ks ns scope x caps && encE frees fname (relab ks scope.names) (ns ++ [x]) elt e' && encEs frees fname (relab ks scope.names) (ns ++ [x]) conds ifs := rfl
theorem ecs_nil {es} : encEs frees fname ks ns (.nil) es = (match es with | [] => true | _ => false) := rfl
theorem ecs_cons {p ps es} : encEs frees fname ks ns (.cons p ps) es = (match es with | e :: r => encE frees fname ks ns p e && encEs frees fname ks ns ps r | _ => false) := rfl
end
/- equations end -/
end Mine
end
section
open PySem PySem.W PyProof.Rows
namespace Mine

theorem Fm.ss {c : Cx} {A : Around} {ns : List Str} {env : Env} {st : Fs} {fe : FE} {H H' : Hd} {s s' : Shared} {σ' : Store} (F : Fm c (FrA A) ns env st fe H s.heap) (X : Ss A st.lo st.σ H s σ' H' s') : Fm c (FrA A) ns env (st.at σ') fe H' s'.heap := by
  have wr : ∀ b, Wr st.σ H st.lo b → ∃ o, s.heap.get? b = some o ∧ (∀ es ep, o.data ≠ .dict es ep) ∧ (∀ v, o.data ≠ .cell v) := fun b ⟨n, mo, _, e1, e2⟩ => by
    obtain ⟨a, e3, r⟩ := F.sto.at' n mo e1
    rw [e2] at e3; cases e3
    obtain ⟨o, e, d1, d2, _⟩ := r.data
    exact ⟨o, e, d1, d2⟩
  have nsk : ∀ {a m}, s.heap.Ns a m → s'.heap.Ns a m := fun {a m} n => by
    obtain ⟨o, es, ep, e, d, r⟩ := n
    have nw : ¬ Wr st.σ H st.lo a := fun w => by
      obtain ⟨o', e', d', _⟩ := wr a w
      rw [e] at e'; cases e'
      exact d' _ _ d
    obtain ⟨sl, q⟩ := (X.kv a o nw e).2
    exact ⟨_, es, ep, q, d, r⟩
  have clk : ∀ {a v}, s.heap.IsCell a v → s'.heap.IsCell a v := fun {a v} n => by
    obtain ⟨o, e, d⟩ := n
    have nw : ¬ Wr st.σ H st.lo a := fun w => by
      obtain ⟨o', e', _, d'⟩ := wr a w
      rw [e] at e'; cases e'
      exact d' _ d
    obtain ⟨sl, q⟩ := (X.kv a o nw e).2
    exact ⟨_, q, d⟩
  have nvk : ∀ {x v}, NV s.heap env x v → NV s'.heap env x v := fun {x v} n => by
    rcases n with ⟨k1, m, n, e⟩ | ⟨k1, cc, e, n⟩
    · exact .inl ⟨k1, m, nsk n, e⟩
    · exact .inr ⟨k1, cc, e, clk n⟩
  have ownk : ∀ i a vs, H.o i = some a → IsL s.heap a vs → IsL s'.heap a vs := fun i a vs e l => l.at fun o e' => (X.kv a o (fun ⟨n, _, _, _, e2⟩ => (F.own i a e).2.2.1 n e2) e').2
  have fes : ∀ b o, fe.h.get? b = some o → ∃ o', s.heap.get? b = some o' := fun b o e => F.keep.nw (fun b w => F.hlt b (F.hle b (F.wsub b w))) e
  exact {
    keep := fun b o n e => by
      obtain ⟨p1, sl, p2⟩ := F.keep b o n e
      have nw : ¬ Wr st.σ H st.lo b := fun ⟨m, mo, l1, e1, e2⟩ => by
        rcases Nat.lt_or_ge m st.n0 with hl | hl
        · exact n (F.mw m b mo hl l1 e1 e2)
        · rw [F.mnew m b hl e2] at e; cases e
      obtain ⟨q1, sl', q2⟩ := X.kv b _ nw p2
      exact ⟨fun f => (X.kv b o nw (p1 f)).1 f, sl', q2⟩
    wsub := F.wsub
    base := F.base
    baseF := F.baseF
    basew := F.basew
    hle := fun b q => X.hp b (F.hle b q)
    mle := fun n a e => X.mx n a (F.mle n a e)
    mold := fun n a l e => by
      rcases X.mn n a e with e | ⟨z, _⟩
      · exact F.mold n a l e
      · exact absurd (Nat.lt_of_lt_of_le l F.n0le) (Nat.not_lt.mpr z)
    mnew := fun n a l e => by
      rcases X.mn n a e with e | ⟨_, z⟩
      · exact F.mnew n a l e
      · cases q : fe.h.get? a with
        | none => rfl
        | some o => obtain ⟨o', e'⟩ := fes a o q; rw [z] at e'; cases e'
    mw := fun n a mo l l' q e => by
      have hl := Nat.lt_of_lt_of_le l F.n0le
      obtain ⟨mo', q'⟩ := X.rv n mo hl q
      rcases X.mn n a e with e | ⟨z, _⟩
      · exact F.mw n a mo' l l' q' e
      · exact absurd hl (Nat.not_lt.mpr z)
    hlt := X.live
    felt := F.felt
    wlt := F.wlt
    kind := F.kind
    glob := F.glob
    bi := F.bi
    code := F.code
    ns := let ⟨m, n⟩ := F.ns; ⟨m, nsk n⟩
    hl := X.hp _ F.hl
    lnew := F.lnew
    hc := fun x cc a b => ⟨X.hp _ (F.hc x cc a b).1, (F.hc x cc a b).2⟩
    cl := fun x q => let ⟨cc, v, e, n⟩ := F.cl x q; ⟨cc, v, e, clk n⟩
    capart := F.capart
    vals := fun i x t a b => let ⟨v, n, r⟩ := F.vals i x t a b; ⟨v, nvk n, r.mono (X.vis F.sto) (fun a e => by rw [X.o]; exact e) fun a vs e l => ownk i a vs e l⟩
    own := fun i a e => by
      rw [X.o] at e
      obtain ⟨p, q, r, vs, l⟩ := F.own i a e
      refine ⟨X.hp a p, q, fun n z => ?_, vs, ownk i a vs e l⟩
      rcases X.mn n a z with z | ⟨_, z⟩
      · exact r n z
      · obtain ⟨o, _, e', _⟩ := l; rw [z] at e'; cases e'
    oinj := fun i j a => by rw [X.o]; exact F.oinj i j a
    sto := X.sto
    mh0 := fun n a e => by
      rcases X.mn n a e with e | ⟨_, z⟩
      · exact F.mh0 n a e
      · cases q : c.h0.get? a with
        | none => rfl
        | some o => obtain ⟨o', e'⟩ := fes a o (F.base a o q); rw [z] at e'; cases e'
    n0le := Nat.le_trans F.n0le X.len
    tle := fun n i e => X.te n i (F.tle n i e) }

theorem RepO.derefS {c : Cx} {Fr : Addr → Prop} {ns : List Str} {env : Env} {st : Fs} {fe : FE} {H : Hd} {h : Heap} (F : Fm c Fr ns env st fe H h) (hlen : st.ρ.length = ns.length) {w : Value} : ∀ {v : OV}, RepW H (vis h H) w v → RepO h H w (derefS st.ρ st.σ v)
  | .av x, r => RepO.deref F.sto r
  | .own i, ⟨a, e, q⟩ => by
    unfold Mine.derefS
    dsimp only
    split
    · rename_i xs hs
      have hi : i < ns.length := by
        rcases Nat.lt_or_ge i st.ρ.length with h | h
        · omega
        · rw [List.getElem?_eq_none h] at hs; cases hs
      obtain ⟨v, n, z, a', vs, e', o', l, r⟩ := F.vals i _ _ (List.getElem?_eq_getElem hi) hs
      rw [e] at o'; cases o'
      exact ⟨z, a, vs, q, l, r⟩
    · simp [RepO, Rep]
theorem RepOL.derefS {c : Cx} {Fr : Addr → Prop} {ns : List Str} {env : Env} {st : Fs} {fe : FE} {H : Hd} {h : Heap} (F : Fm c Fr ns env st fe H h) (hlen : st.ρ.length = ns.length) : ∀ {ws : List Value} {vs : List OV}, RepWL H (vis h H) ws vs → RepOL h H ws (vs.map (Mine.derefS st.ρ st.σ))
  | [], [], _ => trivial
  | [], _ :: _, r => r.elim
  | _ :: _, [], r => r.elim
  | _ :: _, _ :: _, r => ⟨RepO.derefS F hlen r.1, RepOL.derefS F hlen r.2⟩
theorem plains_rep {H : Hd} {R : Vw} : ∀ {vs : List OV} {ws : List Value} {xs : List AV}, RepWL H R ws vs → plains vs = some xs → RepL R ws xs
  | [], [], xs, _, h => by simp only [plains, Option.some.injEq] at h; subst h; simp [RepL]
  | [], _ :: _, _, r, _ => r.elim
  | _ :: _, [], _, r, _ => r.elim
  | .av x :: vs, w :: ws, xs, r, h => by
    simp only [plains, Option.map_eq_some_iff] at h
    obtain ⟨ys, h1, rfl⟩ := h
    simp only [RepL]
    exact ⟨r.1, plains_rep r.2 h1⟩
  | .own _ :: _, _ :: _, _, _, h => by simp [plains] at h

/-- an expression comes to what is told of it -/
structure PrOk (c : Cx) (q : Bool) (A : Around) (lo : Nat) (σ : Store) (H : Hd) (ex : Expr) (env : Env) (p : PR) (s : Shared) : Prop where
  v : Ev c q A lo σ H (eval ex env) p.v s
  t : EvB c A lo σ H (isTrue ex env (eval ex env)) p.t s

section
variable {c : Cx} {q : Bool} {k : Nat} {A : Around} {lo : Nat} {σ : Store} {H : Hd} {s : Shared}

theorem Ev.bindK {t : Sem Value} {r : ER} {f : OV → Store → ER} {Q E Q' : Value → Shared → Prop} (X : Ev c q A lo σ H t r s) (P : PostE q A lo σ H (r.bind f) s Q E)
    (h : ∀ v σ₁, r = .ok v σ₁ → ∀ w H₁ s₁, Ss A lo σ H s σ₁ H₁ s₁ → RepW H₁ (vis s₁.heap H₁) w v → PostE q A lo σ₁ H₁ (f v σ₁) s₁ Q E → Q' w s₁) : wpAny c.M A t Q' E s := by
  cases r with
  | ok v σ₁ => exact X _ _ fun w H₁ s₁ x r => h v σ₁ rfl w H₁ s₁ x r (P.ss x)
  | exc x σ₁ => exact X _ _ P
  | stuck => exact P.elim
theorem Ev.bindAK {t : Sem Value} {r : ER} {f : AV → Store → ER} {Q E Q' : Value → Shared → Prop} (X : Ev c q A lo σ H t r s) (P : PostE q A lo σ H (r.bindA f) s Q E)
    (h : ∀ v σ₁, r = .ok (.av v) σ₁ → ∀ w H₁ s₁, Ss A lo σ H s σ₁ H₁ s₁ → Rep (vis s₁.heap H₁) w v → PostE q A lo σ₁ H₁ (f v σ₁) s₁ Q E → Q' w s₁) : wpAny c.M A t Q' E s := by
  cases r with
  | ok v σ₁ =>
    cases v with
    | av v => exact X _ _ fun w H₁ s₁ x r => h v σ₁ rfl w H₁ s₁ x r (PostE.ss (r := f v σ₁) P x)
    | own i => exact P.elim
  | exc x σ₁ => exact X _ _ P
  | stuck => exact P.elim
theorem EvL.onK {t : Sem (List Value)} {r : Option (List OV × Store)} {f : List OV → Store → ER} {Q E : Value → Shared → Prop} {Q' : List Value → Shared → Prop} (X : EvL c A lo σ H t r s) (P : PostE q A lo σ H (onL r f) s Q E)
    (h : ∀ l σ₁, r = some (l, σ₁) → ∀ ws H₁ s₁, Ss A lo σ H s σ₁ H₁ s₁ → RepWL H₁ (vis s₁.heap H₁) ws l → PostE q A lo σ₁ H₁ (f l σ₁) s₁ Q E → Q' ws s₁) : wpAny c.M A t Q' E s := by
  cases r with
  | none => exact P.elim
  | some p =>
    obtain ⟨l, σ₁⟩ := p
    exact X l σ₁ rfl _ _ fun ws H₁ s₁ x r => h l σ₁ rfl ws H₁ s₁ x r (PostE.ss (r := f l σ₁) P x)
theorem EvL.onPK {t : Sem (List Value)} {r : Option (List OV × Store)} {f : List AV → Store → ER} {Q E : Value → Shared → Prop} {Q' : List Value → Shared → Prop} (X : EvL c A lo σ H t r s) (P : PostE q A lo σ H (onP r f) s Q E)
    (h : ∀ l σ₁ ol, r = some (ol, σ₁) → plains ol = some l → ∀ ws H₁ s₁, Ss A lo σ H s σ₁ H₁ s₁ → RepL (vis s₁.heap H₁) ws l → PostE q A lo σ₁ H₁ (f l σ₁) s₁ Q E → Q' ws s₁) : wpAny c.M A t Q' E s := by
  refine X.onK P fun ol σ₁ e ws H₁ s₁ x rr P' => ?_
  cases hp : plains ol with
  | none => rw [hp] at P'; exact P'.elim
  | some l => rw [hp] at P'; exact h l σ₁ ol e hp ws H₁ s₁ x (plains_rep rr hp) P'
theorem starEach_cons {env : Env} {e : Expr} {es : List Expr} (h : ∀ x z, e ≠ .Starred x z) : starEach (e :: es) env = (false, eval e env) :: starEach es env := by
  cases e <;> first | rfl | exact absurd rfl (h _ _)
/-- a pure end -/
theorem PostE.res {r : Res} {Q E : Value → Shared → Prop} (P : PostE q A lo σ H (ofRes r σ) s Q E) (S : Sto σ H s.heap) (L : Live H s.heap) : Post q A H r s Q E := by
  cases r with
  | ok v => exact fun w s' H' k r => P w H' s' (.of_kt k S L) r
  | exc x => exact ⟨P.1, fun e s' X => P.2 e H s s' (.of_kp (Kp.refl _ _) S L) X⟩
  | stuck => exact P
end

section
variable {c : Cx} {O : OpsF} (OK : OpsOk c O) {q : Bool} {k : Nat} {A : Around} {H : Hd} {env : Env} {s : Shared} {ns : List Str} {st : Fs} {fe : FE}
include OK
theorem isT_value {ex : Expr} {r : ER} (hm : Rm c q (k + 1) A H s) (F : Fm c (FrA A) ns env st fe H s.heap) (hlen : st.ρ.length = ns.length) (X : Ev c q A st.lo st.σ H (eval ex env) r s)
    (he : isTrue ex env (eval ex env) = (do let v ← eval ex env; standAt ex.pos; holding [v] (truthy v))) : EvB c A st.lo st.σ H (isTrue ex env (eval ex env)) (r.truth O.truth st.ρ) s := fun b σ' ht Q E P => by
  cases r with
  | exc _ _ => cases ht
  | stuck => cases ht
  | ok v σ₁ =>
    simp only [ER.truth, Option.map_eq_some_iff, Prod.mk.injEq] at ht
    obtain ⟨b', ht, rfl, rfl⟩ := ht
    refine wpAny_isTrue_value (X _ _ fun w H₁ s₁ x r₁ => ?_) he
    have F₁ := F.ss x
    exact OK.truth (hm.nf x.nf) F₁.hlt (RepO.derefS F₁ hlen r₁) ht _ _ fun s₂ k₂ => P H₁ s₂ (x.trans (.of_kp k₂ F₁.sto F₁.hlt))
theorem prOk_of {ex : Expr} {r : ER} (hm : Rm c q (k + 1) A H s) (F : Fm c (FrA A) ns env st fe H s.heap) (hlen : st.ρ.length = ns.length) (X : Ev c q A st.lo st.σ H (eval ex env) r s)
    (he : isTrue ex env (eval ex env) = (do let v ← eval ex env; standAt ex.pos; holding [v] (truthy v))) : PrOk c q A st.lo st.σ H ex env (.of O.truth st.ρ r) s := ⟨X, isT_value OK hm F hlen X he⟩
end
end Mine
end
section
open PySem PySem.W PyProof.Rows
namespace Mine
set_option linter.unusedVariables false
/- a comprehension of two rows: [p for x in row for p in x] -/
abbrev ce2 (x p : Str) (px px2 pp pp2 : Pos) (iter : Expr) (scope : Scope) (pos : Pos) : Expr := .ListComp (.Name p pp2) [⟨.Name x px, iter, [], 0⟩, ⟨.Name p pp, .Name x px2, [], 0⟩] scope pos
section
variable {x p : Str} {px px2 pp pp2 : Pos} {iter : Expr} {scope : Scope} {pos : Pos} {it acc : Value} {env : Env}
variable {prog : Program} {w : World} {A : Around} {E : Value → Shared → Prop} {R : Result → Shared → Prop} {s : Shared}
end
theorem rep_not_hidden {h : Heap} {H : Hd} {b : Addr} : ∀ {x : AV}, (∀ n, x ≠ .ptr n) → (∀ k ys, x ≠ .itr k ys) → x ≠ .any → Rep (vis h H) (.ref b) x → ¬ H.p b ∧ ∃ o, h.get? b = some o
  | .none, _, _, _, r => by simp [Rep] at r
  | .bool _, _, _, _, r => by simp [Rep] at r
  | .int _, _, _, _, r => by simp [Rep] at r
  | .float _, _, _, _, r => by simp [Rep] at r
  | .str _, _, _, _, r => by simp [Rep] at r
  | .bytes _, _, _, _, r => by simp [Rep] at r
  | .type _, _, _, _, r => by simp [Rep] at r
  | .fn _, _, _, _, r => by simp [Rep] at r
  | .ptr n, h, _, _, _ => absurd rfl (h n)
  | .itr k ys, _, h, _, _ => absurd rfl (h k ys)
  | .any, _, _, h, _ => absurd rfl h
  | .range _ _ _, _, _, _, r => by
    simp only [Rep] at r
    obtain ⟨_, _, _, _, e, v⟩ := r
    cases e; exact ⟨v.1, let ⟨o, q, _⟩ := v.2; ⟨o, q⟩⟩
  | .dict _, _, _, _, r => by
    simp only [Rep] at r
    obtain ⟨_, _, _, e, v, _⟩ := r
    cases e; exact ⟨v.1, let ⟨o, q, _⟩ := v.2; ⟨o, q⟩⟩
  | .set _ _, _, _, _, r => by
    simp only [Rep] at r
    obtain ⟨_, _, _, _, e, v, _⟩ := r
    cases e; exact ⟨v.1, let ⟨o, q, _⟩ := v.2; ⟨o, q⟩⟩
  | .tup _, _, _, _, r => by
    simp only [Rep] at r
    obtain ⟨_, _, _, _, e, v, _⟩ := r
    cases e; exact ⟨v.1, let ⟨o, q, _⟩ := v.2; ⟨o, q⟩⟩
  | .lst _, _, _, _, r => by
    simp only [Rep] at r
    obtain ⟨_, _, _, _, e, v, _⟩ := r
    cases e; exact ⟨v.1, let ⟨o, q, _⟩ := v.2; ⟨o, q⟩⟩


section
variable {c : Cx} {O : OpsF} (OK : OpsOk c O) {A : Around} {k : Nat}
include OK
end
end Mine
end
section
open PySem PySem.W PyProof.Rows
namespace Mine

/-- more is hidden -/
theorem Fm.hide {c : Cx} {Fr : Addr → Prop} {ns : List Str} {env : Env} {st : Fs} {fe : FE} {H H₂ : Hd} {h h₂ : Heap} (F : Fm c Fr ns env st fe H h) (kk : Kh Fr h h₂) (hH : ∀ b, H.p b → H₂.p b) (hN : ∀ b, H₂.p b → H.p b ∨ h.get? b = none) (hT : ∀ n i, H.t n = some i → H₂.t n = some i) (hM : H₂.m = H.m) (hO : H₂.o = H.o) (hL : Live H₂ h₂) : Fm c Fr ns env st fe H₂ h₂ :=
  let G := F.step kk
  { keep := G.keep, wsub := G.wsub, base := G.base, baseF := G.baseF, basew := G.basew, hle := fun b z => hH b (F.hle b z)
    mle := fun n a e => by rw [hM]; exact F.mle n a e
    mold := fun n a l e => F.mold n a l (by rw [← hM]; exact e)
    mnew := fun n a l e => F.mnew n a l (by rw [← hM]; exact e)
    mw := fun n a mo l l' q e => F.mw n a mo l l' q (by rw [← hM]; exact e)
    hlt := hL, felt := G.felt, wlt := G.wlt, kind := G.kind, glob := G.glob, bi := G.bi, code := G.code, ns := G.ns, hl := hH _ G.hl, lnew := G.lnew
    hc := fun x cc y z => ⟨hH _ (G.hc x cc y z).1, (G.hc x cc y z).2⟩, cl := G.cl, capart := G.capart
    vals := fun i x t a b => let ⟨v, n, r⟩ := F.vals i x t a b; ⟨v, n.kh kk, r.mono (vis_new kk hN hT fun n a e => by rw [hM]; exact e) (fun a e => by rw [hO]; exact e) fun a vs _ l => kk.isL l⟩
    own := fun i a e => by
      rw [hO] at e
      obtain ⟨p, q, r, vs, l⟩ := F.own i a e
      exact ⟨hH a p, q, fun n => by rw [hM]; exact r n, vs, kk.isL l⟩
    oinj := fun i j a => by rw [hO]; exact F.oinj i j a
    sto := F.sto.new kk hH hN hT hM
    mh0 := fun n a e => F.mh0 n a (by rw [← hM]; exact e)
    n0le := F.n0le
    tle := fun n i e => hT n i (F.tle n i e) }

section
variable {c : Cx} {O : OpsF} (OK : OpsOk c O) {q : Bool} {k : Nat} {A : Around} {H : Hd} {env : Env} {ns : List Str} {st : Fs} {fe : FE} {s : Shared}

theorem Fm.base' {h : Heap} (F : Fm c (FrA A) ns env st fe H h) : c.h0.StaysIn h := fun b o e => ((F.keep b o (fun f => by rw [F.basew b f] at e; cases e) (F.base b o e)).1 (.inl fun f => by rw [F.baseF b f] at e; cases e))
theorem stays_ns {a b : Heap} (k : a.StaysIn b) {d : Addr} {m : Str → Option Value} (n : a.Ns d m) : b.Ns d m := let ⟨o, es, ep, e, r⟩ := n; ⟨o, es, ep, k _ _ e, r⟩

theorem ld_glob {x : Str} {pos : Pos} {v : Value} {Q E : Value → Shared → Prop} (F : Fm c (FrA A) ns env st fe H s.heap) (hk : env.kindOf x = some .globalImplicit) (hd : (x == ("__debug__" : Str)) = false) (hv : c.mg x = some v) (h : Q v s) :
    wpAny c.M A (eval (.Name x pos) env) Q E s :=
  Calls.Name_function_global F.kind hk (Calls.loadGlobal_global (by rw [F.glob]; exact stays_ns F.base' c.g) hv h) hd
theorem ld_boot {x : Str} {pos : Pos} {v : Value} {Q E : Value → Shared → Prop} (F : Fm c (FrA A) ns env st fe H s.heap) (hk : env.kindOf x = some .globalImplicit) (hd : (x == ("__debug__" : Str)) = false) (hn : x ≠ "__name__") (hf : c.mg x = none) (hv : bootBuiltins x = some v) (h : Q v s) :
    wpAny c.M A (eval (.Name x pos) env) Q E s :=
  Calls.Name_function_global F.kind hk (Calls.loadGlobal_builtin (by rw [F.glob]; exact stays_ns F.base' c.g) hf (by rw [F.bi]; exact stays_ns F.base' c.b) ((c.builtins x hn).trans hv) h) hd

include OK
/-- a comprehension; g says what is made of the row -/
theorem ev_compG {ce iter : Expr} {gs : List Comprehension} {x : Str} {px pos : Pos} {ifs : List Expr} {scope : Scope} {caps : List Nat} {r : ER} {g : Store → List AV → Option (List AV)} (hq : q = true) (hm : Rm c q (k + 1) A H s) (F : Fm c (FrA A) ns env st fe H s.heap) (hlen : st.ρ.length = ns.length)
    (hkd : scope.kind = .function) (hlc : ∀ y ∈ scope.names, y.2 = .local → scope.names.lookup y.1 = some .local) (hfr : ∀ y, (y, NameKind.free) ∈ scope.names → env.kindOf y = some .cell) (hcl : clausesOf ce = ⟨.Name x px, iter, ifs, 0⟩ :: gs) (hs : ∀ x, foldedSetIterable iter env x = pure x) (X : Ev c q A st.lo st.σ H (eval iter env) r s)
    (T : ∀ σ₁ l ys, g σ₁ l = some ys → l.length ≤ 1048576 → ys.length ≤ 1048576 ∧ ∀ H₁, CompSpec c q (k + 1) A ns env (st.at σ₁) fe scope x caps ce H₁ l ys) :
    Ev c q A st.lo st.σ H (comprehension ce scope env pos (newList []) false (eval iter env)) (r.bind fun a σ₁ => onItems (O.items (derefS st.ρ σ₁ a)) fun l => onItems (g σ₁ l) fun ys => .ok (.av (.lst ys)) σ₁) s := fun Q E P => by
  obtain ⟨cl, hclos, hcl1, hcl2, hcl3⟩ := closureFor_ok3 (env := env) (scope := scope) fun y hy => by
    obtain ⟨cc, _, e, _⟩ := F.cl y (hfr y hy)
    rw [e]; rfl
  refine wpAny_comprehension_free (use := none) hcl hs hclos hkd hlc (X.bindK P fun a σ₁ hr xv H₁ s₁ x₁ r₁ P₁ => ?_)
  have F₁ := F.ss x₁
  have hm₁ := hm.nf x₁.nf
  cases hit : O.items (derefS st.ρ σ₁ a) with
  | none => rw [hit] at P₁; exact P₁.elim
  | some l =>
  rw [hit] at P₁
  simp only [onItems] at P₁
  cases hf : g σ₁ l with
  | none => rw [hf] at P₁; exact P₁.elim
  | some ys =>
  rw [hf] at P₁
  refine wpAny_up (OK.items hm₁ hq F₁.hlt (RepO.derefS F₁ hlen r₁) hit _ _ fun I fp PP GG St h' tk hk hI hfI hl _ hsz W hst hP hG hleI => ?_)
  obtain ⟨hys, CS⟩ := T σ₁ l ys hf hsz
  refine CS H₁ (RR := fun acc C => compPost c.M A E none Q acc C) (s₁ := s₁) hm₁ F₁ hcl1 hcl2 hcl3 ⟨_, _, rfl, hleI⟩ hk hI hl hfI W hst hsz hP hG ?_
  intro D C h'' tk' m' vs T₁ hleD hte htd hD hC hDC hn hl hr hkv
  refine ⟨m', hn, fun h₃ hs₃ => P₁ _ (H₁.wt T₁) _ (.of_kt ⟨⟨h₃, tk', rfl, hleD, ?_⟩, rfl, hte, fun _ => htd⟩ F₁.sto F₁.hlt) ?_⟩
  · have k1 : Kh (FrA A) s₁.heap h'' := (Kh.of_keeps hk).trans' hkv fun b o e z => by rw [z, hI] at e; cases e
    refine k1.trans' (Kv.of_sameBut (W := fun b => b = C) hs₃ rfl) fun b o e z => ?_
    have := hk b o e
    rw [z, hC] at this; cases this
  · simp only [RepW, Rep]
    have hl₃ : IsL h₃ D vs := hl.at' fun o e => hs₃.extBut D o hDC e
    obtain ⟨o, n, e, c1, d1, f1⟩ := hl₃
    refine ⟨hys, D, vs, n, rfl, ⟨fun z => ?_, o, e, c1, d1, f1, .inl rfl, fun ⟨_, z⟩ => by cases z⟩, ?_⟩
    · obtain ⟨o', e'⟩ := F₁.hlt D z
      have := hk D o' e'
      rw [hD] at this; cases this
    · have r2 := RepL.mono ((Kv.of_sameBut (F := FrA A) (W := fun b => b = C) hs₃ rfl).vis (H := (H₁.wt T₁).add fun b => b = C ∨ b = D ∨ b = I) fun b z => .inr (.inl z)) hr
      exact RepL.mono (vis_hide (H := H₁.wt T₁) (H' := (H₁.wt T₁).add fun b => b = C ∨ b = D ∨ b = I) (fun b z => .inl z) (fun n a e => e) fun n i e => e) r2
theorem ev_listcomp {elt iter : Expr} {x : Str} {px pos : Pos} {ifs : List Expr} {scope : Scope} {caps : List Nat} {r : ER} {f : Store → AV → Option (Option AV)} (hq : q = true) (hm : Rm c q (k + 1) A H s) (F : Fm c (FrA A) ns env st fe H s.heap) (hlen : st.ρ.length = ns.length)
    (K : CompOk ns env scope x caps) (hs : ∀ x, foldedSetIterable iter env x = pure x) (X : Ev c q A st.lo st.σ H (eval iter env) r s) (T : ∀ σ₁, TurnOk c q (k + 1) A ns env (st.at σ₁) fe scope x caps elt ifs (f σ₁)) :
    Ev c q A st.lo st.σ H (eval (.ListComp elt [⟨.Name x px, iter, ifs, 0⟩] scope pos) env) (r.bind fun a σ₁ => onItems (O.items (derefS st.ρ σ₁ a)) fun l => onItems (mapF (f σ₁) l) fun ys => .ok (.av (.lst ys)) σ₁) s := by
  rw [eval_ListComp]
  exact ev_compG OK (caps := caps) (g := fun σ₁ l => mapF (f σ₁) l) hq hm F hlen K.kind K.loc K.free rfl hs X fun σ₁ l ys hf hsz => ⟨Nat.le_trans (mapF_length hf) hsz, fun H₁ => comp_spec1 (st := st.at σ₁) hlen K hf (T σ₁)⟩
end
section
variable {c : Cx} {O : OpsF} (OK : OpsOk c O) {k : Nat} {A : Around} {env : Env} {ns : List Str} {st : Fs} {fe : FE}
include OK
end
section
variable {c : Cx} {q : Bool} {k : Nat} {A : Around} {H : Hd} {env : Env} {ns : List Str} {st : Fs} {fe : FE} {s : Shared}
end
end Mine
end
section
open PySem PySem.W PyProof.Rows
namespace Mine

theorem encE_notStar {frees : List Str} {fname : Nat → Str} {ks : List (Str × NameKind)} {ns : List Str} {p : PE} {ex : Expr} (h : encE frees fname ks ns p ex = true) : ∀ x z, ex ≠ .Starred x z := by
  rintro x z rfl
  cases p <;> exact Bool.false_ne_true h
theorem encE_notSet {frees : List Str} {fname : Nat → Str} {ks : List (Str × NameKind)} {ns : List Str} {p : PE} {ex : Expr} (h : encE frees fname ks ns p ex = true) (hs : isSetd p = false) (env : Env) : ∀ x, foldedSetIterable ex env x = pure x := by
  intro x
  cases ex <;> first | rfl | (cases p <;> first | exact (Bool.false_ne_true h).elim | exact (Bool.false_ne_true hs.symm).elim)
theorem encE_notSlice {frees : List Str} {fname : Nat → Str} {ks : List (Str × NameKind)} {ns : List Str} {p : PE} {ex : Expr} (h : encE frees fname ks ns p ex = true) : ∀ a b z w, ex ≠ .Slice a b z w := by
  rintro a b z w rfl
  cases p <;> exact Bool.false_ne_true h
theorem subscripted_plain {ex : Expr} (h : ∀ a b z w, ex ≠ .Slice a b z w) (o i : Value) : subscripted ex false o i = operate [o, i] (getItem o i) := by
  cases ex <;> first | rfl | exact absurd rfl (h _ _ _ _)
theorem isGlob_of {ks : List (Str × NameKind)} {x : Str} {env : Env} (hks : env.scope.names = ks) (h : isGlob ks x = true) : env.kindOf x = some .globalImplicit ∧ (x == ("__debug__" : Str)) = false ∧ x ≠ "__name__" := by
  simp only [isGlob, Bool.and_eq_true, Bool.not_eq_true', beq_iff_eq] at h
  refine ⟨?_, h.1.2, by simpa using h.2⟩
  show env.scope.names.lookup x = _
  rw [hks]; exact h.1.1

theorem Rm.down {c : Cx} {q : Bool} {k : Nat} {A : Around} {H : Hd} {s : Shared} (X : Rm c q (k + 1) A H s) : Rm c q k A H s := ⟨by have := X.depth; omega, by have := X.units; omega, X.hand, X.frames, X.tok, X.td⟩
theorem pes_nil {frees : List Str} {fname : Nat → Str} {ks : List (Str × NameKind)} {ns : List Str} {ps : PEs} (h : encEs frees fname ks ns ps [] = true) : ps = .nil := by
  cases ps with
  | nil => rfl
  | cons _ _ => simp [ecs_nil, ecs_cons] at h
theorem encEs_head {frees : List Str} {fname : Nat → Str} {ks : List (Str × NameKind)} {ns : List Str} {ps : PEs} {e : Expr} {es : List Expr} (h : encEs frees fname ks ns ps (e :: es) = true) : ∀ x z, e ≠ .Starred x z := by
  cases ps with
  | nil => simp [ecs_nil, ecs_cons] at h
  | cons p ps => simp only [ecs_nil, ecs_cons, Bool.and_eq_true] at h; exact encE_notStar h.1
theorem star_plain {frees : List Str} {fname : Nat → Str} {ks : List (Str × NameKind)} {ns : List Str} {pos : Pos} {env : Env} : ∀ {ps : PEs} {es : List Expr}, encEs frees fname ks ns ps es = true → (backTo pos (starEach es env)).any (·.1) = false
  | _, [], _ => rfl
  | .nil, _ :: _, h => by simp [ecs_nil, ecs_cons] at h
  | .cons p ps, e :: es, h => by
    have h' := h
    simp only [ecs_nil, ecs_cons, Bool.and_eq_true] at h
    rw [starEach_cons (encEs_head h')]
    show (false || (backTo pos (starEach es env)).any (·.1)) = false
    rw [star_plain h.2]; rfl

end Mine
end
section
open PySem PySem.W PyProof.Rows
set_option maxHeartbeats 2000000
set_option linter.unusedVariables false
set_option linter.unusedSectionVars false
namespace Mine

theorem star_all {frees : List Str} {fname : Nat → Str} {ks : List (Str × NameKind)} {ns : List Str} {pos : Pos} {env : Env} {ps : PEs} {es : List Expr} (h : encEs frees fname ks ns ps es = true) (hl : es.length < 20) :
    ((backTo pos (starEach es env)).all (fun x => !x.1) && (backToKw pos (keywordEach [] env)).all (fun x => x.1.isSome) && decide (es.length + ([] : List Keyword).length + (if ([] : List Keyword).isEmpty then 0 else 1) < 30)) = true := by
  have h1 := star_plain (pos := pos) (env := env) h
  have h2 : (backTo pos (starEach es env)).all (fun x => !x.1) = true := by
    rw [List.all_eq_true]
    intro x hx
    rw [List.any_eq_false] at h1
    have := h1 x hx
    simpa using this
  rw [h2]
  simp [keywordEach, backToKw]
  omega

theorem emeth_plain : PlainAttrs "list" := PySem.F.plainAttrs_list
theorem comp_turn {c : Cx} {O : OpsF} {cal : Cal} {k : Nat} {elt : PE} {conds : PEs} {q : Bool} {ns : List Str} {st : Fs} {env : Env} {A : Around} {fe : FE} {scope : Scope} {x : Str} {caps : List Nat} {e' : Expr} {ifs : List Expr} {ks' : List (Str × NameKind)} (hk : (relabel scope env).names = ks') (hlen : st.ρ.length = ns.length)
    (Ie : ∀ {cenv : Env} {s : Shared} {H : Hd} {st' : Fs}, cenv.scope.names = ks' → Rm c q (k + 1) A H s → Fm c (FrA A) (ns ++ [x]) cenv st' fe H s.heap → st'.ρ.length = (ns ++ [x]).length → PrOk c q A st'.lo st'.σ H e' cenv (pe O cal q st' elt) s)
    (Ic : ∀ {cenv : Env} {s : Shared} {H : Hd} {st' : Fs}, cenv.scope.names = ks' → Rm c q (k + 1) A H s → Fm c (FrA A) (ns ++ [x]) cenv st' fe H s.heap → st'.ρ.length = (ns ++ [x]).length → EvB c A st'.lo st'.σ H (testsOf ifs cenv) (pall O cal q st' .And conds) s) :
    TurnOk c q (k + 1) A ns env st fe scope x caps e' ifs (fun x => compF st.σ.length (pall O cal q (st.inner caps x) .And conds) (pe O cal q (st.inner caps x) elt).v) := by
  intro item s₃ H₃ cenv hsc hm₃ F₃
  have hks' : cenv.scope.names = ks' := by rw [hsc]; exact hk
  have hlen' : (st.inner caps item).ρ.length = (ns ++ [x]).length := by simp [Fs.inner, mask_length, hlen]
  refine ⟨fun y hy => ?_, fun hn => ?_⟩
  · unfold compF at hy
    dsimp only at hy
    split at hy
    · rename_i σt ht
      have T := Ic hks' hm₃ F₃ hlen'
      rw [ht] at T
      refine ⟨T.pure (Nat.le_refl _), fun s₄ k₄ => ?_⟩
      have Y := (Ie hks' (hm₃.kp k₄) (F₃.kp k₄) hlen').v
      unfold elemF at hy
      split at hy
      · rename_i v σ' hv
        split at hy
        · rename_i hl
          simp only [Option.map_some, Option.some.injEq] at hy
          subst hy
          rw [hv] at Y
          exact Y.pure (Nat.le_refl _) hl
        · cases hy
      · cases hy
    · cases hy
    · cases hy
  · unfold compF at hn
    dsimp only at hn
    split at hn
    · simp only [Option.map_eq_some_iff] at hn
      obtain ⟨_, _, hn⟩ := hn
      cases hn
    · rename_i σt ht
      have T := Ic hks' hm₃ F₃ hlen'
      rw [ht] at T
      exact T.pure (Nat.le_refl _)
    · cases hn

/-- a comparison of two -/
theorem prOk_cmp {O : OpsF} {k : Nat} {c : Cx} (OK : OpsOk c O) {q : Bool} {ns : List Str} {st : Fs} {env : Env} {A : Around} {s : Shared} {fe : FE} {H : Hd} {op : CmpOp} {l' r' : Expr} {pos : Pos} {R : ER} (hm : Rm c q (k + 1) A H s) (F : Fm c (FrA A) ns env st fe H s.heap) (hlen : st.ρ.length = ns.length) (h3 : behindInMarks op r' = false)
    (core : ∀ (Q Q' : Value → Shared → Prop) (E : Value → Shared → Prop), PostE q A st.lo st.σ H R s Q E → (∀ t σ' H' s', R = .ok (.av (.bool t)) σ' → Ss A st.lo st.σ H s σ' H' s' → Q' (.bool t) s') → wpAny c.M A (eval l' env) (fun va s₁ => wpAny c.M A (eval r' env) (fun vb s₂ => wpAny c.M A (compareOp op va vb) Q' E s₂) E s₁) E s) :
    PrOk c q A st.lo st.σ H (.Compare l' [op] [r'] pos) env (.of O.truth st.ρ R) s := by
  have T : Ev c q A st.lo st.σ H (eval (.Compare l' [op] [r'] pos) env) R s := fun Q E P => wpAny_Compare1 (core Q Q E P fun t σ' H' s' e x => by subst e; exact P _ H' s' x (by simp [RepW, Rep])) h3
  refine ⟨T, fun b σ' hb Q E P => ?_⟩
  cases R with
  | exc _ _ => cases hb
  | stuck => cases hb
  | ok v σ₁ =>
    simp only [PR.of, ER.truth, Option.map_eq_some_iff, Prod.mk.injEq] at hb
    obtain ⟨b', hb, rfl, rfl⟩ := hb
    refine wpAny_isTrue_Compare1 (core (fun _ _ => True) _ E (fun _ _ _ _ _ => trivial) fun t σ'' H' s' e x => ?_) h3
    cases e
    have F' := F.ss x
    exact OK.truth (hm.nf x.nf) F'.hlt (a := .bool t) (by simp [RepO, Rep]) hb _ _ fun s'' k'' => P H' s'' (x.trans (.of_kp k'' F'.sto F'.hlt))

section
variable {c : Cx} {O : OpsF} (OK : OpsOk c O) {k : Nat} {cal : Cal} {fname : Nat → Str} (CO : CallsOk c k cal fname) {frees : List Str} (hfree : ∀ x ∈ frees, c.mg x = none)
include OK CO hfree

mutual
theorem pe_sound : ∀ (e : PE) {q : Bool} {ks : List (Str × NameKind)} {ns : List Str} {st : Fs} {ex : Expr} {env : Env} {A : Around} {s : Shared} {fe : FE} {H : Hd},
    encE frees fname ks ns e ex = true → env.scope.names = ks → Rm c q (k + 1) A H s → Fm c (FrA A) ns env st fe H s.heap → st.ρ.length = ns.length → PrOk c q A st.lo st.σ H ex env (pe O cal q st e) s
  | .const v, q, ks, ns, st, ex, env, A, s, fe, H, he, hks, hm, F, hlen => by
    rw [ec_const] at he
    obtain ⟨c', kk, pos, rfl, hz⟩ := onE_cst he
    replace he := hz; clear hz
    rw [qe_const]
    refine prOk_of OK hm F hlen ?_ rfl
    have T : Tr c q A H (eval (.Constant c' kk pos) env) (.ok v) s := by
      rcases encC_cases he with ⟨i, rfl, rfl⟩ | ⟨b, rfl, rfl⟩ | ⟨rfl, rfl⟩ | ⟨x, rfl, rfl⟩
      · exact tr_const_int hm
      · exact tr_const_bool
      · exact tr_const_none
      · exact tr_const_str
    exact Ev.of_tr F.sto F.hlt T
  | .name i, q, ks, ns, st, ex, env, A, s, fe, H, he, hks, hm, F, hlen => by
    rw [ec_name] at he
    obtain ⟨x, pos, rfl, hz⟩ := onE_name he
    replace he := hz; clear hz
    simp only [Bool.and_eq_true, beq_iff_eq, Bool.not_eq_true'] at he
    rw [qe_name]
    refine prOk_of OK hm F hlen ?_ rfl
    unfold slotV
    split
    · rename_i v hv
      obtain ⟨w, n, r⟩ := F.vals i x _ he.1 hv
      exact fun Q E P => wpAny_Name (n.load F.kind (P _ H s (.of_kp (Kp.refl _ _) F.sto F.hlt) r)) he.2
    · rename_i xs hv
      obtain ⟨w, n, z, a, vs, e, o, _⟩ := F.vals i x _ he.1 hv
      exact fun Q E P => wpAny_Name (n.load F.kind (P _ H s (.of_kp (Kp.refl _ _) F.sto F.hlt) ⟨a, o, e⟩)) he.2
    · exact Ev.stuck
  | .glob b, q, ks, ns, st, ex, env, A, s, fe, H, he, hks, hm, F, hlen => by
    rw [ec_glob] at he
    obtain ⟨x, pos, rfl, hz⟩ := onE_name he
    replace he := hz; clear hz
    simp only [Bool.and_eq_true, beq_iff_eq, List.contains_iff_mem] at he
    obtain ⟨⟨⟨h1, h2⟩, h3⟩, h4⟩ := he
    obtain ⟨g1, g2, g3⟩ := isGlob_of hks h3
    rw [qe_glob]
    refine prOk_of OK hm F hlen ?_ rfl
    exact fun Q E P => ld_boot F g1 g2 g3 (hfree x h4) (by rw [h2]; exact BI.boot_ty h1) (P _ H s (.of_kp (Kp.refl _ _) F.sto F.hlt) (by simp [RepW, Rep]))
  | .bin op l r, q, ks, ns, st, ex, env, A, s, fe, H, he, hks, hm, F, hlen => by
    rw [ec_bin] at he
    obtain ⟨l', op', r', pos, rfl, hz⟩ := onE_bin he
    replace he := hz; clear hz
    simp only [Bool.and_eq_true, beq_iff_eq] at he
    obtain ⟨⟨rfl, h1⟩, h2⟩ := he
    rw [qe_bin]
    refine prOk_of OK hm F hlen ?_ rfl
    intro Q E P
    refine wpAny_BinOp ((pe_sound l h1 hks hm F hlen).v.bindK P fun a σ₁ _ va H₁ s₁ x₁ r₁ P₁ => ?_)
    have F₁ := F.ss x₁
    refine (pe_sound r h2 hks (hm.nf x₁.nf) F₁ hlen).v.bindK P₁ fun b σ₂ _ vb H₂ s₂ x₂ r₂ P₂ => ?_
    have F₂ := F₁.ss x₂
    exact OK.bin ((hm.nf x₁.nf).nf x₂.nf) F₂.hlt (RepO.derefS F₂ hlen (r₁.ss x₂ F₁.sto)) (RepO.derefS F₂ hlen r₂) _ _ (P₂.res F₂.sto F₂.hlt)
  | .un op x, q, ks, ns, st, ex, env, A, s, fe, H, he, hks, hm, F, hlen => by
    rw [ec_un] at he
    obtain ⟨op', x', pos, rfl, hz⟩ := onE_un he
    replace he := hz; clear hz
    simp only [Bool.and_eq_true, beq_iff_eq] at he
    obtain ⟨rfl, h1⟩ := he
    rw [qe_un]
    have I := pe_sound x h1 hks hm F hlen
    have T : Ev c q A st.lo st.σ H (eval (.UnaryOp op x' pos) env) ((pe O cal q st x).v.bind fun a σ₁ => ofRes (O.un op (derefS st.ρ σ₁ a)) σ₁) s := by
      intro Q E P
      refine wpAny_UnaryOp (I.v.bindK P fun a σ₁ _ va H₁ s₁ x₁ r₁ P₁ => ?_)
      have F₁ := F.ss x₁
      exact OK.un (hm.nf x₁.nf) F₁.hlt (RepO.derefS F₁ hlen r₁) _ _ (P₁.res F₁.sto F₁.hlt)
    refine ⟨T, ?_⟩
    cases op with
    | Not =>
      intro b σ' hb Q E P
      simp only [Option.map_eq_some_iff, Prod.mk.injEq] at hb
      obtain ⟨⟨b', σ''⟩, hb', rfl, rfl⟩ := hb
      exact wpAny_isTrue_Not (I.t b' _ hb' _ _ P)
    | Invert => exact isT_value OK hm F hlen T rfl
    | UAdd => exact isT_value OK hm F hlen T rfl
    | USub => exact isT_value OK hm F hlen T rfl
  | .cmp op l r, q, ks, ns, st, ex, env, A, s, fe, H, he, hks, hm, F, hlen => by
    rw [ec_cmp] at he
    obtain ⟨l', op', r', pos, rfl, hz⟩ := onC1_eq he
    replace he := hz; clear hz
    all_goals
      simp only [Bool.and_eq_true, beq_iff_eq, Bool.not_eq_true'] at he
      obtain ⟨⟨⟨rfl, h1⟩, h2⟩, h3⟩ := he
      rw [qe_cmp]
      have fin := fun (R : ER) => prOk_cmp OK (R := R) (l' := l') (r' := r') (op := op) (env := env) (pos := pos) hm F hlen h3
      have isCase : (op = .Is ∨ op = .IsNot) → PrOk c q A st.lo st.σ H (.Compare l' [op] [r'] pos) env (.of O.truth st.ρ ((pe O cal q st l).v.bindA fun a σ₁ => (pe O cal q (st.at σ₁) r).v.bindA fun b σ₂ => ofB ((O.is_ a b).map fun z => if op = .Is then z else !z) σ₂)) s := fun hop => by
        refine fin _ fun Q Q' E P h => (pe_sound l h1 hks hm F hlen).v.bindAK P fun a σ₁ e₁ va H₁ s₁ x₁ r₁ P₁ => ?_
        have F₁ := F.ss x₁
        refine (pe_sound r h2 hks (hm.nf x₁.nf) F₁ hlen).v.bindAK P₁ fun b σ₂ e₂ vb H₂ s₂ x₂ r₂ P₂ => ?_
        have F₂ := F₁.ss x₂
        have x12 := x₁.trans x₂
        cases hc : O.is_ a b with
        | none => rw [hc] at P₂; exact P₂.elim
        | some t =>
          refine OK.is_ (hm.nf x12.nf) F₂.sto (Rep.mono (x₂.vis F₁.sto) r₁) r₂ hc hop _ _ fun v s₃ _ k₃ r₃ => ?_
          simp only [Rep] at r₃
          subst r₃
          exact h _ σ₂ H₂ s₃ (by simp only [e₁, ER.bindA, e₂, hc, Option.map_some, ofB]) (x12.trans (.of_kp k₃.kp F₂.sto F₂.hlt))
      have cmpCase : PrOk c q A st.lo st.σ H (.Compare l' [op] [r'] pos) env (.of O.truth st.ρ ((pe O cal q st l).v.bind fun a σ₁ => (pe O cal q (st.at σ₁) r).v.bind fun b σ₂ => ofB (O.cmp op (derefS st.ρ σ₂ a) (derefS st.ρ σ₂ b)) σ₂)) s := by
        refine fin _ fun Q Q' E P h => (pe_sound l h1 hks hm F hlen).v.bindK P fun a σ₁ e₁ va H₁ s₁ x₁ r₁ P₁ => ?_
        have F₁ := F.ss x₁
        refine (pe_sound r h2 hks (hm.nf x₁.nf) F₁ hlen).v.bindK P₁ fun b σ₂ e₂ vb H₂ s₂ x₂ r₂ P₂ => ?_
        have F₂ := F₁.ss x₂
        have x12 := x₁.trans x₂
        cases hc : O.cmp op (derefS st.ρ σ₂ a) (derefS st.ρ σ₂ b) with
        | none => rw [hc] at P₂; exact P₂.elim
        | some t =>
          refine OK.cmp (hm.nf x12.nf) F₂.hlt (RepO.derefS F₂ hlen (r₁.ss x₂ F₁.sto)) (RepO.derefS F₂ hlen r₂) hc _ _ fun v s₃ _ k₃ r₃ => ?_
          simp only [Rep] at r₃
          subst r₃
          exact h _ σ₂ H₂ s₃ (by simp only [e₁, ER.bind, e₂, hc, ofB]) (x12.trans (.of_kp k₃.kp F₂.sto F₂.hlt))
      cases op
      case Is => exact (by simpa using isCase (.inl rfl))
      case IsNot => exact (by simpa using isCase (.inr rfl))
      all_goals exact cmpCase
  | .bop op xs, q, ks, ns, st, ex, env, A, s, fe, H, he, hks, hm, F, hlen => by
    rw [ec_bop] at he
    obtain ⟨op', xs', pos, rfl, hz⟩ := onE_bop he
    replace he := hz; clear hz
    simp only [Bool.and_eq_true, beq_iff_eq] at he
    obtain ⟨rfl, h1⟩ := he
    rw [qe_bop]
    exact ⟨fun Q E P => pbop_sound xs h1 hks hm F hlen Q E P, fun b σ' hb Q E P => wpAny_isTrue_BoolOp (pall_sound xs h1 hks hm F hlen b σ' hb _ _ P)⟩
  | .ife t a b, q, ks, ns, st, ex, env, A, s, fe, H, he, hks, hm, F, hlen => by
    rw [ec_ife] at he
    obtain ⟨t', a', b', pos, rfl, hz⟩ := onE_ife he
    replace he := hz; clear hz
    simp only [Bool.and_eq_true] at he
    obtain ⟨⟨h1, h2⟩, h3⟩ := he
    rw [qe_ife]
    have I := pe_sound t h1 hks hm F hlen
    split
    · rename_i σ₁ ht
      exact ⟨fun Q E P => wpAny_IfExp (I.t _ _ ht _ _ fun H₁ s₁ x₁ => (pe_sound a h2 hks (hm.nf x₁.nf) (F.ss x₁) hlen).v _ _ (P.ss x₁)),
        fun z σ' hz Q E P => isTrue_IfExp (I.t _ _ ht _ _ fun H₁ s₁ x₁ => (pe_sound a h2 hks (hm.nf x₁.nf) (F.ss x₁) hlen).t z σ' hz _ _ fun H₂ s₂ x₂ => P H₂ s₂ (x₁.trans x₂))⟩
    · rename_i σ₁ ht
      exact ⟨fun Q E P => wpAny_IfExp (I.t _ _ ht _ _ fun H₁ s₁ x₁ => (pe_sound b h3 hks (hm.nf x₁.nf) (F.ss x₁) hlen).v _ _ (P.ss x₁)),
        fun z σ' hz Q E P => isTrue_IfExp (I.t _ _ ht _ _ fun H₁ s₁ x₁ => (pe_sound b h3 hks (hm.nf x₁.nf) (F.ss x₁) hlen).t z σ' hz _ _ fun H₂ s₂ x₂ => P H₂ s₂ (x₁.trans x₂))⟩
    · exact ⟨Ev.stuck, fun b σ' hb => by cases hb⟩
  | .list xs, q, ks, ns, st, ex, env, A, s, fe, H, he, hks, hm, F, hlen => by
    rw [ec_list] at he
    obtain ⟨es, pos, rfl, hz⟩ := onE_list he
    replace he := hz; clear hz
    rw [qe_list]
    refine prOk_of OK hm F hlen ?_ rfl
    intro Q E P
    refine wpAny_List_spliced ((pes_sound xs he hks hm F hlen).onPK P fun l σ₁ _ _ _ vs H₁ s₁ x₁ r₁ P₁ => ?_)
    split at P₁
    · rename_i hl
      have F₁ := F.ss x₁
      exact ⟨by rw [r₁.length]; exact line_ok (by omega), P₁ _ H₁ _ (.of_kp (Kp.push _) F₁.sto F₁.hlt) (rep_fresh_list F₁.hlt (by omega) r₁)⟩
    · exact P₁.elim
  | .tup xs, q, ks, ns, st, ex, env, A, s, fe, H, he, hks, hm, F, hlen => by
    rw [ec_tup] at he
    obtain ⟨es, kk, pos, rfl, hz⟩ := onE_tup he
    replace he := hz; clear hz
    rw [qe_tup]
    refine prOk_of OK hm F hlen ?_ rfl
    intro Q E P
    refine wpAny_Tuple_spliced ((pes_sound xs he hks hm F hlen).onPK P fun l σ₁ _ _ _ vs H₁ s₁ x₁ r₁ P₁ => ?_)
    split at P₁
    · rename_i hl
      have F₁ := F.ss x₁
      exact ⟨by rw [r₁.length]; exact line_ok (by omega), P₁ _ H₁ _ (.of_kp (Kp.push _) F₁.sto F₁.hlt) (rep_fresh_tup F₁.hlt (by omega) r₁)⟩
    · exact P₁.elim
  | .sub o i, q, ks, ns, st, ex, env, A, s, fe, H, he, hks, hm, F, hlen => by
    rw [ec_sub] at he
    obtain ⟨o', i', pos, rfl, hz⟩ := onE_sub he
    replace he := hz; clear hz
    simp only [Bool.and_eq_true] at he
    obtain ⟨h1, h2⟩ := he
    rw [qe_sub]
    refine prOk_of OK hm F hlen ?_ rfl
    intro Q E P
    refine Subscript_ ((pe_sound o h1 hks hm F hlen).v.bindK P fun a σ₁ _ va H₁ s₁ x₁ r₁ P₁ => ?_)
    have F₁ := F.ss x₁
    refine (pe_sound i h2 hks (hm.nf x₁.nf) F₁ hlen).v.bindK P₁ fun b σ₂ _ vb H₂ s₂ x₂ r₂ P₂ => ?_
    have F₂ := F₁.ss x₂
    have ra := RepO.derefS F₂ hlen (r₁.ss x₂ F₁.sto)
    have hne : O.idx (derefS st.ρ σ₂ a) (derefS st.ρ σ₂ b) ≠ .stuck := fun z => by rw [z] at P₂; exact P₂
    obtain ⟨T, id, hT, hid⟩ := OK.idxT ra hne
    exact tail_any hT hid (OK.idx ((hm.nf x₁.nf).nf x₂.nf) F₂.hlt ra (RepO.derefS F₂ hlen r₂) _ _ (P₂.res F₂.sto F₂.hlt)) (subscripted_plain (encE_notSlice h2) _ _)
  | .slice o a b sp, q, ks, ns, st, ex, env, A, s, fe, H, he, hks, hm, F, hlen => by
    rw [ec_slice] at he
    obtain ⟨o', sl', pos, rfl, hz⟩ := onE_sub he
    replace he := hz; clear hz
    obtain ⟨a', b', s', p', rfl, hz⟩ := onE_slice he
    replace he := hz; clear hz
    simp only [Bool.and_eq_true] at he
    obtain ⟨⟨⟨h1, h2⟩, h3⟩, h4⟩ := he
    rw [qe_slice]
    refine prOk_of OK hm F hlen ?_ rfl
    have part : ∀ (p : PE) (x : Option Expr) (st₁ : Fs) (H₁ : Hd) (s₁ : Shared), (∀ e, encE frees fname ks ns p e = true → Ev c q A st₁.lo st₁.σ H₁ (eval e env) (pe O cal q st₁ p).v s₁) → (match x with | some e => encE frees fname ks ns p e | none => isNone' p) = true → Fm c (FrA A) ns env st₁ fe H₁ s₁.heap →
        Ev c q A st₁.lo st₁.σ H₁ (evalPart x env) (pe O cal q st₁ p).v s₁ := by
      intro p x st₁ H₁ s₁ I hx F₁ Q E P
      cases x with
      | none =>
        have hx := isNone'_eq hx
        subst hx
        simp only [qe_const, PR.of] at P
        exact wpAny_evalPart_none (P _ H₁ s₁ (.of_kp (Kp.refl _ _) F₁.sto F₁.hlt) (by simp [RepW, Rep]))
      | some e => exact wpAny_evalPart_some (I e hx _ _ P)
    intro Q E P
    refine Subscript_ ((pe_sound o h1 hks hm F hlen).v.bindK P fun ov σ₁ _ va H₁ s₁ x₁ r₁ P₁ => wpAny_Slice ?_)
    have F₁ := F.ss x₁
    have m₁ := hm.nf x₁.nf
    refine (part a a' (st.at σ₁) H₁ s₁ (fun e he => (pe_sound a he hks m₁ F₁ hlen).v) h2 F₁).bindAK P₁ fun av σ₂ _ wa H₂ s₂ x₂ ra P₂ => ?_
    have F₂ := F₁.ss x₂
    have m₂ := m₁.nf x₂.nf
    refine (part b b' (st.at σ₂) H₂ s₂ (fun e he => (pe_sound b he hks m₂ F₂ hlen).v) h3 F₂).bindAK P₂ fun bv σ₃ _ wb H₃ s₃ x₃ rb P₃ => ?_
    have F₃ := F₂.ss x₃
    have m₃ := m₂.nf x₃.nf
    refine (part sp s' (st.at σ₃) H₃ s₃ (fun e he => (pe_sound sp he hks m₃ F₃ hlen).v) h4 F₃).bindAK P₃ fun sv σ₄ _ ws H₄ s₄ x₄ rs P₄ => ?_
    have F₄ := F₃.ss x₄
    have k5 : Kp A s₄ { s₄ with heap := s₄.heap.push { cls := .type "slice", data := .fields #[wa, wb, ws] } } := Kp.push _
    have x₅ : Ss A st.lo σ₄ H₄ s₄ σ₄ H₄ _ := .of_kp k5 F₄.sto F₄.hlt
    have F₅ := F₄.ss x₅
    have ro := RepO.derefS F₅ hlen ((((r₁.ss x₂ F₁.sto).ss x₃ F₂.sto).ss x₄ F₃.sto).ss x₅ F₄.sto)
    have hne : O.slice (derefS st.ρ σ₄ ov) av bv sv ≠ .stuck := fun z => by rw [z] at P₄; exact P₄
    obtain ⟨T, id, hT, hid⟩ := OK.sliceT ro hne
    refine tail_any (ops := ?_) hT hid (OK.slice (((m₃.nf x₄.nf).nf x₅.nf)) F₅.hlt ro (Rep.mono (((x₃.vis F₂.sto).trans (x₄.vis F₃.sto)).trans (x₅.vis F₄.sto)) ra) (Rep.mono ((x₄.vis F₃.sto).trans (x₅.vis F₄.sto)) rb) (Rep.mono (x₅.vis F₄.sto) rs) (Heap.get?_push_size _ rfl) _ _ ((P₄.ss x₅).res F₅.sto F₅.hlt)) ?_
    · exact match s' with | none => [.ref s₄.heap.objs.size, va] | some _ => [va, .ref s₄.heap.objs.size]
    · cases s' <;> rfl
  | .call f xs, q, ks, ns, st, ex, env, A, s, fe, H, he, hks, hm, F, hlen => by
    rw [ec_call] at he
    obtain ⟨x, px, es, pos, rfl, hz⟩ := onNC_eq he
    replace he := hz; clear hz
    simp only [Bool.and_eq_true, beq_iff_eq] at he
    obtain ⟨⟨h1, h2⟩, h3⟩ := he
    subst h1
    obtain ⟨g1, g2, _⟩ := isGlob_of hks h2
    rw [qe_call]
    refine prOk_of OK hm F hlen ?_ rfl
    cases q with
    | false => exact Ev.stuck
    | true =>
      intro Q E P
      obtain ⟨ol, σ₁, l, hpes, hpl⟩ : ∃ ol σ₁ l, pes O cal true st xs = some (ol, σ₁) ∧ plains ol = some l := by
        cases h : pes O cal true st xs with
        | none => simp only [onP, onL, h] at P; exact P.elim
        | some p =>
          cases hl : plains p.1 with
          | none => simp only [onP, onL, h, hl] at P; exact P.elim
          | some l => exact ⟨p.1, p.2, l, rfl, hl⟩
      have hne : cal σ₁ st.lo f l ≠ .stuck := fun z => by
        simp only [onP, onL, hpes, hpl, z] at P; exact P
      obtain ⟨hc, fa, fo, fd, hg, ho, hd⟩ := CO.ok σ₁ st.lo f l hne
      refine wpAny_Call_NameR (ld_glob F g1 g2 hg ?_)
      refine Calls.callWith_function (o := fo) (fd := fd) ?_
      have fin : wpAny c.M A (spliced (backTo pos (starEach es env))) (fun vs s₁ => (s₁.heap.get? fa = some fo ∧ fo.data = .func fd) ∧ wpAny c.M A (PySem.call (.ref fa) ([] ++ vs) []) Q E s₁) E s :=
        (pes_sound xs h3 hks hm F hlen).onPK P fun l' σ₁' ol' e1 e2 vs H₁ s₁ x₁ r₁ P₁ => by
          rw [hpes] at e1; cases e1
          rw [hpl] at e2; cases e2
          have F₁ := F.ss x₁
          exact ⟨⟨F₁.base' fa fo ho, hd⟩, hc A s₁ H₁ vs fa (hm.nf x₁.nf).down F₁.base' F₁.hlt F₁.sto F₁.mh0 r₁ hg _ _ P₁⟩
      cases es with
      | nil => exact PySem.evalArgs_none (by
          have := pes_nil h3
          subst this
          rw [qes_nil] at hpes
          cases hpes
          simp only [plains] at hpl
          cases hpl
          simp only [onP, onL, qes_nil, plains] at P
          exact ⟨⟨F.base' fa fo ho, hd⟩, hc A s H [] fa hm.down F.base' F.hlt F.sto F.mh0 (by simp [RepL]) hg _ _ P⟩)
      | cons e es =>
        have hst : starEach (e :: es) env = (false, eval e env) :: starEach es env := starEach_cons (encEs_head h3)
        rw [hst] at fin ⊢
        exact Calls.evalArgs_plain fin
  | .bcall f xs, q, ks, ns, st, ex, env, A, s, fe, H, he, hks, hm, F, hlen => by
    rw [ec_bcall] at he
    obtain ⟨x, px, es, pos, rfl, hz⟩ := onNC_eq he
    replace he := hz; clear hz
    simp only [Bool.and_eq_true, beq_iff_eq, List.contains_iff_mem] at he
    obtain ⟨⟨⟨h1, h2⟩, h3⟩, h4⟩ := he
    obtain ⟨g1, g2, g3⟩ := isGlob_of hks h2
    have hb := BI.boot f
    rw [← h1] at hb
    rw [qe_bcall]
    refine prOk_of OK hm F hlen ?_ rfl
    have hq : q = true ∨ q = false := by cases q <;> simp
    rcases hq with hq | hq
    case inr => rw [hq]; exact Ev.stuck
    intro Q E P
    have P : PostE q A st.lo st.σ H (onL (pes O cal q st xs) fun l σ₁ => ofRes (O.bcall f (l.map (derefS st.ρ σ₁))) σ₁) s Q E := by rw [hq] at P ⊢; exact P
    refine wpAny_Call_NameR (ld_boot F g1 g2 g3 (hfree x h3) hb ?_)
    have S : wpAny c.M A (spliced (backTo pos (starEach es env))) (fun vs s' => wpAny c.M A (PySem.call f.val ([] ++ vs) []) Q E s') E s :=
      (pes_sound xs h4 hks hm F hlen).onK P fun l σ₁ _ vs H₁ s₁ x₁ r₁ P₁ => by
        have F₁ := F.ss x₁
        exact OK.bcall hq (hm.nf x₁.nf) F₁.base' F₁.hlt (RepOL.derefS F₁ hlen r₁) (BI.boot f) _ _ (P₁.res F₁.sto F₁.hlt)
    have args : wpAny c.M A (evalArgs f.val true (backTo pos (starEach es env)) []) (fun a s₁ => wpAny c.M A (PySem.call f.val ([] ++ a.pos) a.kw) Q E s₁) E s := by
      cases es with
      | nil => exact PySem.evalArgs_none (by
          have := pes_nil h4
          subst this
          simp only [onL, qes_nil, List.map_nil] at P
          exact OK.bcall hq hm F.base' F.hlt (vs := []) (xs := []) trivial (BI.boot f) _ _ (P.res F.sto F.hlt))
      | cons e es =>
        have hst : starEach (e :: es) env = (false, eval e env) :: starEach es env := starEach_cons (encEs_head h4)
        rw [hst] at S ⊢
        exact Calls.evalArgs_plain S
    have plain := star_plain (pos := pos) (env := env) h4
    unfold BI.val at args ⊢
    split at args
    · rw [if_pos (by assumption)]; exact PySem.callWith_type plain args
    · rw [if_neg (by assumption)]; exact Calls.callWith_builtin plain args
  | .isOrEq i j, q, ks, ns, st, ex, env, A, s, fe, H, he, hks, hm, F, hlen => by
    rw [ec_isOrEq] at he
    obtain ⟨opb, es', pos, rfl, hz⟩ := onE_bop he
    replace he := hz; clear hz
    rw [Bool.and_eq_true, beq_iff_eq] at he
    obtain ⟨rfl, he⟩ := he
    obtain ⟨e1, e2, rfl, hz⟩ := two?_eq he
    replace he := hz; clear hz
    obtain ⟨l1, o1, r1, p3, rfl, hz⟩ := onC1_eq he
    replace he := hz; clear hz
    obtain ⟨x, p1, rfl, hz⟩ := onE_name he
    replace he := hz; clear hz
    obtain ⟨y, p2, rfl, hz⟩ := onE_name he
    replace he := hz; clear hz
    rw [Bool.and_eq_true, beq_iff_eq] at he
    obtain ⟨rfl, he⟩ := he
    obtain ⟨l2, o2, r2, p6, rfl, hz⟩ := onC1_eq he
    replace he := hz; clear hz
    obtain ⟨x', p4, rfl, hz⟩ := onE_name he
    replace he := hz; clear hz
    obtain ⟨y', p5, rfl, hz⟩ := onE_name he
    replace he := hz; clear hz
    simp only [Bool.and_eq_true, beq_iff_eq, Bool.not_eq_true'] at he
    obtain ⟨⟨⟨⟨⟨⟨rfl, h1⟩, h2⟩, rfl⟩, rfl⟩, h5⟩, h6⟩ := he
    rw [qe_isOrEq]
    refine ⟨Ev.stuck, fun b σ' hb Q E P => ?_⟩
    dsimp only at hb
    split at hb
    case h_2 => cases hb
    rename_i a b' ha hb'
    simp only [Option.map_eq_some_iff, Prod.mk.injEq] at hb
    obtain ⟨r, hr, rfl, rfl⟩ := hb
    obtain ⟨va, na, ra⟩ := F.vals i _ _ h1 ha
    obtain ⟨vb, nb, rb⟩ := F.vals j _ _ h2 hb'
    have ra : Rep (vis s.heap H) va a := ra
    have rb : Rep (vis s.heap H) vb b' := rb
    obtain ⟨ib, T1, hi, T2⟩ := OK.isEq hm F.base' F.hlt (RepO.deref F.sto ra) (RepO.deref F.sto rb) hr
    refine wpAny_isTrue_BoolOp (wpAny_allTrue_Or_cons ?_)
    refine wpAny_isTrue_Compare1 (wpAny_Name (na.load F.kind (wpAny_Name (nb.load F.kind (T1 _ _ fun v s₁ _ k₁ r₁ => ?_)) h6)) h5) rfl
    simp only [Rep] at r₁
    subst r₁
    replace k₁ := k₁.kp
    have F₁ := F.kp k₁
    refine wpAny_truthy_bool ?_
    cases ib with
    | true =>
      rw [if_pos rfl]
      have := hi rfl
      subst this
      exact P H s₁ (.of_kp k₁ F.sto F.hlt)
    | false =>
      refine wpAny_allTrue_Or_cons ?_
      refine wpAny_isTrue_Compare1 (wpAny_Name ((na.kh k₁.kh).load F.kind (wpAny_Name ((nb.kh k₁.kh).load F.kind (T2 s₁ k₁ _ _ fun v s₂ _ k₂ r₂ => ?_)) h6)) h5) rfl
      simp only [Rep] at r₂
      subst r₂
      refine wpAny_truthy_bool ?_
      have x := Ss.of_kp (lo := st.lo) (k₁.trans k₂.kp) F.sto F.hlt
      cases r with
      | true => exact P H s₂ x
      | false => exact wpAny_pure (P H s₂ x)
  | .comp caps elt src conds, q, ks, ns, st, ex, env, A, s, fe, H, he, hks, hm, F, hlen => by
    rw [ec_comp] at he
    obtain ⟨e', x, px, it, ifs, scope, pos, rfl, hz⟩ := onLC_eq he
    replace he := hz; clear hz
    all_goals
      simp only [Bool.and_eq_true] at he
      obtain ⟨⟨⟨⟨h1, h0⟩, h2⟩, h3⟩, h4⟩ := he
      have h0 : isSetd src = false := by simpa using h0
      rw [qe_comp]
      refine prOk_of OK hm F hlen ?_ rfl
      cases q with
      | false => exact Ev.stuck
      | true =>
        exact ev_listcomp OK (f := fun σ₁ x => compF σ₁.length (pall O cal true ((st.at σ₁).inner caps x) .And conds) (pe O cal true ((st.at σ₁).inner caps x) elt).v) rfl hm F hlen (compOk_of hks h2) (encE_notSet h1 h0 env) (pe_sound src h1 hks hm F hlen).v fun σ₁ => comp_turn (relab_eq hks F.kind) hlen (fun a b c d => pe_sound elt h3 a b c d) (fun a b c d => ptests_sound conds h4 a b c d)
theorem pes_sound : ∀ (es : PEs) {q : Bool} {ks : List (Str × NameKind)} {ns : List Str} {st : Fs} {exs : List Expr} {env : Env} {A : Around} {s : Shared} {fe : FE} {H : Hd} {pos : Pos},
    encEs frees fname ks ns es exs = true → env.scope.names = ks → Rm c q (k + 1) A H s → Fm c (FrA A) ns env st fe H s.heap → st.ρ.length = ns.length → EvL c A st.lo st.σ H (spliced (backTo pos (starEach exs env))) (pes O cal q st es) s
  | .nil, q, ks, ns, st, exs, env, A, s, fe, H, pos, he, hks, hm, F, hlen => fun xs σ' hx Q E P => by
    cases exs with
    | nil =>
      simp only [qes_nil, qes_cons] at hx
      cases hx
      exact Calls.spliced_nil (P _ H s (.of_kp (Kp.refl _ _) F.sto F.hlt) trivial)
    | cons _ _ => simp [ecs_nil, ecs_cons] at he
  | .cons p ps, q, ks, ns, st, exs, env, A, s, fe, H, pos, he, hks, hm, F, hlen => fun xs σ' hx Q E P => by
    cases exs with
    | nil => simp [ecs_nil, ecs_cons] at he
    | cons e r =>
      have he' := he
      simp only [ecs_nil, ecs_cons, Bool.and_eq_true] at he
      simp only [qes_nil, qes_cons] at hx
      have I := (pe_sound p he.1 hks hm F hlen).v
      split at hx
      case h_2 => cases hx
      rename_i v σ₁ hv
      rw [hv] at I
      split at hx
      case h_2 => cases hx
      rename_i l σ₂ hl
      cases hx
      rw [starEach_cons (encE_notStar he.1)]
      show wpAny c.M A (spliced ((false, eval e env) :: backTo pos (starEach r env))) Q E s
      refine Calls.spliced_cons (I _ _ fun w H₁ s₁ x₁ r₁ => ?_)
      have F₁ := F.ss x₁
      exact pes_sound ps he.2 hks (hm.nf x₁.nf) F₁ hlen l _ hl _ _ fun ws H₂ s₂ x₂ r₂ => P _ H₂ s₂ (x₁.trans x₂) ⟨r₁.ss x₂ F₁.sto, r₂⟩
theorem pall_sound : ∀ (es : PEs) {q : Bool} {op : BoolOp} {ks : List (Str × NameKind)} {ns : List Str} {st : Fs} {exs : List Expr} {env : Env} {A : Around} {s : Shared} {fe : FE} {H : Hd},
    encEs frees fname ks ns es exs = true → env.scope.names = ks → Rm c q (k + 1) A H s → Fm c (FrA A) ns env st fe H s.heap → st.ρ.length = ns.length → EvB c A st.lo st.σ H (allTrue op exs env) (pall O cal q st op es) s
  | .nil, q, op, ks, ns, st, exs, env, A, s, fe, H, he, hks, hm, F, hlen => fun b σ' hx Q E P => by
    cases exs with
    | nil =>
      simp only [pall] at hx
      cases hx
      exact wpAny_pure (P H s (.of_kp (Kp.refl _ _) F.sto F.hlt))
    | cons _ _ => simp [ecs_nil, ecs_cons] at he
  | .cons p ps, q, op, ks, ns, st, exs, env, A, s, fe, H, he, hks, hm, F, hlen => fun b σ' hx Q E P => by
    cases exs with
    | nil => simp [ecs_nil, ecs_cons] at he
    | cons e r =>
      simp only [ecs_nil, ecs_cons, Bool.and_eq_true] at he
      simp only [pall] at hx
      have I := (pe_sound p he.1 hks hm F hlen).t
      cases op with
      | And =>
        refine wpAny_allTrue_And_cons ?_
        split at hx
        · rename_i σ₁ hv; cases hx; exact I _ _ hv _ _ fun H₁ s₁ x₁ => P H₁ s₁ x₁
        · rename_i h _; cases h
        · rename_i σ₁ hv; exact I _ _ hv _ _ fun H₁ s₁ x₁ => pall_sound ps he.2 hks (hm.nf x₁.nf) (F.ss x₁) hlen b σ' hx _ _ fun H₂ s₂ x₂ => P H₂ s₂ (x₁.trans x₂)
        · rename_i h _; cases h
        · cases hx
      | Or =>
        refine wpAny_allTrue_Or_cons ?_
        split at hx
        · rename_i h _; cases h
        · rename_i σ₁ hv; cases hx; exact I _ _ hv _ _ fun H₁ s₁ x₁ => P H₁ s₁ x₁
        · rename_i h _; cases h
        · rename_i σ₁ hv; exact I _ _ hv _ _ fun H₁ s₁ x₁ => pall_sound ps he.2 hks (hm.nf x₁.nf) (F.ss x₁) hlen b σ' hx _ _ fun H₂ s₂ x₂ => P H₂ s₂ (x₁.trans x₂)
        · cases hx
theorem ptests_sound : ∀ (es : PEs) {q : Bool} {ks : List (Str × NameKind)} {ns : List Str} {st : Fs} {exs : List Expr} {env : Env} {A : Around} {s : Shared} {fe : FE} {H : Hd},
    encEs frees fname ks ns es exs = true → env.scope.names = ks → Rm c q (k + 1) A H s → Fm c (FrA A) ns env st fe H s.heap → st.ρ.length = ns.length → EvB c A st.lo st.σ H (testsOf exs env) (pall O cal q st .And es) s
  | .nil, q, ks, ns, st, exs, env, A, s, fe, H, he, hks, hm, F, hlen => fun b σ' hx Q E P => by
    cases exs with
    | nil =>
      simp only [pall] at hx
      cases hx
      unfold testsOf
      rw [List.forIn_nil]
      exact wpAny_pure (P H s (.of_kp (Kp.refl _ _) F.sto F.hlt))
    | cons _ _ => simp [ecs_nil, ecs_cons] at he
  | .cons p ps, q, ks, ns, st, exs, env, A, s, fe, H, he, hks, hm, F, hlen => fun b σ' hx Q E P => by
    cases exs with
    | nil => simp [ecs_nil, ecs_cons] at he
    | cons e r =>
      simp only [ecs_nil, ecs_cons, Bool.and_eq_true] at he
      simp only [pall] at hx
      have I := (pe_sound p he.1 hks hm F hlen).t
      unfold testsOf
      rw [List.forIn_cons]
      simp only [if_true]
      split at hx
      · rename_i σ₁ hv
        cases hx
        refine wpAny_bind (wpAny_bind (I _ _ hv _ _ fun H₁ s₁ x₁ => wpAny_pure ?_))
        have skip : ∀ (l : List Expr), (forIn l false fun c r => if r = true then do let ok ← isTrue c env (eval c env); pure (ForInStep.yield ok) else pure (ForInStep.yield r) : Sem Bool) = pure false := by
          intro l
          induction l with
          | nil => rw [List.forIn_nil]
          | cons y l ih => rw [List.forIn_cons]; simpa using ih
        show wpAny c.M A (forIn r false _) _ _ _
        rw [skip]
        exact wpAny_pure (P H₁ s₁ x₁)
      · rename_i h _; cases h
      · rename_i σ₁ hv
        refine wpAny_bind (wpAny_bind (I _ _ hv _ _ fun H₁ s₁ x₁ => wpAny_pure ?_))
        exact ptests_sound ps he.2 hks (hm.nf x₁.nf) (F.ss x₁) hlen b σ' hx _ _ fun H₂ s₂ x₂ => P H₂ s₂ (x₁.trans x₂)
      · rename_i h _; cases h
      · cases hx
theorem pbop_sound : ∀ (es : PEs) {q : Bool} {op : BoolOp} {ks : List (Str × NameKind)} {ns : List Str} {st : Fs} {exs : List Expr} {env : Env} {A : Around} {s : Shared} {fe : FE} {H : Hd} {pos : Pos},
    encEs frees fname ks ns es exs = true → env.scope.names = ks → Rm c q (k + 1) A H s → Fm c (FrA A) ns env st fe H s.heap → st.ρ.length = ns.length → Ev c q A st.lo st.σ H (boolOp pos op (evalEach exs env)) (pbop O cal q st op es) s
  | .nil, q, op, ks, ns, st, exs, env, A, s, fe, H, pos, he, hks, hm, F, hlen => by
    simp only [pbop]; exact Ev.stuck
  | .cons p .nil, q, op, ks, ns, st, exs, env, A, s, fe, H, pos, he, hks, hm, F, hlen => by
    match exs, he with
    | [], he => simp [ecs_nil, ecs_cons] at he
    | [e], he =>
      simp only [ecs_nil, ecs_cons, Bool.and_eq_true] at he
      simp only [pbop]
      exact (pe_sound p he.1 hks hm F hlen).v
    | _ :: _ :: _, he => simp [ecs_nil, ecs_cons] at he
  | .cons p (.cons p' ps), q, op, ks, ns, st, exs, env, A, s, fe, H, pos, he, hks, hm, F, hlen => by
    match exs, he with
    | [], he => simp [ecs_nil, ecs_cons] at he
    | [e], he => simp [ecs_nil, ecs_cons] at he
    | e :: e' :: r, he =>
      have he' : encE frees fname ks ns p e = true ∧ encEs frees fname ks ns (.cons p' ps) (e' :: r) = true := by
        rw [ecs_cons] at he
        simpa only [Bool.and_eq_true] using he
      intro Q E P
      simp only [pbop] at P
      show wpAny c.M A (do
        let v ← eval e env
        standAt pos
        let t ← holding [v] (truthy v)
        match op, t with
        | .And, false | .Or, true => pure v
        | _, _ => boolOp pos op (evalEach (e' :: r) env)) Q E s
      refine wpAny_bind ((pe_sound p he'.1 hks hm F hlen).v.bindK P fun v σ₁ _ w H₁ s₁ x₁ r₁ P₁ => wpAny_bind (wpAny_standAt (wpAny_bind (wpAny_holding ?_))))
      have F₁ := F.ss x₁
      cases ht : O.truth (derefS st.ρ σ₁ v) with
      | none => rw [ht] at P₁; cases op <;> exact P₁.elim
      | some b =>
        rw [ht] at P₁
        refine OK.truth (hm.nf x₁.nf) F₁.hlt (RepO.derefS F₁ hlen r₁) ht _ _ fun s₂ k₂ => ?_
        have x₂ : Ss A st.lo σ₁ H₁ s₁ σ₁ H₁ s₂ := .of_kp k₂ F₁.sto F₁.hlt
        have F₂ := F₁.ss x₂
        cases op <;> cases b
        · exact wpAny_pure (P₁ _ H₁ s₂ x₂ (r₁.ss x₂ F₁.sto))
        · exact pbop_sound (.cons p' ps) he'.2 hks ((hm.nf x₁.nf).nf x₂.nf) F₂ hlen _ _ (P₁.ss x₂)
        · exact pbop_sound (.cons p' ps) he'.2 hks ((hm.nf x₁.nf).nf x₂.nf) F₂ hlen _ _ (P₁.ss x₂)
        · exact wpAny_pure (P₁ _ H₁ s₂ x₂ (r₁.ss x₂ F₁.sto))
end
end
end Mine
end
section
open PySem PySem.W PyProof.Rows
set_option linter.unusedVariables false
namespace Mine

theorem not_isL_ns {h : Heap} {a : Addr} {m : Str → Option Value} (n : h.Ns a m) (vs : List Value) : ¬ IsL h a vs := fun ⟨o, k, e, _, d, _⟩ => by
  obtain ⟨o', es, ep, e', d', _⟩ := n
  rw [e] at e'; cases e'
  rw [d] at d'; cases d'
theorem not_isL_cell {h : Heap} {a : Addr} {v : Option Value} (n : h.IsCell a v) (vs : List Value) : ¬ IsL h a vs := fun ⟨o, k, e, _, d, _⟩ => by
  obtain ⟨o', e', d'⟩ := n
  rw [e] at e'; cases e'
  rw [d] at d'; cases d'
theorem get_set {ρ : List (Option Ent)} {i j : Nat} {t u : Ent} (h : (ρ.set i (some t))[j]? = some (some u)) : (j = i ∧ u = t) ∨ (j ≠ i ∧ ρ[j]? = some (some u)) := by
  rw [List.getElem?_set] at h
  split at h
  · rename_i e
    split at h
    · simp only [Option.some.injEq] at h
      exact .inl ⟨e.symm, h.symm⟩
    · cases h
  · rename_i e
    exact .inr ⟨Ne.symm e, h⟩
/-- nothing else stands at that name -/
noncomputable def OneName (ns : List Str) (i : Nat) (x : Str) : Prop := ∀ j : Nat, ns[j]? = some x → j = i

/-- the store stays where one thing apart from it turns -/
theorem Sto.chg {σ : Store} {H H' : Hd} {h h' : Heap} {a : Addr} (S : Sto σ H h) (hk : ∀ b o, b ≠ a → h.get? b = some o → h'.get? b = some o) (na : ∀ n, H.m n ≠ some a) (le : (vis h H).Le (vis h' H')) (hm : H'.m = H.m) (hh : ∀ n b, H.m n = some b → H'.p b) : Sto σ H' h' where
  at' := fun n mo e => by
    obtain ⟨b, e1, r⟩ := S.at' n mo e
    exact ⟨b, by rw [hm]; exact e1, r.kv (Kv.of_but (F := fun _ => False) (W := fun b => b = a) hk rfl) (fun z => na n (z ▸ e1)) le⟩
  inj := fun n n' b e e' => S.inj n n' b (by rw [← hm]; exact e) (by rw [← hm]; exact e')
  lt := fun n b e => S.lt n b (by rw [← hm]; exact e)
  hid := fun n b mo _ e => hh n b (by rw [← hm]; exact e)
  al := fun n b e => by
    rw [hm] at e
    obtain ⟨o, e'⟩ := S.al n b e
    exact ⟨o, hk b o (fun z => na n (z ▸ e)) e'⟩
  tot := fun n b e => S.tot n b (by rw [← hm]; exact e)
theorem Sto.hidden {σ : Store} {H : Hd} {h : Heap} (S : Sto σ H h) {n : Nat} {b : Addr} (e : H.m n = some b) : H.p b := let ⟨mo, q⟩ := S.tot n b e; S.hid n b mo q e
theorem Sto.notNs {σ : Store} {H : Hd} {h : Heap} (S : Sto σ H h) {a : Addr} {m : Str → Option Value} (n : h.Ns a m) (i : Nat) : H.m i ≠ some a := fun e => by
  obtain ⟨mo, q⟩ := S.tot i a e
  obtain ⟨b, e1, r⟩ := S.at' i mo q
  rw [e] at e1; cases e1
  obtain ⟨o, e2, d, _⟩ := r.data
  obtain ⟨o', es, ep, e3, d', _⟩ := n
  rw [e2] at e3; cases e3
  exact d _ _ d'
theorem Sto.notCell {σ : Store} {H : Hd} {h : Heap} (S : Sto σ H h) {a : Addr} {v : Option Value} (n : h.IsCell a v) (i : Nat) : H.m i ≠ some a := fun e => by
  obtain ⟨mo, q⟩ := S.tot i a e
  obtain ⟨b, e1, r⟩ := S.at' i mo q
  rw [e] at e1; cases e1
  obtain ⟨o, e2, _, d, _⟩ := r.data
  obtain ⟨o', e3, d'⟩ := n
  rw [e2] at e3; cases e3
  exact d _ d'

/-- one thing that is not of the frame's beginning turns -/
theorem Fm.chg {c : Cx} {Fr : Addr → Prop} {ns : List Str} {env : Env} {st : Fs} {ρ' : List (Option Ent)} {fe : FE} {H H' : Hd} {h h' : Heap} {a : Addr} (F : Fm c Fr ns env st fe H h) (hk : ∀ b o, b ≠ a → h.get? b = some o → h'.get? b = some o) (hfe : fe.h.get? a = none)
    (hle : ∀ b, fe.H.p b → H'.p b) (hm : H'.m = H.m) (live : Live H' h') (hns : ∃ m, h'.Ns env.locals m) (hl : H'.p env.locals) (hc : ∀ x cc, env.kindOf x = some .cell → env.cells.lookup x = some cc → H'.p cc ∧ fe.h.get? cc = none)
    (hcl : ∀ x, env.kindOf x = some .cell → ∃ cc v, env.cells.lookup x = some cc ∧ h'.IsCell cc v) (vals : ∀ (i : Nat) x t, ns[i]? = some x → ρ'[i]? = some (some t) → ∃ v, NV h' env x v ∧ RepE h' H' i v t)
    (own : ∀ i a, H'.o i = some a → H'.p a ∧ fe.h.get? a = none ∧ (∀ n, H'.m n ≠ some a) ∧ ∃ vs, IsL h' a vs) (oinj : ∀ i j a, H'.o i = some a → H'.o j = some a → i = j) (sto : Sto st.σ H' h') (ht : H'.t = H.t := by rfl) : Fm c Fr ns env { st with ρ := ρ' } fe H' h' where
  tle := fun n i e => by rw [ht]; exact F.tle n i e
  keep := fun b o n e => by
    have hb : b ≠ a := fun z => by rw [z, hfe] at e; cases e
    obtain ⟨p1, sl, p2⟩ := F.keep b o n e
    exact ⟨fun f => hk b _ hb (p1 f), sl, hk b _ hb p2⟩
  wsub := F.wsub
  base := F.base
  baseF := F.baseF
  basew := F.basew
  hle := hle
  mle := fun n b e => by rw [hm]; exact F.mle n b e
  mold := fun n b l e => F.mold n b l (by rw [← hm]; exact e)
  mnew := fun n b l e => F.mnew n b l (by rw [← hm]; exact e)
  mw := fun n b mo l l' q e => F.mw n b mo l l' q (by rw [← hm]; exact e)
  hlt := live
  felt := F.felt
  wlt := F.wlt
  kind := F.kind
  glob := F.glob
  bi := F.bi
  code := F.code
  ns := hns
  hl := hl
  lnew := F.lnew
  hc := hc
  cl := hcl
  capart := F.capart
  vals := vals
  own := own
  oinj := oinj
  sto := sto
  mh0 := fun n b e => F.mh0 n b (by rw [← hm]; exact e)
  n0le := F.n0le

section
variable {c : Cx} {Fr : Addr → Prop} {ns : List Str} {env : Env} {st : Fs} {fe : FE} {H : Hd} {h h' : Heap}

/-- a slot is forgotten -/
theorem Fm.kill (F : Fm c Fr ns env st fe H h) (i : Nat) : Fm c Fr ns env { st with ρ := st.ρ.set i none } fe H h := { F with
  vals := fun j x t a b => F.vals j x t a (by
    have b : (st.ρ.set i none)[j]? = some (some t) := b
    rw [List.getElem?_set] at b
    split at b
    · split at b <;> simp at b
    · exact b) }

/-- a slot's table turns -/
theorem fm_store {i : Nat} {x : Str} {t : Ent} {v : Value} {a : Addr} (F : Fm c Fr ns env st fe H h) (hx : ns[i]? = some x) (hnd : OneName ns i x)
    (hs : Heap.SameBut a h h') (hH : H.p a) (hfe : fe.h.get? a = none) (hn : ∀ vs, ¬ IsL h a vs) (nm : ∀ n, H.m n ≠ some a) (hlive : ∃ o, h'.get? a = some o) (nx : NV h' env x v) (ny : ∀ y w, y ≠ x → NV h env y w → NV h' env y w) (hns : ∃ m, h'.Ns env.locals m)
    (hcl : ∀ x, env.kindOf x = some .cell → ∃ cc v, env.cells.lookup x = some cc ∧ h'.IsCell cc v) (r : RepE h H i v t) : Fm c Fr ns env { st with ρ := st.ρ.set i (some t) } fe H h' := by
  have hk : ∀ b o, b ≠ a → h.get? b = some o → h'.get? b = some o := fun b o n e => (hs.2 b n).trans e
  have le : (vis h H).Le (vis h' H) := (Kv.of_sameBut (F := fun _ => False) (W := fun b => b = a) hs rfl).vis fun b z => z ▸ hH
  have lk : ∀ {b vs}, IsL h b vs → IsL h' b vs := fun {b vs} l => l.at' fun o e => hk b o (fun z => hn vs (z ▸ l)) e
  refine F.chg (H' := H) hk hfe F.hle rfl (fun b q => ?_) hns F.hl F.hc hcl (fun j y u hj hu => ?_) (fun j b e => ?_) F.oinj (F.sto.chg hk nm le rfl fun n b e => F.sto.hidden e)
  · by_cases hb : b = a
    · rw [hb]; exact hlive
    · obtain ⟨o, e⟩ := F.hlt b q
      exact ⟨o, hk b o hb e⟩
  · rcases get_set hu with ⟨rfl, rfl⟩ | ⟨ne, hu⟩
    · rw [hx] at hj; cases hj
      exact ⟨v, nx, r.mono le (fun _ e => e) fun _ _ _ l => lk l⟩
    · obtain ⟨w, nw, rw'⟩ := F.vals j y u hj hu
      refine ⟨w, ny y w (fun z => ne ?_) nw, rw'.mono le (fun _ e => e) fun _ _ _ l => lk l⟩
      subst z; exact hnd j hj
  · obtain ⟨p, q, r, vs, l⟩ := F.own j b e
    exact ⟨p, q, r, vs, lk l⟩

/-- an own list turns -/
theorem fm_own {i : Nat} {a : Addr} {vs' : List Value} {xs' : List AV} (F : Fm c Fr ns env st fe H h) (ho : H.o i = some a) (hr : ∃ xs, st.ρ[i]? = some (some (.own xs))) (hs : Heap.SameBut a h h') (hl' : IsL h' a vs') (hz : xs'.length ≤ 1048576) (hv : RepL (vis h H) vs' xs') :
    Fm c Fr ns env { st with ρ := st.ρ.set i (some (.own xs')) } fe H h' := by
  obtain ⟨hH, hfe, nm, vs, hl⟩ := F.own i a ho
  have hk : ∀ b o, b ≠ a → h.get? b = some o → h'.get? b = some o := fun b o n e => (hs.2 b n).trans e
  have le : (vis h H).Le (vis h' H) := (Kv.of_sameBut (F := fun _ => False) (W := fun b => b = a) hs rfl).vis fun b z => z ▸ hH
  have nsk : ∀ {b m}, h.Ns b m → h'.Ns b m := fun {b m} n => by
    have hb : b ≠ a := fun z => not_isL_ns n vs (z ▸ hl)
    obtain ⟨o, es, ep, e, r⟩ := n
    exact ⟨o, es, ep, hk b o hb e, r⟩
  have clk : ∀ {b v}, h.IsCell b v → h'.IsCell b v := fun {b v} n => by
    have hb : b ≠ a := fun z => not_isL_cell n vs (z ▸ hl)
    obtain ⟨o, e, r⟩ := n
    exact ⟨o, hk b o hb e, r⟩
  have nvk : ∀ {x v}, NV h env x v → NV h' env x v := fun {x v} n => by
    rcases n with ⟨k1, m, n, e⟩ | ⟨k1, cc, e, n⟩
    · exact .inl ⟨k1, m, nsk n, e⟩
    · exact .inr ⟨k1, cc, e, clk n⟩
  refine F.chg (H' := H) hk hfe F.hle rfl (fun b q => ?_) (let ⟨m, n⟩ := F.ns; ⟨m, nsk n⟩) F.hl F.hc (fun x q => let ⟨cc, v, e, n⟩ := F.cl x q; ⟨cc, v, e, clk n⟩) (fun j y u hj hu => ?_) (fun j b e => ?_) F.oinj (F.sto.chg hk nm le rfl fun n b e => F.sto.hidden e)
  · by_cases hb : b = a
    · obtain ⟨o, _, e, _⟩ := hl'; exact ⟨o, hb ▸ e⟩
    · obtain ⟨o, e⟩ := F.hlt b q
      exact ⟨o, hk b o hb e⟩
  · rcases get_set hu with ⟨rfl, rfl⟩ | ⟨ne, hu⟩
    · obtain ⟨xs, hr⟩ := hr
      obtain ⟨w, nw, z, a', vs₀, e, o', _⟩ := F.vals j y _ hj hr
      rw [ho] at o'; cases o'
      exact ⟨w, nvk nw, hz, a, vs', e, ho, hl', RepL.mono le hv⟩
    · obtain ⟨w, nw, rw'⟩ := F.vals j y u hj hu
      refine ⟨w, nvk nw, rw'.mono le (fun _ e => e) fun b ws e l => l.at' fun o e' => hk b o (fun z => ne ?_) e'⟩
      subst z; exact F.oinj j i b e ho
  · by_cases hb : b = a
    · subst hb; exact ⟨hH, hfe, nm, vs', hl'⟩
    · obtain ⟨p, q, r, ws, l⟩ := F.own j b e
      exact ⟨p, q, r, ws, l.at' fun o e' => hk b o hb e'⟩

/-- an own list taken up -/
noncomputable def Hd.putO (H : Hd) (i : Nat) (a : Addr) : Hd := ⟨fun b => H.p b ∨ b = a, H.m, fun j => if j = i then some a else H.o j, H.t⟩
theorem Fm.putO {i : Nat} {a : Addr} {vs : List Value} (F : Fm c Fr ns env st fe H h) (k : Kh Fr h h') (hnew : h.get? a = none) (hl : IsL h' a vs) : Fm c Fr ns env { st with ρ := st.ρ.set i none } fe (H.putO i a) h' := by
  have G := (F.kill i).step k
  have hN : ∀ b, (H.putO i a).p b → H.p b ∨ h.get? b = none := fun b z => z.imp id fun (z : b = a) => z ▸ hnew
  have le : (vis h H).Le (vis h' (H.putO i a)) := vis_new k hN (fun _ _ e => e) fun _ _ e => e
  have og : ∀ j b, (H.putO i a).o j = some b → (j = i ∧ b = a) ∨ (j ≠ i ∧ H.o j = some b) := fun j b e => by
    have e : (if j = i then some a else H.o j) = some b := e
    split at e
    · cases e; exact .inl ⟨by assumption, rfl⟩
    · exact .inr ⟨by assumption, e⟩
  have nma : ∀ n, H.m n ≠ some a := fun n e => by
    obtain ⟨o, e'⟩ := F.sto.al n a e
    rw [hnew] at e'; cases e'
  have noa : ∀ j, H.o j ≠ some a := fun j e => by
    obtain ⟨_, _, _, ws, o, _, e', _⟩ := F.own j a e
    rw [hnew] at e'; cases e'
  have fen : fe.h.get? a = none := by
    cases q : fe.h.get? a with
    | none => rfl
    | some o =>
      obtain ⟨o', e'⟩ := F.keep.nw (fun b w => F.hlt b (F.hle b (F.wsub b w))) q
      rw [hnew] at e'; cases e'
  exact { G with
    hle := fun b z => .inl (F.hle b z)
    mle := F.mle
    mold := F.mold
    mnew := F.mnew
    mw := F.mw
    hlt := fun b z => by
      rcases z with z | z
      · exact G.hlt b z
      · obtain ⟨o, _, e, _⟩ := hl; exact ⟨o, z ▸ e⟩
    hl := .inl G.hl
    hc := fun x cc y z => ⟨.inl (G.hc x cc y z).1, (G.hc x cc y z).2⟩
    vals := fun j x t hj ht => by
      have ht : (st.ρ.set i none)[j]? = some (some t) := ht
      have hji : j ≠ i := fun z => by
        subst z
        rw [List.getElem?_set] at ht
        simp at ht
      obtain ⟨v, n, r⟩ := F.vals j x t hj (by rw [List.getElem?_set_ne (Ne.symm hji)] at ht; exact ht)
      exact ⟨v, n.kh k, r.mono le (fun b e => by show (if j = i then some a else H.o j) = some b; rw [if_neg hji]; exact e) fun b ws _ l => k.isL l⟩
    own := fun j b e => by
      rcases og j b e with ⟨_, rfl⟩ | ⟨_, e⟩
      · exact ⟨.inr rfl, fen, nma, vs, hl⟩
      · obtain ⟨p, q, r, ws, l⟩ := G.own j b e
        exact ⟨.inl p, q, r, ws, l⟩
    oinj := fun j l b e e' => by
      rcases og j b e with ⟨h1, h2⟩ | ⟨h1, h2⟩ <;> rcases og l b e' with ⟨h3, h4⟩ | ⟨h3, h4⟩
      · rw [h1, h3]
      · subst h2; exact absurd h4 (noa l)
      · subst h4; exact absurd h2 (noa j)
      · exact F.oinj j l b h2 h4
    sto := F.sto.new k (fun b z => .inl z) hN (fun _ _ e => e) rfl
    tle := F.tle
    mh0 := F.mh0
    n0le := F.n0le }

/-- an own list is given away -/
theorem Fm.freeze {j : Nat} {y : Str} {ys : List AV} (F : Fm c Fr ns env st fe H h) (hy : ns[j]? = some y) (hr : st.ρ[j]? = some (some (.own ys))) :
    ∃ H', (∀ b, H'.p b → H.p b) ∧ H'.m = H.m ∧ H'.t = H.t ∧ Fm c Fr ns env { st with ρ := st.ρ.set j (some (.val (.lst ys))) } fe H' h := by
  obtain ⟨v, nv, z, a, vs, e, ho, l, r⟩ := F.vals j y _ hy hr
  subst e
  obtain ⟨hH, hfe, nm, _⟩ := F.own j a ho
  have hL : env.locals ≠ a := fun q => by
    obtain ⟨m, n⟩ := F.ns
    exact not_isL_ns n vs (q ▸ l)
  have hC : ∀ x cc, env.kindOf x = some .cell → env.cells.lookup x = some cc → cc ≠ a := fun x cc hk q w => by
    obtain ⟨cc', v', e', n'⟩ := F.cl x hk
    rw [q] at e'; cases e'
    exact not_isL_cell n' vs (w ▸ l)
  refine ⟨⟨fun b => H.p b ∧ b ≠ a, H.m, fun i => if i = j then none else H.o i, H.t⟩, fun b q => q.1, rfl, rfl, ?_⟩
  have le : (vis h H).Le (vis h ⟨fun b => H.p b ∧ b ≠ a, H.m, fun i => if i = j then none else H.o i, H.t⟩) := ⟨fun x cc d q => ⟨fun w => q.1 w.1, q.2⟩, fun _ _ e => e, fun _ _ e => e⟩
  refine F.chg (a := a) (fun b o _ e => e) hfe (fun b q => ⟨F.hle b q, fun w => by obtain ⟨o, e⟩ := F.felt b q; rw [w, hfe] at e; cases e⟩) rfl (fun b q => F.hlt b q.1) F.ns ⟨F.hl, hL⟩ (fun x cc y q => ⟨⟨(F.hc x cc y q).1, hC x cc y q⟩, (F.hc x cc y q).2⟩) F.cl (fun i x t h1 h2 => ?_) (fun i b e => ?_) (fun i i' b e e' => ?_)
    (F.sto.chg (a := a) (fun b o _ e => e) nm le rfl fun n b e => ⟨F.sto.hidden e, fun z => nm n (z ▸ e)⟩)
  · rcases get_set h2 with ⟨rfl, rfl⟩ | ⟨ne, h2⟩
    · rw [hy] at h1; cases h1
      refine ⟨_, nv, ?_⟩
      obtain ⟨o, n, e, c1, d1, f1⟩ := l
      simp only [RepE, Rep]
      exact ⟨z, a, vs, n, rfl, ⟨fun w => w.2 rfl, o, e, c1, d1, f1, .inl rfl, fun ⟨_, z⟩ => by cases z⟩, RepL.mono le r⟩
    · obtain ⟨w, nw, rw'⟩ := F.vals i x t h1 h2
      exact ⟨w, nw, rw'.mono le (fun b e => by show (if i = j then none else H.o i) = some b; rw [if_neg ne]; exact e) fun _ _ _ l => l⟩
  · have e : (if i = j then none else H.o i) = some b := e
    split at e
    · cases e
    · rename_i ne
      obtain ⟨p, q, r, ws, l⟩ := F.own i b e
      exact ⟨⟨p, fun w => ne (F.oinj i j b e (w ▸ ho))⟩, q, r, ws, l⟩
  · have e : (if i = j then none else H.o i) = some b := e
    have e' : (if i' = j then none else H.o i') = some b := e'
    split at e
    · cases e
    · split at e'
      · cases e'
      · exact F.oinj i i' b e e'

/-- a thing of another kind turns -/
theorem Fm.touchV {a : Addr} {o : Obj} {fs : Array Value} (F : Fm c Fr ns env st fe H h) (hk : ∀ b o, b ≠ a → h.get? b = some o → h'.get? b = some o)
    (hfe : fe.h.get? a = none) (ho : h.get? a = some o) (hd : o.data = .fields fs) (hcl : ¬ okC o.cls) (hl : ¬ H.p a) : Fm c Fr ns env st fe H h' := by
  have le : (vis h H).Le (vis h' H) := ⟨by
    rintro x cc d ⟨n, o', e, r⟩
    refine ⟨n, o', hk x o' (fun z => ?_) e, r⟩
    rw [z, ho] at e; cases e
    exact hcl (r.1 ▸ r.2.2.2.1), fun _ _ e => e, fun _ _ e => e⟩
  have nsk : ∀ {b m}, h.Ns b m → h'.Ns b m := fun {b m} n => by
    obtain ⟨ob, es, ep, e, d, r⟩ := n
    refine ⟨ob, es, ep, hk b ob (fun z => ?_) e, d, r⟩
    rw [z, ho] at e; cases e; rw [hd] at d; cases d
  have clk : ∀ {b v}, h.IsCell b v → h'.IsCell b v := fun {b v} n => by
    obtain ⟨ob, e, d⟩ := n
    refine ⟨ob, hk b ob (fun z => ?_) e, d⟩
    rw [z, ho] at e; cases e; rw [hd] at d; cases d
  have lk : ∀ {b vs}, IsL h b vs → IsL h' b vs := fun {b vs} n => by
    obtain ⟨ob, m, e, c1, d, r⟩ := n
    refine ⟨ob, m, hk b ob (fun z => ?_) e, c1, d, r⟩
    rw [z, ho] at e; cases e; rw [hd] at d; cases d
  have nvk : ∀ {x v}, NV h env x v → NV h' env x v := fun {x v} n => by
    rcases n with ⟨k1, m, n, e⟩ | ⟨k1, cc, e, n⟩
    · exact .inl ⟨k1, m, nsk n, e⟩
    · exact .inr ⟨k1, cc, e, clk n⟩
  exact F.chg (H' := H) (ρ' := st.ρ) hk hfe F.hle rfl (fun b z => by
      have hb : b ≠ a := fun y => hl (y ▸ z)
      obtain ⟨o', e⟩ := F.hlt b z; exact ⟨o', hk b o' hb e⟩) (let ⟨m, n⟩ := F.ns; ⟨m, nsk n⟩) F.hl F.hc (fun x z => let ⟨cc, v, e, n⟩ := F.cl x z; ⟨cc, v, e, clk n⟩)
    (fun i x t h1 h2 => let ⟨v, n, r⟩ := F.vals i x t h1 h2; ⟨v, nvk n, r.mono le (fun _ e => e) fun _ _ _ l => lk l⟩) (fun i b e => let ⟨p, q, r, ws, l⟩ := F.own i b e; ⟨p, q, r, ws, lk l⟩) F.oinj
    (F.sto.chg hk (fun n e => hl (F.sto.hidden e)) le rfl fun n b e => F.sto.hidden e)

/-- a hidden thing that is no part of the frame is let go -/
theorem Fm.drop {a : Addr} (F : Fm c Fr ns env st fe (H.add fun b => b = a) h) (hk : ∀ b o, b ≠ a → h.get? b = some o → h'.get? b = some o)
    (hfe : fe.h.get? a = none) (hL : env.locals ≠ a) (hC : ∀ x cc, env.kindOf x = some .cell → env.cells.lookup x = some cc → cc ≠ a) (hnl : ∀ vs, ¬ IsL h a vs) (hle : ∀ b, fe.H.p b → H.p b) (hH : ¬ H.p a) (nm : ∀ n, H.m n ≠ some a) : Fm c Fr ns env st fe H h' := by
  have le : (vis h (H.add fun b => b = a)).Le (vis h' H) := ⟨by
    rintro x cc d ⟨n, o, e, r⟩
    exact ⟨fun z => n (.inl z), o, hk x o (fun z => n (.inr z)) e, r⟩, fun _ _ e => e, fun _ _ e => e⟩
  have nsk : ∀ {m}, h.Ns env.locals m → h'.Ns env.locals m := fun {m} n => by
    obtain ⟨ob, es, ep, e, d, r⟩ := n
    exact ⟨ob, es, ep, hk _ ob hL e, d, r⟩
  have clk : ∀ {x b v}, env.kindOf x = some .cell → env.cells.lookup x = some b → h.IsCell b v → h'.IsCell b v := fun {x b v} qk q n => by
    obtain ⟨ob, e, d⟩ := n
    exact ⟨ob, hk b ob (hC x b qk q) e, d⟩
  have lk : ∀ {b vs}, IsL h b vs → IsL h' b vs := fun {b vs} n => n.at' fun o e => hk b o (fun z => hnl vs (z ▸ n)) e
  have nvk : ∀ {x v}, NV h env x v → NV h' env x v := fun {x v} n => by
    rcases n with ⟨k1, m, n, e⟩ | ⟨k1, cc, e, n⟩
    · exact .inl ⟨k1, m, nsk n, e⟩
    · exact .inr ⟨k1, cc, e, clk k1 e n⟩
  exact F.chg (H' := H) (ρ' := st.ρ) hk hfe hle rfl (fun b z => by
      have hb : b ≠ a := fun y => hH (y ▸ z)
      obtain ⟨o', e⟩ := F.hlt b (.inl z); exact ⟨o', hk b o' hb e⟩) (let ⟨m, n⟩ := F.ns; ⟨m, nsk n⟩) (F.hl.resolve_right hL) (fun x cc y z => ⟨(F.hc x cc y z).1.resolve_right (hC x cc y z), (F.hc x cc y z).2⟩) (fun x z => let ⟨cc, v, e, n⟩ := F.cl x z; ⟨cc, v, e, clk z e n⟩)
    (fun i x t h1 h2 => let ⟨v, n, r⟩ := F.vals i x t h1 h2; ⟨v, nvk n, r.mono le (fun _ e => e) fun _ _ _ l => lk l⟩) (fun i b e => let ⟨p, q, r, ws, l⟩ := F.own i b e; ⟨p.resolve_right fun z => hnl ws (z ▸ l), q, r, ws, lk l⟩) F.oinj
    (F.sto.chg hk nm le rfl fun n b e => (F.sto.hidden e).resolve_right fun z => nm n (z ▸ e))
end

section
variable {c : Cx} {q : Bool} {k : Nat} {A : Around} {H : Hd} {env : Env} {ns : List Str} {st : Fs} {fe : FE} {s : Shared}

theorem wp_store {i : Nat} {x : Str} {v : Value} {t : Ent} {Q : Unit → Shared → Prop} {E : Value → Shared → Prop} (F : Fm c (FrA A) ns env st fe H s.heap) (hx : ns[i]? = some x) (hnd : OneName ns i x) (hk : env.kindOf x = some .local ∨ env.kindOf x = some .cell)
    (r : RepE s.heap H i v t)
    (h : ∀ h' tk, Fm c (FrA A) ns env { st with ρ := st.ρ.set i (some t) } fe H h' → Kv (FrA A) H.p s.heap h' → Nf H s H { s with heap := h', toks := tk } → (∃ a, (a = env.locals ∨ ∃ y, env.kindOf y = some .cell ∧ env.cells.lookup y = some a) ∧ Heap.SameBut a s.heap h') → Q () { s with heap := h', toks := tk }) : wpAny c.M A (storeName env x v) Q E s := by
  rcases hk with hk | hk
  · obtain ⟨m, hm⟩ := F.ns
    refine wpAny_storeName_local hk hm (fun h' hn hs => ?_) (by rw [F.kind]; rfl)
    refine h h' _ (fm_store (v := v) F hx hnd hs F.hl F.lnew (not_isL_ns hm) (F.sto.notNs hm) (let ⟨o, _, _, e, _⟩ := hn; ⟨o, e⟩) (.inl ⟨hk, _, hn, by simp⟩) ?_ ⟨_, hn⟩ ?_ r) (Kv.of_sameBut hs F.hl) ?_ ⟨_, .inl rfl, hs⟩
    · rintro y w hy (⟨ky, m', n', e'⟩ | ⟨ky, cc, ec, n'⟩)
      · rw [Ns_uniq hm n'] at hn
        exact .inl ⟨ky, _, hn, by simp [hy, e']⟩
      · refine .inr ⟨ky, cc, ec, n'.sameBut hs fun z => ?_⟩
        obtain ⟨o, e, d⟩ := n'
        obtain ⟨o', _, _, e', d', _⟩ := hm
        rw [z, e'] at e; cases e; rw [d'] at d; cases d
    · intro y hy
      obtain ⟨cc, w, ec, n'⟩ := F.cl y hy
      refine ⟨cc, w, ec, n'.sameBut hs fun z => ?_⟩
      obtain ⟨o, e, d⟩ := n'
      obtain ⟨o', _, _, e', d', _⟩ := hm
      rw [z, e'] at e; cases e; rw [d'] at d; cases d
    · refine Nf.same ?_ (by first | exact Nat.le_refl _ | exact Nat.le_succ _)
      intro b o e nf
      by_cases hb : b = env.locals
      · obtain ⟨o', _, _, e', d', _⟩ := hn
        exact ⟨o', hb ▸ e', fun vs z => by rw [d'] at z; cases z⟩
      · exact ⟨o, (hs.2 b hb).trans e, nf⟩
  · obtain ⟨cc, v₀, hc, hcell⟩ := F.cl x hk
    obtain ⟨m, hm⟩ := F.ns
    refine wpAny_storeName_cell F.kind hk hc hcell fun h' hv hs => ?_
    have hLc : env.locals ≠ cc := fun z => by
      obtain ⟨o, e, d⟩ := hcell
      obtain ⟨o', _, _, e', d', _⟩ := hm
      rw [← z, e'] at e; cases e; rw [d'] at d; cases d
    refine h h' s.toks (fm_store (v := v) F hx hnd hs (F.hc x cc hk hc).1 (F.hc x cc hk hc).2 (not_isL_cell hcell) (F.sto.notCell hcell) (let ⟨o, e, _⟩ := hv; ⟨o, e⟩) (.inr ⟨hk, cc, hc, hv⟩) ?_ ⟨m, hm.sameBut hs hLc⟩ ?_ r) (Kv.of_sameBut hs (F.hc x cc hk hc).1) ?_ ⟨_, .inr ⟨x, hk, hc⟩, hs⟩
    · rintro y w hy (⟨ky, m', n', e'⟩ | ⟨ky, cy, ey, n'⟩)
      · exact .inl ⟨ky, m', n'.sameBut hs hLc, e'⟩
      · exact .inr ⟨ky, cy, ey, n'.sameBut hs fun z => hy (F.capart y x cc (z ▸ ey) hc)⟩
    · intro y hy
      obtain ⟨cy, w, ey, n'⟩ := F.cl y hy
      by_cases hyx : y = x
      · subst hyx; exact ⟨cc, _, hc, hv⟩
      · exact ⟨cy, w, ey, n'.sameBut hs fun z => hyx (F.capart y x cc (z ▸ ey) hc)⟩
    · refine Nf.same ?_ (by first | exact Nat.le_refl _ | exact Nat.le_succ _)
      intro b o e nf
      by_cases hb : b = cc
      · obtain ⟨o', e', d'⟩ := hv
        exact ⟨o', hb ▸ e', fun vs z => by rw [d'] at z; cases z⟩
      · exact ⟨o, (hs.2 b hb).trans e, nf⟩
end
end Mine
end
section
open PySem PySem.W PyProof.Rows
set_option linter.unusedVariables false
namespace Mine

mutual
inductive PS where
  | expr (e : PE)
  | assign (i : Nat) (e : PE)
  | ownl (i : Nat) (xs : PEs)
  | unpack2 (i j : Nat) (a b : PE)
  | aug (i : Nat) (op : Operator) (e : PE)
  | ometh (i : Nat) (m : OMI) (xs : PEs) (fz : Option Nat)
  | ite (t : PE) (a b : PSs)
  | for_ (i : Nat) (src : PE) (body : PSs)
  | while_ (n : Nat) (t : PE) (body : PSs)
  | ret (e : PE)
  | retOwn (i : Nat)
  | brk
  | cont
  | try_ (body : PSs) (hs : PHs)
inductive PSs where
  | nil
  | cons (s : PS) (r : PSs)
  | frz (i : Nat) (r : PSs)
inductive PHs where
  | nil
  | cons (x : EX) (body : PSs) (r : PHs)
end

inductive FR where
  | next (st : Fs)
  | brk (st : Fs)
  | cont (st : Fs)
  | ret (v : AV) (σ : Store)
  | exc (x : EX) (st : Fs)
  | stuck

noncomputable def forF (f : AV → Fs → FR) : List AV → Fs → FR
  | [], st => .next st
  | x :: r, st => match f x st with
    | .next st' => forF f r st'
    | .cont st' => forF f r st'
    | .brk st' => .next st'
    | .ret v σ => .ret v σ
    | .exc _ _ => .stuck
    | .stuck => .stuck
noncomputable def whileF (t : Fs → Option (Bool × Store)) (f : Fs → FR) : Nat → Fs → FR
  | 0, _ => .stuck
  | n + 1, st => match t st with
    | some (true, σ) => (match f (st.at σ) with
      | .next st' => whileF t f n st'
      | .cont st' => whileF t f n st'
      | .brk st' => .next st'
      | .ret v σ => .ret v σ
      | .exc _ _ => .stuck
      | .stuck => .stuck)
    | some (false, σ) => .next (st.at σ)
    | none => .stuck

abbrev Fs.set (st : Fs) (i : Nat) (t : Ent) : Fs := { st with ρ := st.ρ.set i (some t) }
noncomputable def Fs.sets (st : Fs) : List Nat → List AV → Fs
  | i :: is, v :: vs => (st.set i (.val v)).sets is vs
  | _, _ => st
/-- the result of an expression in a statement -/
noncomputable def resS (r : ER) (st : Fs) (f : AV → Fs → FR) : FR := match r with
  | .ok (.av v) σ => f v (st.at σ)
  | .ok (.own _) _ => .stuck
  | .exc x σ => .exc x (st.at σ)
  | .stuck => .stuck
noncomputable def ownOf (st : Fs) (i : Nat) : Option (List AV) := match st.ρ[i]? with
  | some (some (.own xs)) => some xs
  | _ => none
section
variable (O : OpsF) (cal : Cal)
noncomputable def omethF (st : Fs) (i : Nat) (m : OMI) (r : Option (List OV × Store)) : FR := match r with
  | some (ol, σ) => (match plains ol, ownOf st i with
    | some l, some xs => (match O.ometh m xs l with
      | some xs' => .next ((st.at σ).set i (.own xs'))
      | none => .stuck)
    | _, _ => .stuck)
  | none => .stuck
noncomputable def unpackF (is : List Nat) (v : AV) (st : Fs) : FR := match v with
  | .tup xs => if xs.length = is.length then .next (st.sets is xs) else .stuck
  | _ => .stuck
mutual
noncomputable def px (q : Bool) (st : Fs) : PS → FR
  | .expr e => resS (pe O cal q st e).v st fun _ st' => .next st'
  | .assign i e => resS (pe O cal q st e).v st fun v st' => .next (st'.set i (.val v))
  | .ownl i xs => match pes O cal q st xs with
    | some (ol, σ) => (match plains ol with
      | some l => if l.length ≤ 100 then .next ((st.at σ).set i (.own l)) else .stuck
      | none => .stuck)
    | none => .stuck
  | .unpack2 i j a b => match q with
    | true => resS (pe O cal true st (.tup (.cons a (.cons b .nil)))).v st fun v st' => unpackF [i, j] v st'
    | false => .stuck
  | .aug i op e => match slotV st i, (pe O cal q st e).v with
    | .ok (.av a) _, .ok b σ => resS (ofRes (O.inpl op (deref σ a) (derefS st.ρ σ b)) σ) st fun v st' => .next (st'.set i (.val v))
    | _, _ => .stuck
  | .ometh i m xs fz => match q with
    | true => (match fz with
      | none => omethF O st i m (pes O cal true st xs)
      | some j => (match ownOf st j with
        | some ys => omethF O (st.set j (.val (.lst ys))) i m (pes O cal true (st.set j (.val (.lst ys))) xs)
        | none => .stuck))
    | false => .stuck
  | .ite t a b => match (pe O cal q st t).t with
    | some (true, σ) => pxs q (st.at σ) a
    | some (false, σ) => pxs q (st.at σ) b
    | none => .stuck
  | .for_ i src body => match q, (pe O cal q st src).v with
    | true, .ok (.av v) σ => (match O.items v with | some l => forF (fun x st => pxs true (st.set i (.val x)) body) l (st.at σ) | none => .stuck)
    | _, _ => .stuck
  | .while_ n t body => whileF (fun st => (pe O cal q st t).t) (fun st => pxs q st body) n st
  | .ret e => resS (pe O cal q st e).v st fun v st' => .ret v st'.σ
  | .retOwn i => match ownOf st i with
    | some xs => .ret (.lst xs) st.σ
    | none => .stuck
  | .brk => .brk st
  | .cont => .cont st
  | .try_ body hs => match q with
    | true => (match pxs true st body with
      | .exc x st' => phs x st' hs
      | r => r)
    | false => .stuck
noncomputable def pxs (q : Bool) (st : Fs) : PSs → FR
  | .nil => .next st
  | .cons s r => match px q st s with
    | .next st' => pxs q st' r
    | f => f
  | .frz i r => match ownOf st i with
    | some ys => pxs q (st.set i (.val (.lst ys))) r
    | none => .stuck
noncomputable def phs (x : EX) (st : Fs) : PHs → FR
  | .nil => .stuck
  | .cons y body r => if x = y then (match pxs false st body with | .exc _ _ => .stuck | f => f) else phs x st r
end
end

noncomputable def nameAt (ks : List (Str × NameKind)) (ns : List Str) (i : Nat) (x : Str) : Bool :=
  ns[i]? == some x && (ks.lookup x == some .local || ks.lookup x == some .cell) && (List.range ns.length).all fun j => j == i || !(ns[j]? == some x)
noncomputable def isCC : PE → Bool
  | _ => false
noncomputable def isComp : PE → Bool
  | .comp .. => true
  | _ => false
/-- what is looked at of a statement -/
structure SH where
  expr : Expr → Bool := fun _ => false
  assign : List Expr → Expr → Bool := fun _ _ => false
  aug : Expr → Operator → Expr → Bool := fun _ _ _ => false
  iff : Expr → List Stmt → List Stmt → Bool := fun _ _ _ => false
  fo : Expr → Expr → List Stmt → List Stmt → Bool := fun _ _ _ _ => false
  wh : Expr → List Stmt → List Stmt → Bool := fun _ _ _ => false
  ret : Option Expr → Bool := fun _ => false
  brk : Bool := false
  cont : Bool := false
  pass : Bool := false
  tr : List Stmt → List ExceptHandler → List Stmt → List Stmt → Bool := fun _ _ _ _ => false
  raise : Option Expr → Option Expr → Bool := fun _ _ => false
noncomputable def onS (h : SH) : Stmt → Bool
  | .Expr e _ => h.expr e
  | .Assign ts e _ => h.assign ts e
  | .AugAssign t o e _ => h.aug t o e
  | .If t a b _ => h.iff t a b
  | .For t i a b _ => h.fo t i a b
  | .While t a b _ => h.wh t a b
  | .Return e _ => h.ret e
  | .Break _ => h.brk
  | .Continue _ => h.cont
  | .Pass _ => h.pass
  | .Try a b c d _ => h.tr a b c d
  | .Raise a b _ => h.raise a b
  | _ => false
section
variable {sm : Stmt}
theorem onS_elim {h : SH} {P : Stmt → Prop} {sm : Stmt} (he : onS h sm = true) (h0 : ∀ e p, h.expr e = true → P (.Expr e p)) (h1 : ∀ ts e p, h.assign ts e = true → P (.Assign ts e p)) (h2 : ∀ t o e p, h.aug t o e = true → P (.AugAssign t o e p)) (h3 : ∀ t a b p, h.iff t a b = true → P (.If t a b p)) (h4 : ∀ t i a b p, h.fo t i a b = true → P (.For t i a b p)) (h5 : ∀ t a b p, h.wh t a b = true → P (.While t a b p)) (h6 : ∀ e p, h.ret e = true → P (.Return e p)) (h7 : ∀ p, h.brk = true → P (.Break p)) (h8 : ∀ p, h.cont = true → P (.Continue p)) (h9 : ∀ p, h.pass = true → P (.Pass p)) (h10 : ∀ a b c d p, h.tr a b c d = true → P (.Try a b c d p)) (h11 : ∀ a b p, h.raise a b = true → P (.Raise a b p)) : P sm := by
  cases sm with
  | Expr e p => exact h0 e p he
  | Assign ts e p => exact h1 ts e p he
  | AugAssign t o e p => exact h2 t o e p he
  | If t a b p => exact h3 t a b p he
  | For t i a b p => exact h4 t i a b p he
  | While t a b p => exact h5 t a b p he
  | Return e p => exact h6 e p he
  | Break p => exact h7 p he
  | Continue p => exact h8 p he
  | Pass p => exact h9 p he
  | Try a b c d p => exact h10 a b c d p he
  | Raise a b p => exact h11 a b p he
  | _ => exact (Bool.false_ne_true he).elim
theorem onS_expr {f} (h : onS { expr := f } sm = true) : ∃ e p, sm = .Expr e p ∧ f e = true :=
  onS_elim (P := fun sm => ∃ e p, sm = .Expr e p ∧ f e = true) h (fun e p z => ⟨e, p, rfl, z⟩) (fun _ _ _ z => (Bool.false_ne_true z).elim) (fun _ _ _ _ z => (Bool.false_ne_true z).elim) (fun _ _ _ _ z => (Bool.false_ne_true z).elim) (fun _ _ _ _ _ z => (Bool.false_ne_true z).elim) (fun _ _ _ _ z => (Bool.false_ne_true z).elim) (fun _ _ z => (Bool.false_ne_true z).elim) (fun _ z => (Bool.false_ne_true z).elim) (fun _ z => (Bool.false_ne_true z).elim) (fun _ z => (Bool.false_ne_true z).elim) (fun _ _ _ _ _ z => (Bool.false_ne_true z).elim) (fun _ _ _ z => (Bool.false_ne_true z).elim)
theorem onS_assign {f} (h : onS { assign := f } sm = true) : ∃ ts e p, sm = .Assign ts e p ∧ f ts e = true :=
  onS_elim (P := fun sm => ∃ ts e p, sm = .Assign ts e p ∧ f ts e = true) h (fun _ _ z => (Bool.false_ne_true z).elim) (fun ts e p z => ⟨ts, e, p, rfl, z⟩) (fun _ _ _ _ z => (Bool.false_ne_true z).elim) (fun _ _ _ _ z => (Bool.false_ne_true z).elim) (fun _ _ _ _ _ z => (Bool.false_ne_true z).elim) (fun _ _ _ _ z => (Bool.false_ne_true z).elim) (fun _ _ z => (Bool.false_ne_true z).elim) (fun _ z => (Bool.false_ne_true z).elim) (fun _ z => (Bool.false_ne_true z).elim) (fun _ z => (Bool.false_ne_true z).elim) (fun _ _ _ _ _ z => (Bool.false_ne_true z).elim) (fun _ _ _ z => (Bool.false_ne_true z).elim)
theorem onS_aug {f} (h : onS { aug := f } sm = true) : ∃ t o e p, sm = .AugAssign t o e p ∧ f t o e = true :=
  onS_elim (P := fun sm => ∃ t o e p, sm = .AugAssign t o e p ∧ f t o e = true) h (fun _ _ z => (Bool.false_ne_true z).elim) (fun _ _ _ z => (Bool.false_ne_true z).elim) (fun t o e p z => ⟨t, o, e, p, rfl, z⟩) (fun _ _ _ _ z => (Bool.false_ne_true z).elim) (fun _ _ _ _ _ z => (Bool.false_ne_true z).elim) (fun _ _ _ _ z => (Bool.false_ne_true z).elim) (fun _ _ z => (Bool.false_ne_true z).elim) (fun _ z => (Bool.false_ne_true z).elim) (fun _ z => (Bool.false_ne_true z).elim) (fun _ z => (Bool.false_ne_true z).elim) (fun _ _ _ _ _ z => (Bool.false_ne_true z).elim) (fun _ _ _ z => (Bool.false_ne_true z).elim)
theorem onS_iff {f} (h : onS { iff := f } sm = true) : ∃ t a b p, sm = .If t a b p ∧ f t a b = true :=
  onS_elim (P := fun sm => ∃ t a b p, sm = .If t a b p ∧ f t a b = true) h (fun _ _ z => (Bool.false_ne_true z).elim) (fun _ _ _ z => (Bool.false_ne_true z).elim) (fun _ _ _ _ z => (Bool.false_ne_true z).elim) (fun t a b p z => ⟨t, a, b, p, rfl, z⟩) (fun _ _ _ _ _ z => (Bool.false_ne_true z).elim) (fun _ _ _ _ z => (Bool.false_ne_true z).elim) (fun _ _ z => (Bool.false_ne_true z).elim) (fun _ z => (Bool.false_ne_true z).elim) (fun _ z => (Bool.false_ne_true z).elim) (fun _ z => (Bool.false_ne_true z).elim) (fun _ _ _ _ _ z => (Bool.false_ne_true z).elim) (fun _ _ _ z => (Bool.false_ne_true z).elim)
theorem onS_fo {f} (h : onS { fo := f } sm = true) : ∃ t i a b p, sm = .For t i a b p ∧ f t i a b = true :=
  onS_elim (P := fun sm => ∃ t i a b p, sm = .For t i a b p ∧ f t i a b = true) h (fun _ _ z => (Bool.false_ne_true z).elim) (fun _ _ _ z => (Bool.false_ne_true z).elim) (fun _ _ _ _ z => (Bool.false_ne_true z).elim) (fun _ _ _ _ z => (Bool.false_ne_true z).elim) (fun t i a b p z => ⟨t, i, a, b, p, rfl, z⟩) (fun _ _ _ _ z => (Bool.false_ne_true z).elim) (fun _ _ z => (Bool.false_ne_true z).elim) (fun _ z => (Bool.false_ne_true z).elim) (fun _ z => (Bool.false_ne_true z).elim) (fun _ z => (Bool.false_ne_true z).elim) (fun _ _ _ _ _ z => (Bool.false_ne_true z).elim) (fun _ _ _ z => (Bool.false_ne_true z).elim)
theorem onS_wh {f} (h : onS { wh := f } sm = true) : ∃ t a b p, sm = .While t a b p ∧ f t a b = true :=
  onS_elim (P := fun sm => ∃ t a b p, sm = .While t a b p ∧ f t a b = true) h (fun _ _ z => (Bool.false_ne_true z).elim) (fun _ _ _ z => (Bool.false_ne_true z).elim) (fun _ _ _ _ z => (Bool.false_ne_true z).elim) (fun _ _ _ _ z => (Bool.false_ne_true z).elim) (fun _ _ _ _ _ z => (Bool.false_ne_true z).elim) (fun t a b p z => ⟨t, a, b, p, rfl, z⟩) (fun _ _ z => (Bool.false_ne_true z).elim) (fun _ z => (Bool.false_ne_true z).elim) (fun _ z => (Bool.false_ne_true z).elim) (fun _ z => (Bool.false_ne_true z).elim) (fun _ _ _ _ _ z => (Bool.false_ne_true z).elim) (fun _ _ _ z => (Bool.false_ne_true z).elim)
theorem onS_ret {f} (h : onS { ret := f } sm = true) : ∃ e p, sm = .Return e p ∧ f e = true :=
  onS_elim (P := fun sm => ∃ e p, sm = .Return e p ∧ f e = true) h (fun _ _ z => (Bool.false_ne_true z).elim) (fun _ _ _ z => (Bool.false_ne_true z).elim) (fun _ _ _ _ z => (Bool.false_ne_true z).elim) (fun _ _ _ _ z => (Bool.false_ne_true z).elim) (fun _ _ _ _ _ z => (Bool.false_ne_true z).elim) (fun _ _ _ _ z => (Bool.false_ne_true z).elim) (fun e p z => ⟨e, p, rfl, z⟩) (fun _ z => (Bool.false_ne_true z).elim) (fun _ z => (Bool.false_ne_true z).elim) (fun _ z => (Bool.false_ne_true z).elim) (fun _ _ _ _ _ z => (Bool.false_ne_true z).elim) (fun _ _ _ z => (Bool.false_ne_true z).elim)
theorem onS_brk (h : onS { brk := true } sm = true) : ∃ p, sm = .Break p :=
  onS_elim (P := fun sm => ∃ p, sm = .Break p) h (fun _ _ z => (Bool.false_ne_true z).elim) (fun _ _ _ z => (Bool.false_ne_true z).elim) (fun _ _ _ _ z => (Bool.false_ne_true z).elim) (fun _ _ _ _ z => (Bool.false_ne_true z).elim) (fun _ _ _ _ _ z => (Bool.false_ne_true z).elim) (fun _ _ _ _ z => (Bool.false_ne_true z).elim) (fun _ _ z => (Bool.false_ne_true z).elim) (fun p z => ⟨p, rfl⟩) (fun _ z => (Bool.false_ne_true z).elim) (fun _ z => (Bool.false_ne_true z).elim) (fun _ _ _ _ _ z => (Bool.false_ne_true z).elim) (fun _ _ _ z => (Bool.false_ne_true z).elim)
theorem onS_cont (h : onS { cont := true } sm = true) : ∃ p, sm = .Continue p :=
  onS_elim (P := fun sm => ∃ p, sm = .Continue p) h (fun _ _ z => (Bool.false_ne_true z).elim) (fun _ _ _ z => (Bool.false_ne_true z).elim) (fun _ _ _ _ z => (Bool.false_ne_true z).elim) (fun _ _ _ _ z => (Bool.false_ne_true z).elim) (fun _ _ _ _ _ z => (Bool.false_ne_true z).elim) (fun _ _ _ _ z => (Bool.false_ne_true z).elim) (fun _ _ z => (Bool.false_ne_true z).elim) (fun _ z => (Bool.false_ne_true z).elim) (fun p z => ⟨p, rfl⟩) (fun _ z => (Bool.false_ne_true z).elim) (fun _ _ _ _ _ z => (Bool.false_ne_true z).elim) (fun _ _ _ z => (Bool.false_ne_true z).elim)
theorem onS_tr {f} (h : onS { tr := f } sm = true) : ∃ a b c d p, sm = .Try a b c d p ∧ f a b c d = true :=
  onS_elim (P := fun sm => ∃ a b c d p, sm = .Try a b c d p ∧ f a b c d = true) h (fun _ _ z => (Bool.false_ne_true z).elim) (fun _ _ _ z => (Bool.false_ne_true z).elim) (fun _ _ _ _ z => (Bool.false_ne_true z).elim) (fun _ _ _ _ z => (Bool.false_ne_true z).elim) (fun _ _ _ _ _ z => (Bool.false_ne_true z).elim) (fun _ _ _ _ z => (Bool.false_ne_true z).elim) (fun _ _ z => (Bool.false_ne_true z).elim) (fun _ z => (Bool.false_ne_true z).elim) (fun _ z => (Bool.false_ne_true z).elim) (fun _ z => (Bool.false_ne_true z).elim) (fun a b c d p z => ⟨a, b, c, d, p, rfl, z⟩) (fun _ _ _ z => (Bool.false_ne_true z).elim)
/-- one name is assigned -/
noncomputable def onA1 (sm : Stmt) (f : Str → Expr → Bool) : Bool := onS { assign := fun ts e => one? ts fun t => onE { name := fun x => f x e } t } sm
theorem onA1_eq {f} (h : onA1 sm f = true) : ∃ x px e p, sm = .Assign [.Name x px] e p ∧ f x e = true := by
  obtain ⟨ts, e, p, rfl, h⟩ := onS_assign h
  obtain ⟨t, rfl, h⟩ := one?_eq h
  obtain ⟨x, px, rfl, h⟩ := onE_name h
  exact ⟨x, px, e, p, rfl, h⟩
end
noncomputable def onNm (ex : Expr) (f : Str → Pos → Bool) : Bool := match ex with
  | .Name x p => f x p
  | _ => false
theorem onNm_eq {ex : Expr} {f} (h : onNm ex f = true) : ∃ x p, ex = .Name x p ∧ f x p = true := by
  cases ex with
  | Name x p => exact ⟨x, p, rfl, h⟩
  | _ => exact (Bool.false_ne_true h).elim
noncomputable def opt? {α : Type} (l : Option α) (f : α → Bool) : Bool := match l with
  | some x => f x
  | none => false
theorem opt?_eq {α : Type} {l : Option α} {f : α → Bool} (h : opt? l f = true) : ∃ x, l = some x ∧ f x = true := by
  cases l with
  | some x => exact ⟨x, rfl, h⟩
  | none => cases h
noncomputable def non? {α : Type} (l : Option α) (b : Bool) : Bool := match l with
  | some _ => false
  | none => b
theorem non?_eq {α : Type} {l : Option α} {b : Bool} (h : non? l b = true) : l = none ∧ b = true := by
  cases l with
  | some x => cases h
  | none => exact ⟨rfl, h⟩
noncomputable def onHd (l : List ExceptHandler) (f : Str → List Stmt → List ExceptHandler → Bool) : Bool := match l with
  | [] => false
  | .ExceptHandler t n b _ :: r => opt? t fun t => non? n (onE { name := fun x => !b.isEmpty && f x b r } t)
theorem onHd_eq {l} {f} (h : onHd l f = true) : ∃ x px b₀ su p r, l = .ExceptHandler (some (.Name x px)) none (b₀ :: su) p :: r ∧ f x (b₀ :: su) r = true := by
  rcases l with _ | ⟨⟨t, n, b, p⟩, r⟩
  · cases h
  · obtain ⟨t, rfl, h⟩ := opt?_eq h
    obtain ⟨rfl, h⟩ := non?_eq h
    obtain ⟨x, px, rfl, h⟩ := onE_name h
    rcases b with _ | ⟨b₀, su⟩
    · cases h
    · exact ⟨x, px, b₀, su, p, r, rfl, h⟩

section
variable (frees : List Str) (fname : Nat → Str) (ks : List (Str × NameKind)) (ns : List Str)
mutual
noncomputable def encS : PS → Stmt → Bool
  | .expr e, st => onS { expr := fun ex => encE frees fname ks ns e ex && !(isComp e) } st
  | .assign i e, st => onA1 st fun x ex => nameAt ks ns i x && encE frees fname ks ns e ex && !(isCC e)
  | .ownl i xs, st => onA1 st fun x ex => onE { list := fun es => nameAt ks ns i x && encEs frees fname ks ns xs es } ex
  | .unpack2 i j a b, st => onS { assign := fun ts ex => one? ts fun t => onE { tup := fun ts k1 tp => two? ts fun t1 t2 => onE { tup := fun es k2 vp => two? es fun ea eb => onNm t1 fun x px => onNm t2 fun y py => nameAt ks ns i x && nameAt ks ns j y && !(i == j) && ks.lookup x == some .local && ks.lookup y == some .local && px.line == py.line && !(x == y) && !([ea, eb].all (foldedForSure 8)) && !([ea, eb].all (constantsAlone 8)) && encE frees fname ks ns a ea && encE frees fname ks ns b eb } ex } t } st
  | .aug i op e, st => onS { aug := fun t op' ex => onE { name := fun x => nameAt ks ns i x && !(x == ("__debug__" : Str)) && op == op' && encE frees fname ks ns e ex } t } st
  | .ometh i m xs _, st => onS { expr := fun ex => onMC ex fun o n apos es pos => onE { name := fun x => nameAt ks ns i x && !(x == ("__debug__" : Str)) && n == Str.ofString m.name && apos.endLine == pos.line && decide (es.length < 20) && !es.isEmpty && encEs frees fname ks ns xs es } o } st
  | .ite t a b, st => onS { iff := fun t' a' b' => encE frees fname ks ns t t' && encSs a a' && encSs b b' } st
  | .for_ i src body, st => onS { fo := fun t it body' els => onE { name := fun x => nil? els (nameAt ks ns i x && !(isSetd src) && encE frees fname ks ns src it && encSs body body') } t } st
  | .while_ _ t body, st => onS { wh := fun t' body' els => nil? els (encE frees fname ks ns t t' && encSs body body') } st
  | .ret e, st => onS { ret := fun o => opt? o fun ex => encE frees fname ks ns e ex } st
  | .retOwn i, st => onS { ret := fun o => opt? o fun ex => onE { name := fun x => ns[i]? == some x && !(x == ("__debug__" : Str)) } ex } st
  | .brk, st => onS { brk := true } st
  | .cont, st => onS { cont := true } st
  | .try_ body hs, st => onS { tr := fun body' hs' els fin => nil? els (nil? fin (encSs body body' && encHs hs hs' && !hs'.isEmpty)) } st
noncomputable def encSs : PSs → List Stmt → Bool
  | .nil, l => (match l with | [] => true | _ => false)
  | .cons s r, l => (match l with | s' :: r' => encS s s' && encSs r r' | _ => false)
  | .frz _ r, l => encSs r l
noncomputable def encHs : PHs → List ExceptHandler → Bool
  | .nil, l => (match l with | [] => true | _ => false)
  | .cons y body r, l => onHd l fun x b r' => x == Str.ofString y.name && isGlob ks x && frees.contains x && encSs body b && encHs r r'
end
end
/- equations -/
section
variable {O : OpsF} {cal : Cal} {q : Bool} {st : Fs}
theorem qx_expr {e} : px O cal q st (.expr e) = resS (pe O cal q st e).v st fun _ st' => .next st' := rfl
theorem qx_assign {i e} : px O cal q st (.assign i e) = resS (pe O cal q st e).v st fun v st' => .next (st'.set i (.val v)) := rfl
theorem qx_ownl {i xs} : px O cal q st (.ownl i xs) = match pes O cal q st xs with
    | some (ol, σ) => (match plains ol with
      | some l => if l.length ≤ 100 then .next ((st.at σ).set i (.own l)) else .stuck
      | none => .stuck)
    | none => .stuck := rfl
theorem qx_unpack2 {i j a b} : px O cal q st (.unpack2 i j a b) = match q with
    | true => resS (pe O cal true st (.tup (.cons a (.cons b .nil)))).v st fun v st' => unpackF [i, j] v st'
    | false => .stuck := rfl
theorem qx_aug {i op e} : px O cal q st (.aug i op e) = match slotV st i, (pe O cal q st e).v with
    | .ok (.av a) _, .ok b σ => resS (ofRes (O.inpl op (deref σ a) (derefS st.ρ σ b)) σ) st fun v st' => .next (st'.set i (.val v))
    | _, _ => .stuck := rfl
theorem qx_ometh {i m xs fz} : px O cal q st (.ometh i m xs fz) = match q with
    | true => (match fz with
      | none => omethF O st i m (pes O cal true st xs)
      | some j => (match ownOf st j with
        | some ys => omethF O (st.set j (.val (.lst ys))) i m (pes O cal true (st.set j (.val (.lst ys))) xs)
        | none => .stuck))
    | false => .stuck := rfl
theorem qx_ite {t a b} : px O cal q st (.ite t a b) = match (pe O cal q st t).t with
    | some (true, σ) => pxs O cal q (st.at σ) a
    | some (false, σ) => pxs O cal q (st.at σ) b
    | none => .stuck := rfl
theorem qx_for_ {i src body} : px O cal q st (.for_ i src body) = match q, (pe O cal q st src).v with
    | true, .ok (.av v) σ => (match O.items v with | some l => forF (fun x st => pxs O cal true (st.set i (.val x)) body) l (st.at σ) | none => .stuck)
    | _, _ => .stuck := rfl
theorem qx_while_ {n t body} : px O cal q st (.while_ n t body) = whileF (fun st => (pe O cal q st t).t) (fun st => pxs O cal q st body) n st := rfl
theorem qx_ret {e} : px O cal q st (.ret e) = resS (pe O cal q st e).v st fun v st' => .ret v st'.σ := rfl
theorem qx_retOwn {i} : px O cal q st (.retOwn i) = match ownOf st i with
    | some xs => .ret (.lst xs) st.σ
    | none => .stuck := rfl
theorem qx_try_ {body hs} : px O cal q st (.try_ body hs) = match q with
    | true => (match pxs O cal true st body with
      | .exc x st' => phs O cal x st' hs
      | r => r)
    | false => .stuck := rfl
theorem qxs_nil : pxs O cal q st .nil = .next st := rfl
theorem qxs_cons {s r} : pxs O cal q st (.cons s r) = match px O cal q st s with
    | .next st' => pxs O cal q st' r
    | f => f := rfl
theorem qxs_frz {i r} : pxs O cal q st (.frz i r) = match ownOf st i with
    | some ys => pxs O cal q (st.set i (.val (.lst ys))) r
    | none => .stuck := rfl
theorem qh_nil {x₀ : EX} : phs O cal x₀ st .nil = .stuck := rfl
theorem qh_cons {x₀ : EX} {y body r} : phs O cal x₀ st (.cons y body r) = if x₀ = y then (match pxs O cal false st body with | .exc _ _ => .stuck | f => f) else phs O cal x₀ st r := rfl
end
section
variable {frees : List Str} {fname : Nat → Str} {ks : List (Str × NameKind)} {ns : List Str}
theorem es_expr {e st} : encS frees fname ks ns (.expr e) st = onS { expr := fun ex => encE frees fname ks ns e ex && !(isComp e) } st := rfl
theorem es_assign {i e st} : encS frees fname ks ns (.assign i e) st = onA1 st fun x ex => nameAt ks ns i x && encE frees fname ks ns e ex && !(isCC e) := rfl
theorem es_ownl {i xs st} : encS frees fname ks ns (.ownl i xs) st = onA1 st fun x ex => onE { list := fun es => nameAt ks ns i x && encEs frees fname ks ns xs es } ex := rfl
theorem es_unpack2 {i j a b st} : encS frees fname ks ns (.unpack2 i j a b) st = onS { assign := fun ts ex => one? ts fun t => onE { tup := fun ts k1 tp => two? ts fun t1 t2 => onE { tup := fun es k2 vp => two? es fun ea eb => onNm t1 fun x px => onNm t2 fun y py => nameAt ks ns i x && nameAt ks ns j y && !(i == j) && ks.lookup x == some .local && ks.lookup y == some .local && px.line == py.line && !(x == y) && !([ea, eb].all (foldedForSure 8)) && !([ea, eb].all (constantsAlone 8)) && encE frees fname ks ns a ea && encE frees fname ks ns b eb } ex } t } st := rfl
theorem es_aug {i op e st} : encS frees fname ks ns (.aug i op e) st = onS { aug := fun t op' ex => onE { name := fun x => nameAt ks ns i x && !(x == ("__debug__" : Str)) && op == op' && encE frees fname ks ns e ex } t } st := rfl
theorem es_ometh {i m xs u0 st} : encS frees fname ks ns (.ometh i m xs u0) st = onS { expr := fun ex => onMC ex fun o n apos es pos => onE { name := fun x => nameAt ks ns i x && !(x == ("__debug__" : Str)) && n == Str.ofString m.name && apos.endLine == pos.line && decide (es.length < 20) && !es.isEmpty && encEs frees fname ks ns xs es } o } st := rfl
theorem es_ite {t a b st} : encS frees fname ks ns (.ite t a b) st = onS { iff := fun t' a' b' => encE frees fname ks ns t t' && encSs frees fname ks ns a a' && encSs frees fname ks ns b b' } st := rfl
theorem es_for_ {i src body st} : encS frees fname ks ns (.for_ i src body) st = onS { fo := fun t it body' els => onE { name := fun x => nil? els (nameAt ks ns i x && !(isSetd src) && encE frees fname ks ns src it && encSs frees fname ks ns body body') } t } st := rfl
theorem es_while_ {u0 t body st} : encS frees fname ks ns (.while_ u0 t body) st = onS { wh := fun t' body' els => nil? els (encE frees fname ks ns t t' && encSs frees fname ks ns body body') } st := rfl
theorem es_ret {e st} : encS frees fname ks ns (.ret e) st = onS { ret := fun o => opt? o fun ex => encE frees fname ks ns e ex } st := rfl
theorem es_retOwn {i st} : encS frees fname ks ns (.retOwn i) st = onS { ret := fun o => opt? o fun ex => onE { name := fun x => ns[i]? == some x && !(x == ("__debug__" : Str)) } ex } st := rfl
theorem es_brk {st} : encS frees fname ks ns (.brk) st = onS { brk := true } st := rfl
theorem es_cont {st} : encS frees fname ks ns (.cont) st = onS { cont := true } st := rfl
theorem es_try_ {body hs st} : encS frees fname ks ns (.try_ body hs) st = onS { tr := fun body' hs' els fin => nil? els (nil? fin (encSs frees fname ks ns body body' && encHs frees fname ks ns hs hs' && !hs'.isEmpty)) } st := rfl
theorem ess_nil {l} : encSs frees fname ks ns (.nil) l = (match l with | [] => true | _ => false) := rfl
theorem ess_cons {s r l} : encSs frees fname ks ns (.cons s r) l = (match l with | s' :: r' => encS frees fname ks ns s s' && encSs frees fname ks ns r r' | _ => false) := rfl
theorem ess_frz {u0 r l} : encSs frees fname ks ns (.frz u0 r) l = encSs frees fname ks ns r l := rfl
theorem eh_nil {l} : encHs frees fname ks ns (.nil) l = (match l with | [] => true | _ => false) := rfl
theorem eh_cons {y body r l} : encHs frees fname ks ns (.cons y body r) l = onHd l fun x b r' => x == Str.ofString y.name && isGlob ks x && frees.contains x && encSs frees fname ks ns body b && encHs frees fname ks ns r r' := rfl
end
/- equations end -/
end Mine
end
section
open PySem PySem.W PyProof.Rows
set_option linter.unusedVariables false
set_option linter.unusedSectionVars false
namespace Mine

/-- the frame after some statements -/
structure Nx (c : Cx) (A : Around) (ns : List Str) (env : Env) (fe : FE) (st : Fs) (H : Hd) (s : Shared) (st' : Fs) (H' : Hd) (s' : Shared) : Prop where
  rest : ∃ h' tk, s' = { s with heap := h', toks := tk }
  lv : ∀ b o, s.heap.get? b = some o → ∃ o', s'.heap.get? b = some o'
  hid : ∀ b, H'.p b → H.p b ∨ s.heap.get? b = none
  kv : Kv (FrA A) H.p s.heap s'.heap
  nf : Nf H s H' s'
  mx : ∀ n a, H.m n = some a → H'.m n = some a
  te : ∀ n i, H.t n = some i → H'.t n = some i
  fm : Fm c (FrA A) ns env st' fe H' s'.heap
  len : st'.ρ.length = ns.length
  lo : st'.lo = st.lo
  n0 : st'.n0 = st.n0

section
variable {c : Cx} {A : Around} {ns : List Str} {env : Env} {fe : FE} {st st₁ st₂ : Fs} {H H₁ H₂ : Hd} {s s₁ s₂ : Shared}
theorem Nx.dead (x : Nx c A ns env fe st H s st₁ H₁ s₁) {b : Addr} (z : s₁.heap.get? b = none) : s.heap.get? b = none := by
  cases q : s.heap.get? b with
  | none => rfl
  | some o => obtain ⟨o', e'⟩ := x.lv b o q; rw [z] at e'; cases e'
theorem Nx.trans (x : Nx c A ns env fe st H s st₁ H₁ s₁) (y : Nx c A ns env fe st₁ H₁ s₁ st₂ H₂ s₂) : Nx c A ns env fe st H s st₂ H₂ s₂ where
  rest := by
    obtain ⟨h, t, rfl⟩ := x.rest
    obtain ⟨h', t', rfl⟩ := y.rest
    exact ⟨h', t', rfl⟩
  lv := fun b o e => let ⟨o', e'⟩ := x.lv b o e; y.lv b o' e'
  hid := fun b z => by
    rcases y.hid b z with z | z
    · exact x.hid b z
    · exact .inr (x.dead z)
  kv := fun b o n e => by
    have h1 : ¬ H₁.p b := fun z => by
      rcases x.hid b z with z | z
      · exact n z
      · rw [e] at z; cases z
    obtain ⟨p1, sl, p2⟩ := x.kv b o n e
    obtain ⟨q1, sl', q2⟩ := y.kv b _ h1 p2
    exact ⟨fun f => (y.kv b o h1 (p1 f)).1 f, sl', q2⟩
  nf := x.nf.trans y.nf
  mx := fun n a e => y.mx n a (x.mx n a e)
  te := fun n i e => y.te n i (x.te n i e)
  fm := y.fm
  len := y.len
  lo := y.lo.trans x.lo
  n0 := y.n0.trans x.n0
theorem Nx.of_ss {σ' : Store} (F : Fm c (FrA A) ns env st fe H s.heap) (hlen : st.ρ.length = ns.length) (x : Ss A st.lo st.σ H s σ' H₁ s₁) : Nx c A ns env fe st H s (st.at σ') H₁ s₁ :=
  ⟨x.rest, x.lv, x.hid, x.kv.mono fun b ⟨n, mo, _, e1, e2⟩ => F.sto.hid n b mo e1 e2, x.nf, x.mx, x.te, F.ss x, hlen, rfl, rfl⟩
theorem Nx.of_kp (F : Fm c (FrA A) ns env st fe H s.heap) (hlen : st.ρ.length = ns.length) (k : Kp A s s₁) : Nx c A ns env fe st H s st H s₁ := .of_ss F hlen (.of_kp k F.sto F.hlt)
theorem Nx.of_kt (F : Fm c (FrA A) ns env st fe H s.heap) (hlen : st.ρ.length = ns.length) (k : Kt A H s H₁ s₁) : Nx c A ns env fe st H s st H₁ s₁ := .of_ss F hlen (.of_kt k F.sto F.hlt)
theorem Nx.vis (x : Nx c A ns env fe st H s st₁ H₁ s₁) : (vis s.heap H).Le (Mine.vis s₁.heap H₁) := ⟨by
  rintro b cc d ⟨nb, o, e, rr⟩
  obtain ⟨_, o₂, p2, rr₂⟩ := (x.kv.vis (H := H) fun _ z => z).r b cc d ⟨nb, o, e, rr⟩
  refine ⟨fun z => ?_, o₂, p2, rr₂⟩
  rcases x.hid b z with z | z
  · exact nb z
  · (rw [e] at z; cases z), x.mx, x.te⟩
end

/-- how the caller sees what has come back -/
noncomputable def retH (fe : FE) (n0 : Nat) (H' : Hd) : Hd := ⟨fun b => fe.H.p b ∨ ∃ n, n0 ≤ n ∧ H'.m n = some b, H'.m, fe.H.o, H'.t⟩
/-- what comes back -/
structure Rt (c : Cx) (A : Around) (ns : List Str) (env : Env) (fe : FE) (st : Fs) (H : Hd) (s : Shared) (σ' : Store) (w : Value) (v : AV) (s' : Shared) : Prop where
  rest : ∃ h' tk, s' = { s with heap := h', toks := tk }
  lv : ∀ b o, s.heap.get? b = some o → ∃ o', s'.heap.get? b = some o'
  back : ∃ st' H', Nf H s H' s' ∧ st'.σ = σ' ∧ st'.n0 = st.n0 ∧ st'.lo = st.lo ∧ Fm c (FrA A) ns env st' fe H' s'.heap ∧ Rep (vis s'.heap (retH fe st.n0 H')) w v

noncomputable def PostS (c : Cx) (q : Bool) (A : Around) (ns : List Str) (env : Env) (fe : FE) (st : Fs) (H : Hd) (fr : FR) (s : Shared) (Q : Flow → Shared → Prop) (E : Value → Shared → Prop) : Prop :=
  match fr with
  | .next st' => ∀ H' s', Nx c A ns env fe st H s st' H' s' → Q .next s'
  | .brk st' => ∀ H' s', Nx c A ns env fe st H s st' H' s' → Q .brk s'
  | .cont st' => ∀ H' s', Nx c A ns env fe st H s st' H' s' → Q .cont s'
  | .ret v σ' => ∀ w s', Rt c A ns env fe st H s σ' w v s' → Q (.ret w) s'
  | .exc x st' => q = true ∧ ∀ H' sr e s', Nx c A ns env fe st H s st' H' sr → Xp A sr s' e x → E e s'
  | .stuck => False

section
variable {c : Cx} {q : Bool} {A : Around} {ns : List Str} {env : Env} {fe : FE} {st st₁ : Fs} {H H₁ : Hd} {s s₁ : Shared} {fr : FR} {Q : Flow → Shared → Prop} {E : Value → Shared → Prop}
theorem Rt.nx {s' : Shared} {σ' : Store} {w : Value} {v : AV} (y : Rt c A ns env fe st₁ H₁ s₁ σ' w v s') (x : Nx c A ns env fe st H s st₁ H₁ s₁) : Rt c A ns env fe st H s σ' w v s' where
  rest := by
    obtain ⟨h, t, rfl⟩ := x.rest
    obtain ⟨h', t', rfl⟩ := y.rest
    exact ⟨h', t', rfl⟩
  lv := fun b o e => let ⟨o', e'⟩ := x.lv b o e; y.lv b o' e'
  back := by
    obtain ⟨st', H', nf, h1, h2, h3, h4, h5⟩ := y.back
    exact ⟨st', H', x.nf.trans nf, h1, h2.trans x.n0, h3.trans x.lo, h4, by rw [← x.n0]; exact h5⟩
theorem PostS.nx (P : PostS c q A ns env fe st H fr s Q E) (x : Nx c A ns env fe st H s st₁ H₁ s₁) : PostS c q A ns env fe st₁ H₁ fr s₁ Q E := by
  cases fr with
  | next st' => exact fun H' s' y => P H' s' (x.trans y)
  | brk st' => exact fun H' s' y => P H' s' (x.trans y)
  | cont st' => exact fun H' s' y => P H' s' (x.trans y)
  | ret v σ => exact fun w s' y => P w s' (y.nx x)
  | exc x' st' => exact ⟨P.1, fun H' sr e s' y => P.2 H' sr e s' (x.trans y)⟩
  | stuck => exact P.elim
/-- a value comes back -/
theorem Fm.rt {w : Value} {v : AV} (F : Fm c (FrA A) ns env st fe H s.heap) (r : Rep (vis s.heap H) w v) : Rt c A ns env fe st H s st.σ w v s :=
  ⟨⟨_, _, rfl⟩, fun b o e => ⟨o, e⟩, st, H, Nf.same (fun b o e n => ⟨o, e, n⟩) (Nat.le_refl _), rfl, rfl, rfl, F, Rep.mono (vis_hide (H := retH fe st.n0 H) (H' := H) (fun b z => by
    rcases z with z | ⟨n, _, e⟩
    · exact F.hle b z
    · exact F.sto.hidden e) (fun _ _ e => e) fun _ _ e => e) r⟩
/-- the result of an expression in a statement -/
theorem PostS.resK {r : ER} {f : AV → Fs → FR} {t : Sem Value} {Q' : Value → Shared → Prop} (F : Fm c (FrA A) ns env st fe H s.heap) (hlen : st.ρ.length = ns.length) (X : Ev c q A st.lo st.σ H t r s) (P : PostS c q A ns env fe st H (resS r st f) s Q E)
    (h : ∀ v σ₁, r = .ok (.av v) σ₁ → ∀ w H₁ s₁, Nx c A ns env fe st H s (st.at σ₁) H₁ s₁ → Rep (vis s₁.heap H₁) w v → PostS c q A ns env fe (st.at σ₁) H₁ (f v (st.at σ₁)) s₁ Q E → Q' w s₁) : wpAny c.M A t Q' E s := by
  cases r with
  | stuck => exact P.elim
  | exc x σ₁ => exact X _ _ ⟨P.1, fun e H' sr s' x Y => P.2 H' sr e s' (.of_ss F hlen x) Y⟩
  | ok v σ₁ =>
    cases v with
    | own i => exact P.elim
    | av v => exact X _ _ fun w H₁ s₁ x r => h v σ₁ rfl w H₁ s₁ (.of_ss F hlen x) r (PostS.nx (fr := f v (st.at σ₁)) P (.of_ss F hlen x))
end

/-- a statement does what is told -/
noncomputable def StOk (c : Cx) (q : Bool) (k : Nat) (ns : List Str) (env : Env) (st : Fs) (t : Sem Flow) (fr : FR) : Prop :=
  ∀ A s fe H, Rm c q (k + 1) A H s → (∃ outer, A.frames = some (env :: outer)) → Fm c (FrA A) ns env st fe H s.heap → st.ρ.length = ns.length → ∀ Q E, PostS c q A ns env fe st H fr s Q E → wpAny c.M A t Q E s

theorem nameAt_of {ks : List (Str × NameKind)} {ns : List Str} {i : Nat} {x : Str} {env : Env} (hks : env.scope.names = ks) (h : nameAt ks ns i x = true) :
    ns[i]? = some x ∧ (env.kindOf x = some .local ∨ env.kindOf x = some .cell) ∧ OneName ns i x := by
  simp only [nameAt, Bool.and_eq_true, Bool.or_eq_true, beq_iff_eq, List.all_eq_true, List.mem_range, Bool.not_eq_true', beq_eq_false_iff_ne] at h
  obtain ⟨⟨h1, h2⟩, h3⟩ := h
  refine ⟨h1, ?_, fun j hj => ?_⟩
  · show env.scope.names.lookup x = _ ∨ env.scope.names.lookup x = _
    rw [hks]; exact h2
  · have hlt : j < ns.length := by
      rcases Nat.lt_or_ge j ns.length with h | h
      · exact h
      · rw [List.getElem?_eq_none h] at hj; cases hj
    exact (h3 j hlt).resolve_right fun n => n hj

theorem swaps_no {e : PE} {frees : List Str} {fname : Nat → Str} {ks : List (Str × NameKind)} {ns : List Str} {ex : Expr} (h : encE frees fname ks ns e ex = true) (hc : isComp e = false) (t : Option Expr) (l : Nat) (env : Env) : swapsWith ex t l env = pure false := by
  cases ex <;> first | rfl | (cases e <;> first | exact (Bool.false_ne_true h).elim | exact (Bool.false_ne_true hc.symm).elim)

section
variable {c : Cx} {A : Around} {ns : List Str} {env : Env} {fe : FE} {st st₁ : Fs} {H H₁ : Hd} {s s₁ s₂ : Shared}

theorem nx_store {i : Nat} {x : Str} {v : Value} {av : AV} {Q : Unit → Shared → Prop} {E : Value → Shared → Prop} (N : Nx c A ns env fe st H s st₁ H₁ s₁) (hx : ns[i]? = some x) (hnd : OneName ns i x)
    (hk : env.kindOf x = some .local ∨ env.kindOf x = some .cell) (r : Rep (vis s₁.heap H₁) v av) (h : ∀ s', Nx c A ns env fe st H s (st₁.set i (.val av)) H₁ s' → Nx c A ns env fe st₁ H₁ s₁ (st₁.set i (.val av)) H₁ s' → Q () s') : wpAny c.M A (storeName env x v) Q E s₁ := by
  refine wp_store (t := .val av) N.fm hx hnd hk r fun h' tk F' kv nf _ => ?_
  have N₁ : Nx c A ns env fe st₁ H₁ s₁ (st₁.set i (.val av)) H₁ { s₁ with heap := h', toks := tk } := ⟨⟨_, _, rfl⟩, fun b o e => by
    by_cases hb : H₁.p b
    · exact F'.hlt b hb
    · obtain ⟨sl, q⟩ := (kv b o hb e).2; exact ⟨_, q⟩, fun _ z => .inl z, kv, nf, fun _ _ e => e, fun _ _ e => e, F', by simpa using N.len, rfl, rfl⟩
  exact h _ (N.trans N₁) N₁

theorem nx_own {i : Nat} {x : Str} {xs : List AV} {vs : List Value} {a : Addr} {Q : Unit → Shared → Prop} {E : Value → Shared → Prop} (N : Nx c A ns env fe st H s st₁ H₁ s₁) (k : Kp A s₁ s₂) (hx : ns[i]? = some x) (hnd : OneName ns i x)
    (hk : env.kindOf x = some .local ∨ env.kindOf x = some .cell) (hz : xs.length ≤ 1048576) (hnew : s₁.heap.get? a = none) (hl : IsL s₂.heap a vs) (r : RepL (vis s₁.heap H₁) vs xs)
    (h : ∀ H' s', Nx c A ns env fe st H s (st₁.set i (.own xs)) H' s' → Q () s') : wpAny c.M A (storeName env x (.ref a)) Q E s₂ := by
  have F₁ := N.fm.putO (i := i) k.kh hnew hl
  have hN : ∀ b, (H₁.putO i a).p b → H₁.p b ∨ s₁.heap.get? b = none := fun b z => z.imp id fun (z : b = a) => z ▸ hnew
  have N₁ : Nx c A ns env fe st₁ H₁ s₁ { st₁ with ρ := st₁.ρ.set i none } (H₁.putO i a) s₂ := ⟨let ⟨h, t, e, _⟩ := k; ⟨h, t, e⟩, fun b o e => let ⟨_, q⟩ := (k.kh b o e).2; ⟨_, q⟩, hN, k.kh.kv, ⟨k.kh.nh, k.tk, Td.le (H := H₁) k.tk⟩, fun _ _ e => e, fun _ _ e => e, F₁, by simpa using N.len, rfl, rfl⟩
  refine wp_store (t := .own xs) F₁ hx hnd hk ⟨hz, a, vs, rfl, if_pos rfl, hl, RepL.mono (vis_new k.kh hN (fun _ _ e => e) fun _ _ e => e) r⟩ fun h' tk F' kv nf _ => ?_
  have e : ({ st₁ with ρ := st₁.ρ.set i none } : Fs).set i (.own xs) = st₁.set i (.own xs) := by simp [Fs.set]
  have F'' : Fm c (FrA A) ns env (st₁.set i (.own xs)) fe (H₁.putO i a) h' := by rw [← e]; exact F'
  refine h _ _ ((N.trans N₁).trans ⟨⟨_, _, rfl⟩, fun b o e => ?_, fun _ z => .inl z, kv, nf, fun _ _ e => e, fun _ _ e => e, F'', by simpa using N.len, rfl, rfl⟩)
  by_cases hb : (H₁.putO i a).p b
  · exact F''.hlt b hb
  · obtain ⟨sl, q⟩ := (kv b o hb e).2; exact ⟨_, q⟩

/-- an own list turned -/
theorem nx_turn {i : Nat} {a : Addr} {vs' : List Value} {xs xs' : List AV} {h' : Heap} {tk : Nat} (N : Nx c A ns env fe st H s st₁ H₁ s₁) (hle : s₁.toks ≤ tk) (hr : st₁.ρ[i]? = some (some (.own xs))) (ho : H₁.o i = some a) (hl : IsL h' a vs') (hz : xs'.length ≤ 1048576) (r : RepL (vis s₁.heap H₁) vs' xs') (hs : Heap.SameBut a s₁.heap h') :
    Nx c A ns env fe st H s (st₁.set i (.own xs')) H₁ { s₁ with heap := h', toks := tk } := by
  have F₂ := fm_own N.fm ho ⟨xs, hr⟩ hs hl hz r
  obtain ⟨hH, _⟩ := N.fm.own i a ho
  refine N.trans ⟨⟨_, _, rfl⟩, fun b o e => ?_, fun _ z => .inl z, Kv.of_sameBut hs hH, Nf.same (fun b o e nf => ?_) hle, fun _ _ e => e, fun _ _ e => e, F₂, by simpa using N.len, rfl, rfl⟩
  · by_cases hb : b = a
    · obtain ⟨o', _, e', _⟩ := hl; exact ⟨o', hb ▸ e'⟩
    · exact ⟨o, (hs.2 b hb).trans e⟩
  · by_cases hb : b = a
    · obtain ⟨o', _, e', _, d', _⟩ := hl; exact ⟨o', hb ▸ e', fun vs z => by rw [d'] at z; cases z⟩
    · exact ⟨o, (hs.2 b hb).trans e, nf⟩
end
end Mine
end
section
open PySem PySem.W PyProof.Rows PySem.Calls
namespace Mine
set_option maxRecDepth 100000
set_option linter.unusedVariables false
noncomputable def MO.isItr : MO → Bool
  | .itr _ _ => true
  | .tab _ _ => true
  | _ => false
theorem RepM.notFields {h : Heap} {R : Vw} {a : Addr} : ∀ {mo : MO}, mo.isItr = false → RepM h R a mo → ∃ o, h.get? a = some o ∧ ∀ vs, o.data ≠ .fields vs
  | .lst _, _, ⟨_, _, ⟨o, n, e, _, d, _⟩, _⟩ => ⟨o, e, fun _ z => by (rw [d] at z; cases z)⟩
  | .set _, _, ⟨o, es, ep, t, e, _, _, d, _⟩ => ⟨o, e, fun _ z => by (rw [d] at z; cases z)⟩
  | .itr _ _, h, _ => by cases h
  | .tab _ _, h, _ => by cases h
theorem RepM.isFields {h : Heap} {R : Vw} {a : Addr} : ∀ {mo : MO}, mo.isItr = true → RepM h R a mo → ∃ o fs, h.get? a = some o ∧ o.data = .fields fs
  | .lst _, h, _ => by cases h
  | .set _, h, _ => by cases h
  | .tab _ _, _, ⟨_, ps, g, _⟩ => ⟨_, ps, g, rfl⟩
  | .itr k _, _, r => by
    obtain ⟨o, e, _, r⟩ := r
    cases k with
    | list => rcases r with ⟨_, t, d⟩ | ⟨l, vs, n, i, d, _⟩ <;> exact ⟨o, _, e, d⟩
    | tuple => rcases r with ⟨_, t, d⟩ | ⟨l, vs, n, i, d, _⟩ <;> exact ⟨o, _, e, d⟩
    | range =>
      obtain ⟨cur, left, st, it, _⟩ := r
      exact ⟨_, _, it, rfl⟩
/-- a thing of the store is written -/
theorem write_ssX {A : Around} {lo : Nat} {σ : Store} {H : Hd} {s : Shared} {h' : Heap} {n : Nat} {a : Addr} {mo mo₀ : MO} {tk : Nat} (S : Sto σ H s.heap) (L : Live H s.heap) (hs : σ[n]? = some (some mo₀)) (hm : H.m n = some a) (hlo : lo ≤ n) (sb : ∀ b o, b ≠ a → s.heap.get? b = some o → h'.get? b = some o) (r : RepM h' (vis h' H) a mo) (hk : mo.isItr = mo₀.isItr) (hle : s.toks ≤ tk) :
    Ss A lo σ H s (σ.set n (some mo)) H { s with heap := h', toks := tk } := by
  have hn : n < σ.length := S.lt n a hm
  have le : (vis s.heap H).Le (vis h' H) := (Kv.of_but (F := fun _ => False) (W := fun b => b = a) sb rfl).vis fun b z => z ▸ S.hidden hm
  have al : ∀ b o, s.heap.get? b = some o → ∃ o', h'.get? b = some o' := fun b o e => by
    by_cases hb : b = a
    · obtain ⟨o', e', _⟩ := r.data; exact ⟨o', hb ▸ e'⟩
    · exact ⟨o, sb b _ hb e⟩
  have gs : ∀ (i : Nat) mo', (σ.set n (some mo))[i]? = some (some mo') → (i = n ∧ mo' = mo) ∨ (i ≠ n ∧ σ[i]? = some (some mo')) := fun i mo' e => by
    rw [List.getElem?_set] at e
    split at e
    · rename_i h
      subst h
      first
        | (simp at e; exact .inl ⟨rfl, e.symm⟩)
        | (split at e
           · simp at e; exact .inl ⟨rfl, e.symm⟩
           · cases e)
    · rename_i h; exact .inr ⟨Ne.symm h, e⟩
  exact {
    rest := ⟨h', tk, rfl⟩
    kv := Kv.of_but sb ⟨n, mo₀, hlo, hs, hm⟩
    lv := al
    te := fun _ _ e => e
    nf := Nf.same (fun b o e nf => by
      by_cases hb : b = a
      · subst hb
        obtain ⟨b', e1, r1⟩ := S.at' n _ hs
        rw [hm] at e1; cases e1
        cases hi : mo₀.isItr with
        | true =>
          obtain ⟨o', fs, e2, d2⟩ := r1.isFields hi
          rw [e] at e2; cases e2
          exact absurd d2 (nf _)
        | false => rw [hi] at hk; exact r.notFields hk
      · exact ⟨o, sb b _ hb e, nf⟩) hle
    hp := fun _ z => z
    hid := fun _ z => .inl z
    mx := fun _ _ z => z
    mn := fun _ _ z => .inl z
    o := rfl
    sto := ⟨fun i mo' e => by
        rcases gs i mo' e with ⟨rfl, rfl⟩ | ⟨ne, e⟩
        · exact ⟨a, hm, r⟩
        · obtain ⟨b, e1, r1⟩ := S.at' i mo' e
          exact ⟨b, e1, r1.kv (Kv.of_but (F := fun _ => False) (W := fun b => b = a) sb rfl) (fun (z : b = a) => ne (S.inj i n b e1 (by rw [z]; exact hm))) le⟩, S.inj, fun i b e => by rw [List.length_set]; exact S.lt i b e, fun i b mo' _ e => S.hidden e, fun i b e => by
        obtain ⟨o, e'⟩ := S.al i b e; exact al b o e', fun i b e => by
        by_cases hi : i = n
        · subst hi; exact ⟨mo, by simp [hn]⟩
        · obtain ⟨mo', e'⟩ := S.tot i b e
          exact ⟨mo', by rw [List.getElem?_set_ne (Ne.symm hi)]; exact e'⟩⟩
    live := fun b z => by obtain ⟨o, e⟩ := L b z; exact al b o e
    len := by simp
    rv := fun i mo' _ e => by
      rcases gs i mo' e with ⟨rfl, _⟩ | ⟨_, e⟩
      · exact ⟨_, hs⟩
      · exact ⟨_, e⟩
    hm0 := S.lt }

section
variable {prog : Program} {w : World} {A : Around} {E : Value → Shared → Prop} {s : Shared}
end

noncomputable def rangeL (a b s : Int) : List AV := (List.range (Builtin.Range.rangeSize a b s).toNat).map fun (i : Nat) => .int (a + i * s)
section
variable {prog : Program} {w : World} {A : Around} {E : Value → Shared → Prop} {s : Shared}
end
section
variable {c : Cx} {A : Around} {s : Shared} {H : Hd} {lo : Nat} {σ : Store} {E : Value → Shared → Prop}
end

section
variable {prog : Program} {w : World} {A : Around} {E : Value → Shared → Prop} {s : Shared}
end
theorem IK.next : ∀ k : IK, ∃ id, typeLookup (.type k.cls) "__next__" = pure (some (.builtin id))
  | .list => ⟨_, slot_listiter_next.lookup⟩
  | .tuple => ⟨_, PySem.F.slot_tuple_iterator_next.lookup⟩
  | .range => ⟨_, PySem.F.slot_range_iterator_next.lookup⟩
section
variable {c : Cx} {k : Nat} {A : Around} {s : Shared} {H : Hd} {lo : Nat} {σ : Store} {vs : List Value}
theorem Ss.out {σ' : Store} {H' : Hd} {s s' : Shared} (x : Ss A.in1 lo σ H s σ' H' s') : Ss A lo σ H s σ' H' s' := { x with }
end
end Mine
end
section
open PySem PySem.W PyProof.Rows PySem.Calls
namespace Mine
set_option maxRecDepth 100000
theorem ints_are {R : Vw} : ∀ {xs : List AV} {vs : List Value} {ns : List Int}, ints? xs = some ns → RepL R vs xs → IntsAre vs ns
  | [], [], ns, h, _ => by simp only [ints?, Option.some.injEq] at h; subst h; exact .nil
  | [], _ :: _, _, _, r => by simp [RepL] at r
  | _ :: _, [], _, _, r => by simp [RepL] at r
  | x :: xs, v :: vs, ns, h, r => by
    simp only [RepL] at r
    cases x <;> simp only [ints?, reduceCtorEq] at h
    rename_i i
    simp only [Option.map_eq_some_iff] at h
    obtain ⟨ms, h1, rfl⟩ := h
    obtain ⟨t, e, _⟩ := r.1
    subst e
    exact .cons i t (ints_are h1 r.2)

section
variable {c : Cx} {q : Bool} {k : Nat} {A : Around} {s : Shared} {H : Hd}
/- list(x) -/
end
end Mine
end
section
open PySem PySem.W PyProof.Rows PySem.Calls PySem.MeetsSeq
namespace Mine
set_option maxRecDepth 100000
set_option linter.unusedVariables false
/- list(range(..)), with the marks of its ints -/
noncomputable def accR (a st : Int) (t₀ i : Nat) : List Value := (List.range i).map fun (j : Nat) => .int (a + (j : Int) * st) (t₀ + j)
theorem accR_succ (a st : Int) (t₀ i : Nat) : accR a st t₀ (i + 1) = accR a st t₀ i ++ [.int (a + (i : Int) * st) (t₀ + i)] := by
  simp [accR, List.range_succ]
theorem accR_len (a st : Int) (t₀ i : Nat) : (accR a st t₀ i).length = i := by simp [accR]
section
variable {prog : Program} {w : World} {A : Around} {E : Value → Shared → Prop} {s : Shared} {R : Result → Shared → Prop}
/-- the loop that fills the list -/
theorem fillR (hh : A.handled = none) {S I : Addr} {a st : Int} {n t₀ : Nat} (hSI : S ≠ I) (hn : n ≤ 1048576) (res : Value) : ∀ (k i : Nat) (h : Heap) (c : Nat), n - i = k → i ≤ n → IsRangeIter h I (a + (i : Int) * st) ((n : Int) - i) st →
    h.get? S = some { cls := .type "list", dict := none, data := .seq (accR a st t₀ i).toArray c, slots := #[] } →
    (∀ h' c', (∀ b o, b ≠ S → b ≠ I → h.get? b = some o → h'.get? b = some o) → h'.get? S = some { cls := .type "list", dict := none, data := .seq (accR a st t₀ n).toArray c', slots := #[] } → R (.ok (.ret res)) { s with heap := h', toks := t₀ + n }) →
    codeAny (model prog w) A (.builtin "list.extend.loop" ⟨[.ref S, .ref I, res], []⟩) R { s with heap := h, toks := t₀ + i } := by
  intro k
  induction k with
  | zero =>
    intro i h c hk hi hit hS hR
    obtain rfl : i = n := by omega
    refine codeAny_builtin F.entry_extend_loop ?_
    rw [Around.under_plainId F.plain_extend_loop _]
    show wpAny _ A.in1 (pyNext (.ref I) >>= _) _ _ _
    refine wpAny_bind (wpAny_pyNext_range_end (A := A.in1) hh hit (by omega) fun h' eb => ?_)
    exact wpAny_pure (hR h' c (fun b o _ hb e => eb b o hb e) (eb S _ hSI hS))
  | succ k ih =>
    intro i h c hk hi hit hS hR
    have hlt : i < n := by omega
    refine codeAny_builtin F.entry_extend_loop ?_
    rw [Around.under_plainId F.plain_extend_loop _]
    show wpAny _ A.in1 (pyNext (.ref I) >>= _) _ _ _
    refine wpAny_bind (wpAny_pyNext_range_item hit (by omega) fun h' hit' sb => ?_)
    have hS' : h'.get? S = _ := (sb.2 S hSI).trans hS
    show wpAny _ A.in1 (updateSeq S (·.push (.int (a + (i : Int) * st) (t₀ + i))) >>= _) _ _ _
    refine wpAny_bind ?_
    refine wpAny_updateSeq hS' rfl (wpAny_pure ⟨plainId_quiet F.plain_extend_loop _, ?_⟩) (by rw [List.size_toArray, accR_len]; exact line_ok (by omega)) (by show ((accR a st t₀ i).toArray.push _).size ≤ sizeLine + 1; rw [Array.size_push, List.size_toArray, accR_len, sizeLine_eq]; omega)
    have hup := Heap.get?_update_self (Obj.mapSeq (·.push (Value.int (a + (i : Int) * st) (t₀ + i)))) hS' rfl
    have e1 : a + (i : Int) * st + st = a + ((i + 1 : Nat) : Int) * st := by rw [Int.natCast_add, Int.add_mul]; omega
    have e2 : (n : Int) - i - 1 = (n : Int) - ((i + 1 : Nat) : Int) := by omega
    rw [e1, e2] at hit'
    have e3 : (accR a st t₀ (i + 1)).toArray = (accR a st t₀ i).toArray.push (.int (a + (i : Int) * st) (t₀ + i)) := by rw [accR_succ, List.push_toArray]
    refine ih (i + 1) _ _ (by omega) hlt ((Heap.get?_update_other _ _ hSI).trans hit') (by rw [e3]; exact hup) fun h'' c'' hk'' hS'' => hR h'' c'' (fun b o hb hb' e => hk'' b o hb hb' ((Heap.get?_update_other _ _ (Ne.symm hb)).trans ((sb.2 b hb').trans e))) hS''
end

/- list.remove of an int -/
theorem remove_loopW (l : Addr) (items : Array Value) (n : Nat) (os : Array (Option Value)) (x : Value) (e : Value → Bool) (he : ∀ y, y ∈ items → EqGives y x (e y)) (j : Nat) (hj : j < items.size) (hit : e items[j] = true) (k : Nat) (hs1 : items.size ≤ sizeLine) :
    ∀ i : Nat, j - i = k → i ≤ j → (∀ m (hm : m < items.size), i ≤ m → m < j → e items[m] = false) → Meets (Builtin.«list.remove.loop» ⟨[.ref l, x, rawInt i], []⟩)
      (fun _ R s => s.heap.get? l = some { cls := .type "list", dict := none, data := .seq items n, slots := os } ∧ R (.ok (.ret .none)) { s with heap := s.heap.update l (Obj.mapSeq fun xs => xs.eraseIdxIfInBounds j) }) := by
  induction k with
  | zero =>
    intro i hk hij hno prog w A R s h
    obtain ⟨hp, g, d, tk, os'⟩ := s; obtain ⟨hl, h⟩ := h
    have hij' : i = j := by omega
    subst hij'
    wp_walk using AutoSeq1.wpAny_loadPart' hl
    have hi : items[((i : Nat) : Int).toNat]? = some items[i] := by simp [hj]
    rw [hi]
    refine wpAny_bind (he _ (Array.getElem_mem hj) prog w _ _ _ _ ?_)
    rw [hit]
    have hz' : (items.eraseIdxIfInBounds i).size ≤ sizeLine + 1 := Nat.le_trans (size_erased items _) (Nat.le_succ_of_le hs1)
    wp_walk using (wpAny_updateSeq hl rfl (hz := hs1) (_hz' := hz')), AutoSeq1.wpAny_loadPart' hl
    simpa using h
  | succ k ih =>
    intro i hk hij hno prog w A R s h
    obtain ⟨hp, g, d, tk, os'⟩ := s; obtain ⟨hl, h⟩ := h
    have hlt : i < items.size := by omega
    wp_walk using AutoSeq1.wpAny_loadPart' hl
    have hi : items[((i : Nat) : Int).toNat]? = some items[i] := by simp [hlt]
    have hc : ((i : Int) + 1) = ((i + 1 : Nat) : Int) := by push_cast; rfl
    rw [hi]
    refine wpAny_bind (he _ (Array.getElem_mem hlt) prog w _ _ _ _ ?_)
    rw [hno i hlt (Nat.le_refl _) (by omega)]
    wp_walk
    rw [hc]
    exact ⟨plainId_quiet plain_remove_loop _, codeAny_builtin entry_remove_loop (by
      rw [Around.under_plainId plain_remove_loop _]
      exact ih (i + 1) (by omega) (by omega) (fun m hm h1 h2 => hno m hm (by omega) h2) prog w A R _ ⟨hl, h⟩)⟩
theorem list_removeW (l : Addr) (items : Array Value) (n : Nat) (os : Array (Option Value)) (x : Value) (e : Value → Bool) (he : ∀ y, y ∈ items → EqGives y x (e y)) (j : Nat) (hj : j < items.size) (hit : e items[j] = true) (hno : ∀ m (hm : m < items.size), m < j → e items[m] = false) (hs1 : items.size ≤ sizeLine) :
    Meets (Builtin.«list.remove» ⟨[.ref l, x], []⟩)
      (fun _ R s => s.heap.get? l = some { cls := .type "list", dict := none, data := .seq items n, slots := os } ∧ R (.ok (.ret .none)) { s with heap := s.heap.update l (Obj.mapSeq fun xs => xs.eraseIdxIfInBounds j) }) := by
  intro prog w A R s h
  obtain ⟨hp, g, d, tk, os'⟩ := s; obtain ⟨hl, h⟩ := h
  wp_walk using AutoSeq1.wpAny_loadPart' hl
  exact ⟨plainId_quiet plain_remove_loop _, codeAny_builtin entry_remove_loop (by
    rw [Around.under_plainId plain_remove_loop _]
    exact remove_loopW l items n os x e he j hj hit _ hs1 0 rfl (Nat.zero_le _) (fun m hm _ h2 => hno m hm h2) prog w A R _ ⟨hl, h⟩)⟩
noncomputable def intIs (x : Int) : Value → Bool
  | .int i _ => i == x
  | _ => false
theorem list_removeI {prog : Program} {w : World} {A : Around} {E : Value → Shared → Prop} {s : Shared} {l : Addr} {vs : List Value} {ns : List Int} {x : Int} {u : Tok} {Q : Value → Shared → Prop} (hsz : vs.length ≤ 1048576) (hl : IsL s.heap l vs) (hI : IntsAre vs ns) (hx : x ∈ ns)
    (hQ : ∀ h', IsL h' l (vs.eraseIdx (ns.idxOf x)) → Heap.SameBut l s.heap h' → Q .none { s with heap := h' }) : wpAny (model prog w) A (call (.builtin "list.remove") [.ref l, .int x u]) Q E s := by
  obtain ⟨⟨oc, od, odt, os⟩, n, ho, hc, hd, hn⟩ := id hl
  simp only at hc hd hn
  subst hc hd hn
  have hlen : vs.length = ns.length := hI.length
  have hj : ns.idxOf x < ns.length := List.idxOf_lt_length_of_mem hx
  have each : ∀ (m : Nat) (hm : m < vs.length), ∃ t, vs[m] = .int (ns[m]'(by omega)) t := by
    clear hx hj hQ hl ho hsz
    induction hI with
    | nil => intro m hm; exact absurd hm (Nat.not_lt_zero _)
    | cons i t _ ih =>
      intro m hm
      cases m with
      | zero => exact ⟨t, rfl⟩
      | succ m => exact ih (by simpa using hlen) m (by simpa using hm)
  have he : ∀ y, y ∈ vs.toArray → EqGives y (.int x u) (intIs x y) := fun y hy => by
    obtain ⟨m, hm, rfl⟩ := List.getElem_of_mem (List.mem_toArray.mp hy)
    obtain ⟨t, e⟩ := each m hm
    rw [e]
    exact EqGives.int _ _ _ _
  have hit : intIs x (vs.toArray[ns.idxOf x]'(by rw [List.size_toArray]; omega)) = true := by
    obtain ⟨t, e⟩ := each (ns.idxOf x) (by omega)
    simp only [List.getElem_toArray, e, intIs, beq_iff_eq]
    exact List.getElem_idxOf hj
  have hno : ∀ m (hm : m < vs.toArray.size), m < ns.idxOf x → intIs x vs.toArray[m] = false := fun m hm hlt => by
    obtain ⟨t, e⟩ := each m (by simpa using hm)
    simp only [List.getElem_toArray, e, intIs, beq_eq_false_iff_ne]
    exact fun z => absurd (List.not_of_lt_findIdx (p := (· == x)) hlt) (by simpa using z)
  refine call_meets F.slot_list_remove ⟨_, ho, rfl⟩ F.entry_list_remove (F.args_list_remove_2 _ _) (list_removeW l vs.toArray n os (.int x u) (intIs x) he (ns.idxOf x) (by rw [List.size_toArray]; omega) hit hno (by rw [List.size_toArray]; exact line_ok (by omega))) ⟨ho, ?_⟩
  have hd : ({ cls := .type "list", dict := none, data := .seq vs.toArray n, slots := os } : Obj).data = .seq vs.toArray n := rfl
  obtain ⟨n', hd'⟩ := Obj.data_mapSeq hd fun xs => xs.eraseIdxIfInBounds (ns.idxOf x)
  refine hQ _ ⟨_, n', Heap.get?_update_self _ ho (Obj.isFreed_of_seq hd'), Obj.cls_mapSeq .., ?_, rfl⟩ (Heap.SameBut.update ..)
  rw [hd']
  congr 1
  rw [Array.eraseIdxIfInBounds, dif_pos (by rw [List.size_toArray]; omega)]
  simp
section
variable {c : Cx} {q : Bool} {k : Nat} {A : Around} {s : Shared} {H : Hd}
/- list(x), also of a range -/
end
end Mine
end
section
open PySem PySem.W PyProof.Rows PySem.Calls
namespace Mine
set_option maxRecDepth 100000
set_option linter.unusedVariables false
section
variable {c : Cx} {k : Nat} {A : Around} {s : Shared} {H : Hd}
/-- len of a thing without places -/
theorem len_te {v : Value} {T : String} (hm : Rm c true k A H s) (hT : s.TypeIs v T) (hn : typeLookup (.type T) "__len__" = pure none) (hb : (Value.type T == Value.type "builtin_function_or_method") = false) (hl : ((s!"object of type '{shownName T}' has no len()" : String) : Str).length ≤ sizeLine) :
    Tr c true A H (PySem.call (.builtin "len") [v]) (.exc .te) s := fun Q E P => by
  refine wpAny_up ?_
  refine call_function_entry kind_len plain_len entry_len (args_len1 _) ?_
  unfold Builtin.«len»
  refine wpAny_bind (m := oneArg "len" _) (wpAny_pure ?_)
  refine wpAny_bind (m := callSpecial? v (Str.ofString "__len__")) ?_
  unfold callSpecial?
  refine wpAny_bind (wpAny_specialOf hT hn (wpAny_pure ?_))
  refine wpAny_bind (wpAny_rule (wpAny_bind (wpAny_typeNameOf' hT hb ?_)))
  have h := post_raise (Q' := Q) hm P
  exact wpAny_raiseErrorMade plainExc_TypeError h.1 h.2 hl
theorem nl_li : typeLookup (.type "list_iterator") "__len__" = pure none := by rw [typeLookup_type, builtinLookup_eq_fast]; kernel_rfl
theorem nl_ti : typeLookup (.type "tuple_iterator") "__len__" = pure none := by rw [typeLookup_type, builtinLookup_eq_fast]; kernel_rfl
theorem nl_ri : typeLookup (.type "range_iterator") "__len__" = pure none := by rw [typeLookup_type, builtinLookup_eq_fast]; kernel_rfl
theorem len_msg : ∀ T ∈ ["list_iterator", "tuple_iterator", "range_iterator"], ((s!"object of type '{shownName T}' has no len()" : String) : Str).length ≤ sizeLine := by decide +kernel
theorem len_itr {I : Addr} {ik : IK} {xs : List AV} {R : Vw} (hm : Rm c true k A H s) (h : IsI s.heap R I ik xs) : Tr c true A H (PySem.call (.builtin "len") [.ref I]) (.exc .te) s := by
  obtain ⟨o, e, cc, _⟩ := h
  cases ik with
  | list => exact len_te (T := "list_iterator") hm ⟨o, e, cc⟩ nl_li (by decide) (len_msg _ (by decide))
  | tuple => exact len_te (T := "tuple_iterator") hm ⟨o, e, cc⟩ nl_ti (by decide) (len_msg _ (by decide))
  | range => exact len_te (T := "range_iterator") hm ⟨o, e, cc⟩ nl_ri (by decide) (len_msg _ (by decide))
/- what an iterator tells -/
/- a class's attribute -/
end
end Mine
end
section
open PySem PySem.W PyProof.Rows PySem.Calls
namespace Mine
set_option maxRecDepth 100000
set_option linter.unusedVariables false
/- x is y or x == y -/
noncomputable def isEqV (a b : AV) : Option Bool := two AV.int? a b (fun x y => if x = y ∧ smallInt x = false then none else some (x == y)) (two AV.lst? a b (fun x y => eqCmp .Eq (.lst x) (.lst y)) none)
section
variable {c : Cx} {q : Bool} {k : Nat} {A : Around} {s : Shared} {H : Hd}
theorem isSame_ints {M : Model} {E : Value → Shared → Prop} {x y : Int} {t u : Tok} (ra : Rep (vis s.heap H) (.int x t) (.int x)) (rb : Rep (vis s.heap H) (.int y u) (.int y)) (h : ¬ (x = y ∧ smallInt x = false)) (Q : Bool → Shared → Prop) (hQ : Q (x == y) s) : wpAny M A (isSame (.int x t) (.int y u)) Q E s := by
  simp only [Rep] at ra rb
  obtain ⟨t', e1, t0, ht⟩ := ra
  obtain ⟨u', e2, u0, hu⟩ := rb
  cases e1; cases e2
  have z : (t == 0 || u == 0) = false := by simp [t0, u0]
  by_cases hxy : x = y
  · subst hxy
    have hs : smallInt x = true := by
      cases e : smallInt x with
      | true => rfl
      | false => exact absurd ⟨rfl, e⟩ h
    show wpAny M A (if (x == x && smallInt x) = true then isSame.cachedInt t u else isSame.created (x == x) t u) _ _ _
    rw [if_pos (by simp [hs])]
    unfold isSame.cachedInt
    rw [if_neg (by rw [z]; exact Bool.false_ne_true)]
    exact wpAny_bind (wpAny_rule (wpAny_pure (by simpa using hQ)))
  · have ne : (x == y) = false := by simpa using hxy
    have htu : (t == u) = false := beq_eq_false_iff_ne.mpr fun e => by
      subst e
      rw [ht] at hu
      exact hxy (Option.some.inj hu)
    rw [ne] at hQ
    show wpAny M A (if (x == y && smallInt x) = true then isSame.cachedInt t u else isSame.created (x == y) t u) _ _ _
    rw [if_neg (by rw [ne]; exact Bool.false_ne_true)]
    unfold isSame.created
    rw [ne, z, htu]
    exact wpAny_pure hQ
theorem isEqV_ok {a b : AV} {va vb : Value} {r : Bool} (hm : Rm c q (k + 1) A H s) (hL : Live H s.heap) (ra : RepO s.heap H va a) (rb : RepO s.heap H vb b) (h : isEqV a b = some r) :
    ∃ i, Tr c q A H (compareOp .Is va vb) (.ok (.bool i)) s ∧ (i = true → r = true) ∧ ∀ s', Kp A s s' → Tr c q A H (compareOp .Eq va vb) (.ok (.bool r)) s' := by
  revert h
  refine two_cases (P := fun o => o = some r → _) (fun x y ea eb h => ?_) (two_cases (P := fun o => o = some r → _) (fun x y ea eb h => ?_) nofun)
  · split at h
    · cases h
    rename_i hn
    cases h
    have hc : eqCmp .Eq a b = some (x == y) := by rw [int?_eq ea, int?_eq eb]; rfl
    have T2 : ∀ s', Kp A s s' → Tr c q A H (compareOp .Eq va vb) (.ok (.bool (x == y))) s' := fun s' k' => eqCmp_ok (hm.kp k') hc (ra.kp k') (rb.kp k')
    rw [int?_eq ea] at ra
    rw [int?_eq eb] at rb
    obtain ⟨t, rfl, hta⟩ := id ra
    obtain ⟨u, rfl, htb⟩ := id rb
    exact ⟨x == y, by simpa using is_of (c := c) (q := q) (H := H) (op := .Is) (b := x == y) (fun Q' hq => isSame_ints ra rb hn Q' hq) (.inl rfl), id, T2⟩
  · have hc : eqCmp .Eq a b = some r := by rw [lst?_eq ea, lst?_eq eb]; exact h
    have T2 : ∀ s', Kp A s s' → Tr c q A H (compareOp .Eq va vb) (.ok (.bool r)) s' := fun s' k' => eqCmp_ok (hm.kp k') hc (ra.kp k') (rb.kp k')
    rw [lst?_eq ea] at ra
    rw [lst?_eq eb] at rb
    obtain ⟨hz, l, vs, rfl, hl, rl⟩ := id ra
    obtain ⟨hz', l', vs', rfl, hl', rl'⟩ := id rb
    by_cases e : l = l'
    · subst e
      refine ⟨true, by simpa using is_of (c := c) (q := q) (H := H) (op := .Is) (b := true) (fun Q' hq => wpAny_isSame_ref_self hq) (.inl rfl), fun _ => ?_, T2⟩
      obtain ⟨o, n, e1, c1, d1, _⟩ := hl
      obtain ⟨o', n', e1', c1', d1', _⟩ := hl'
      rw [e1] at e1'; cases e1'
      rw [d1] at d1'
      have hv : vs = vs' := by injection d1' with h1; exact (by simpa using congrArg Array.toList h1)
      subst hv
      have hE : eqL (itm (eqN 2)) x y = some r := h
      rw [eqL, if_pos (rl.length.symm.trans rl'.length)] at hE
      exact allZ_same (itm_same (eqN_same 2)) hE rl rl'
    · obtain ⟨o, n, e1, c1, d1, _⟩ := hl
      obtain ⟨o', n', e1', c1', d1', _⟩ := hl'
      have X := is_of (c := c) (q := q) (A := A) (H := H) (s := s) (va := .ref l) (vb := .ref l') (op := .Is) (b := false) (fun Q' hq => wpAny_isSame_ref_other e e1 e1' (by rw [c1]; simp) hq) (.inl rfl)
      rw [if_pos rfl] at X
      exact ⟨false, X, nofun, T2⟩
end
end Mine
end
section
open PySem PySem.W PyProof.Rows PySem.Calls
namespace Mine
set_option maxRecDepth 100000
set_option linter.unusedVariables false
/- x in an iterator -/
section
variable {c : Cx} {k : Nat} {A : Around} {lo : Nat} {n : Nat} {I : Addr} {ik : IK} {a : AV} {va : Value}
end
end Mine
end
section
open PySem PySem.W PyProof.Rows
namespace Mine

theorem fly_kh {A : Around} {sr s' : Shared} {B h : Heap} {l : List Env} {base : Heap} (hk : Kp A sr s') (hfr : A.frames = some l) (ff : s'.heap.FunFrames base l)
    (hB : ∀ b o, s'.heap.get? b = some o → (∃ o', sr.heap.get? b = some o') → b ∉ l.filterMap (·.frame) → B.get? b = some o) (hst : B.StaysIn h) (hup : s'.heap.UpToSlots h) : Kh (FrA A) sr.heap h := fun b o e => by
  obtain ⟨p1, sl, p2⟩ := hk.kh b o e
  by_cases hb : b ∈ l.filterMap (·.frame)
  · obtain ⟨_, o', e', nf⟩ := ff.mem hb
    rw [p2] at e'; cases e'
    refine ⟨fun n => n.elim (fun n => absurd ⟨l, hfr, hb⟩ n) fun ⟨fs, z⟩ => absurd z (nf fs), ?_⟩
    obtain ⟨sl', q⟩ := hup b _ p2 nf
    exact ⟨sl', q⟩
  · have hF : ¬ FrA A b := fun ⟨l', e1, e2⟩ => by rw [hfr] at e1; cases e1; exact hb e2
    have := hst b o (hB b o (p1 (.inl hF)) ⟨o, e⟩ hb)
    exact ⟨fun _ => this, o.slots, this⟩

/-- an exception that the frame has taken note of -/
noncomputable def Fly (A : Around) (l : List Env) (sr : Shared) (e : Addr) (cls : EX) (s' : Shared) : Prop := ∃ B a0 h tk, s' = { sr with heap := h, toks := tk } ∧ sr.toks ≤ tk ∧ Heap.FlyingW B l e (.type cls.name) a0 h ∧ Kh (FrA A) sr.heap h ∧ (∀ b o, h.get? b = some o → (∃ o', sr.heap.get? b = some o') → b ∉ l.filterMap (·.frame) → B.get? b = some o) ∧ (∀ b, b ∈ l.filterMap (·.frame) → ∃ o, h.get? b = some o ∧ ∀ vs, o.data ≠ .fields vs)

theorem note_land {c : Cx} {A : Around} {sr s' : Shared} {e : Addr} {cls : EX} {env : Env} {outer : List Env} {Lf : Addr} {Q : Unit → Shared → Prop} {E : Value → Shared → Prop} (X : Xp A sr s' (.ref e) cls) (hfr : A.frames = some (env :: outer)) (hf : env.frame = some Lf)
    (ff : s'.heap.FunFrames c.h0 (env :: outer)) (K : ∀ s₃, Fly A (env :: outer) sr e cls s₃ → Q () s₃) :
    wpAny c.M A (noteFrame (.ref e) env) (fun _ s₂ => wpAny c.M A (setFlight (.ref e) none) Q E s₂) E s' := by
  obtain ⟨e', a0, he', hkp, hen, hX⟩ := X
  cases he'
  have fin : ∀ (B : Heap), B.StaysIn s'.heap → B.get? e = none → (∀ b o, s'.heap.get? b = some o → (∃ o', sr.heap.get? b = some o') → b ∉ (env :: outer).filterMap (·.frame) → B.get? b = some o) →
      ∀ h₂, Heap.HeldW B (env :: outer) e (.type cls.name) a0 Lf h₂ → s'.heap.UpToSlots h₂ → wpAny c.M A (setFlight (.ref e) none) Q E { s' with heap := h₂ } := by
    intro B hB1 hB2 hB3 h₂ hh hu
    refine wpAny_landsW hh fun h₃ hfl hu₃ => K _ ?_
    have kh := fly_kh hkp hfr ff hB3 hfl.1 (hu.trans hu₃)
    obtain ⟨h', tk', rfl, hlt, kk⟩ := hkp
    refine ⟨B, a0, h₃, tk', rfl, hlt, hfl, kh, fun b o q1 q2 q3 => ?_, fun b hb => ?_⟩
    · obtain ⟨o', q2⟩ := q2
      have hF : ¬ FrA A b := fun ⟨l', e1, e2⟩ => by rw [hfr] at e1; cases e1; exact q3 e2
      have e1 := (kk b o' q2).1 (.inl hF)
      have e2 := hB3 b o' e1 ⟨o', q2⟩ q3
      have e3 := hfl.1 b o' e2
      rw [q1] at e3; cases e3; exact e2
    · obtain ⟨_, o, e1, nf⟩ := hfl.2.2.1.mem hb
      exact ⟨o, e1, nf⟩
  rcases hX with ⟨ob, ho, hc, hd⟩ | ht | ⟨env', outer', L', B, h1, h2, hh, hB3⟩
  · have hB0 : ∀ b o, s'.heap.get? b = some o → (∃ o', sr.heap.get? b = some o') → b ∉ (env :: outer).filterMap (·.frame) → (hideAll s'.heap (e :: (env :: outer).filterMap (·.frame))).get? b = some o := fun b o q1 q2 q3 => by
      refine hideAll_get _ q1 fun hm => ?_
      rcases List.mem_cons.mp hm with rfl | hm
      · obtain ⟨o', q2⟩ := q2; rw [hen] at q2; cases q2
      · exact q3 hm
    have hfB : s'.heap.FunFrames (hideAll s'.heap (e :: (env :: outer).filterMap (·.frame))) (env :: outer) := funFrames_hide ff fun v hv a ha => List.mem_cons_of_mem _ (List.mem_filterMap.mpr ⟨v, hv, ha⟩)
    unfold noteFrame
    simp only [hf]
    refine wpAny_bind (wpAny_field ho hd (x := .none) rfl ?_)
    rw [if_neg (by decide)]
    refine wpAny_entryW (base := hideAll s'.heap (e :: (env :: outer).filterMap (·.frame))) hfr hfB hf ho (fun b o q => of_hideAll _ q) (hideAll_none _ (List.mem_cons_self ..)) hd (by simp) (a0 := a0) rfl fun h₂ hN => ?_
    obtain ⟨k1, k2, k3, k4⟩ := hN
    rw [hc] at k3
    exact fin _ (fun b o q => of_hideAll _ q) (hideAll_none _ (List.mem_cons_self ..)) hB0 h₂ ⟨k1, hideAll_none _ (List.mem_cons_self ..), k2, k3⟩ k4
  · obtain ⟨oe, vs, T, oT, ts, he, hcl, hd, h1, hT, hTe, hoT, hdT, h3⟩ := ht
    have hB0 : ∀ b o, s'.heap.get? b = some o → (∃ o', sr.heap.get? b = some o') → b ∉ (env :: outer).filterMap (·.frame) → (hideAll s'.heap (e :: T :: (env :: outer).filterMap (·.frame))).get? b = some o := fun b o q1 q2 q3 => by
      obtain ⟨o', q2⟩ := q2
      refine hideAll_get _ q1 fun hm => ?_
      rcases List.mem_cons.mp hm with rfl | hm
      · rw [hen] at q2; cases q2
      · rcases List.mem_cons.mp hm with rfl | hm
        · rw [hT] at q2; cases q2
        · exact q3 hm
    have hfB : s'.heap.FunFrames (hideAll s'.heap (e :: T :: (env :: outer).filterMap (·.frame))) (env :: outer) := funFrames_hide ff fun v hv a ha => List.mem_cons_of_mem _ (List.mem_cons_of_mem _ (List.mem_filterMap.mpr ⟨v, hv, ha⟩))
    have hTB : (hideAll s'.heap (e :: T :: (env :: outer).filterMap (·.frame))).get? T = none := hideAll_none _ (List.mem_cons_of_mem _ (List.mem_cons_self ..))
    refine wpAny_noteFrame_onW (base := hideAll s'.heap (e :: T :: (env :: outer).filterMap (·.frame))) (a0 := a0) (cls := .type cls.name) hfr hfB hf ⟨oe, vs, T, oT, ts, he, hcl, hd, h1, hTB, hTe, hoT, hdT, h3⟩ (fun b o q => of_hideAll _ q) (hideAll_none _ (List.mem_cons_self ..)) fun h₂ hN => ?_
    obtain ⟨k1, k2, k3, k4⟩ := hN
    exact fin _ (fun b o q => of_hideAll _ q) (hideAll_none _ (List.mem_cons_self ..)) hB0 h₂ ⟨k1, hideAll_none _ (List.mem_cons_self ..), k2, k3⟩ k4
  · rw [hfr] at h1; cases h1
    rw [hf] at h2; cases h2
    refine wpAny_noteFrame_againW hf hh.2.2.2 ?_
    exact fin B hh.1 hh.2.1 hB3 s'.heap hh (fun b o q _ => ⟨o.slots, q⟩)

theorem EX.boot : ∀ (x : EX), bootBuiltins (Str.ofString x.name) = some (.type x.name)
  | .zde => by decide +kernel
  | .ofe => by decide +kernel
  | .te => by decide +kernel
  | .ve => by decide +kernel
  | .ae => by decide +kernel
theorem EX.sub : ∀ (x y : EX), isSubtype (.type x.name) (.type y.name) = pure (decide (x = y)) := by
  intro x y
  cases x <;> cases y <;> (rw [isSubtype_type]; kernel_rfl)
theorem EX.exc : ∀ (x : EX), isSubtype (.type x.name) (.type "BaseException") = pure true := by
  intro x
  cases x <;> (rw [isSubtype_type]; kernel_rfl)
theorem EX.notTup : ∀ (T : EX), isSubtype (.type ((Manifest.find? T.name).elim "type" fun x => x.metatype)) (.type "tuple") = pure false := by
  intro x
  cases x <;> (rw [isSubtype_type]; kernel_rfl)
end Mine
end
section
open PySem PySem.W PyProof.Rows
set_option linter.unusedVariables false
set_option linter.unusedSectionVars false
namespace Mine

section
variable {c : Cx} {O : OpsF} (OK : OpsOk c O) {k : Nat} {cal : Cal} {fname : Nat → Str} (CO : CallsOk c k cal fname) {frees : List Str} (hfree : ∀ x ∈ frees, c.mg x = none)

include OK in
/-- x = a comprehension that is let go with x's store -/
theorem assign_compG {A : Around} {s : Shared} {H : Hd} {fe : FE} {env : Env} {ns : List Str} {st : Fs} {ce it : Expr} {gs : List Comprehension} {i : Nat} {x y : Str} {px' py pos pos2 : Pos} {ifs : List Expr} {scope : Scope} {caps : List Nat} {r : ER} {g : Store → List AV → Option (List AV)} {Q : Flow → Shared → Prop} {E : Value → Shared → Prop}
    (hm : Rm c true (k + 1) A H s) (F : Fm c (FrA A) ns env st fe H s.heap) (hlen : st.ρ.length = ns.length) (h1 : ns[i]? = some x) (h2 : env.kindOf x = some .local ∨ env.kindOf x = some .cell) (h3 : OneName ns i x) (hkd : scope.kind = .function) (hlc : ∀ y ∈ scope.names, y.2 = .local → scope.names.lookup y.1 = some .local) (hfr : ∀ y, (y, NameKind.free) ∈ scope.names → env.kindOf y = some .cell) (hcl : clausesOf ce = ⟨.Name y py, it, ifs, 0⟩ :: gs) (hs : ∀ x, foldedSetIterable it env x = pure x)
    (hu : ∀ use, evalThenUse ce env use = (do let _ ← comprehension ce scope env pos2 (newList []) false (eval it env) (some use))) (hsw : swapsWith ce (some (.Name x px')) pos.line env = pure true) (X : Ev c true A st.lo st.σ H (eval it env) r s)
    (T : ∀ σ₁ l ys, g σ₁ l = some ys → l.length ≤ 1048576 → ys.length ≤ 1048576 ∧ ∀ H₁, CompSpec c true (k + 1) A ns env (st.at σ₁) fe scope y caps ce H₁ l ys)
    (P : PostS c true A ns env fe st H (resS (r.bind fun a σ₁ => onItems (O.items (derefS st.ρ σ₁ a)) fun l => onItems (g σ₁ l) fun ys => .ok (.av (.lst ys)) σ₁) st fun v st' => .next (st'.set i (.val v))) s Q E) : wpAny c.M A (exec (.Assign [.Name x px'] ce pos) env) Q E s := by
  obtain ⟨cl, hclos, hcl1, hcl2, hcl3⟩ := closureFor_ok3 (env := env) (scope := scope) fun y hy => by
    obtain ⟨cc, _, e, _⟩ := F.cl y (hfr y hy)
    rw [e]; rfl
  rw [exec_Assign_Name_used _ _ _ _ hsw]
  refine wpAny_bind (wpAny_standAt (wpAny_bind ?_))
  rw [hu]
  cases r with
  | stuck => exact P.elim
  | exc z σ₁ => exact wpAny_bind (wpAny_mono (wpAny_comprehension_free (use := some (assign (.Name x px') env)) (Q := fun _ s' => Q .next s') hcl hs hclos hkd hlc (X _ _ ⟨P.1, fun e H' sr s' x Y => P.2 H' sr e s' (.of_ss F hlen x) Y⟩)) (fun _ s' hq => wpAny_pure (wpAny_pure hq)) fun _ _ e => e)
  | ok a σ₁ =>
  simp only [ER.bind] at P
  cases hi : O.items (derefS st.ρ σ₁ a) with
  | none => rw [hi] at P; exact P.elim
  | some l =>
  rw [hi] at P
  simp only [onItems] at P
  cases hf : g σ₁ l with
  | none => rw [hf] at P; exact P.elim
  | some ys =>
  rw [hf] at P
  refine wpAny_bind (wpAny_mono (wpAny_comprehension_free (use := some (assign (.Name x px') env)) (Q := fun _ s' => Q .next s') hcl hs hclos hkd hlc (X _ _ fun xv H₁ s₁ x₁ r₁ => ?_)) (fun _ s' hq => wpAny_pure (wpAny_pure hq)) fun _ _ e => e)
  have F₁ := F.ss x₁
  have N₁ := Nx.of_ss F hlen x₁
  refine wpAny_up (OK.items (hm.nf x₁.nf) rfl F₁.hlt (RepO.derefS F₁ hlen r₁) hi _ _ fun I fp PP GG St h' tk hk hI hfI hl _ hsz W hst hP hG hleI => ?_)
  obtain ⟨hys, CS⟩ := T σ₁ l ys hf hsz
  refine CS H₁ (RR := fun acc C => compPost c.M A E (some (assign (.Name x px') env)) (fun _ s' => Q .next s') acc C) (s₁ := s₁) (hm.nf x₁.nf) F₁ hcl1 hcl2 hcl3 ⟨_, _, rfl, hleI⟩ hk hI hl hfI W hst hsz hP hG ?_
  intro D C h'' tk' m' vs T₁ hleD hte htd hD hC hDC hn hl hr hkv
  have N₂ := N₁.trans (Nx.of_kt F₁ hlen (s₁ := { s₁ with toks := tk' }) (H₁ := H₁.wt T₁) ⟨Kp.toks hleD, rfl, hte, fun _ => htd⟩)
  have F₂ := N₂.fm
  generalize H₁.wt T₁ = H₂ at N₂ F₂ hr
  have k2 : Kh (FrA A) s₁.heap h'' := (Kh.of_keeps hk).trans' hkv fun b o e z => by rw [z, hI] at e; cases e
  have hDs : s₁.heap.get? D = none := none_back (Kh.of_keeps (F := fun _ => False) hk) hD
  have hCs : s₁.heap.get? C = none := none_back (Kh.of_keeps (F := fun _ => False) hk) hC
  show wpAny _ A (assign (.Name x px') env (.ref D)) _ _ _
  refine wpAny_assign_Name ?_
  obtain ⟨oC, esC, epC, eC, dC, rC⟩ := id hn
  have live : Live (H₂.add fun b => b = C) h'' := fun b z => by
    rcases z with z | rfl
    · obtain ⟨o, e⟩ := F₂.hlt b z
      obtain ⟨sl, q⟩ := (k2 b o e).2
      exact ⟨_, q⟩
    · exact ⟨oC, eC⟩
  have FC := F₂.hide k2 (H₂ := H₂.add fun b => b = C) (fun b z => .inl z) (fun b z => z.imp id fun (z : b = C) => by rw [z]; exact hCs) (fun _ _ e => e) rfl rfl live
  have rep : Rep (vis h'' (H₂.add fun b => b = C)) (.ref D) (.lst ys) := by
    simp only [Rep]
    obtain ⟨o, n, e, c1, d1, f1⟩ := hl
    refine ⟨hys, D, vs, n, rfl, ⟨fun z => ?_, o, e, c1, d1, f1, .inl rfl, fun ⟨_, z⟩ => by cases z⟩, RepL.mono (vis_hide (H := H₂.add fun b => b = C) (H' := H₂.add fun b => b = C ∨ b = D ∨ b = I) (fun b z => z.elim .inl fun z => .inr (.inl z)) (fun _ _ e => e) fun _ _ e => e) hr⟩
    rcases z with z | z
    · obtain ⟨o', e'⟩ := F₂.hlt D z
      rw [hDs] at e'; cases e'
    · exact hDC z
  have cellne : ∀ y cc, env.kindOf y = some .cell → env.cells.lookup y = some cc → cc ≠ C := fun y cc qk q z => by
    obtain ⟨o', e'⟩ := F₂.hlt cc (F₂.hc y cc qk q).1
    rw [z, hCs] at e'; cases e'
  have locne : env.locals ≠ C := fun z => by
    obtain ⟨o', e'⟩ := F₂.hlt _ F₂.hl
    rw [z, hCs] at e'; cases e'
  refine wp_store (t := .val (.lst ys)) FC h1 h3 h2 rep fun h₄ tk₄ F₄ kv₄ nf₄ ⟨sa, hsa, hsb⟩ => ?_
  have hCa : C ≠ sa := fun z => by
    rcases hsa with q | ⟨y, qk, q⟩
    · exact locne (q ▸ z.symm)
    · exact cellne y sa qk q z.symm
  have hn₄ : h₄.Ns C m' := ⟨oC, esC, epC, (hsb.2 C hCa).trans eC, dC, rC⟩
  refine ⟨m', hn₄, fun h₅ hs₅ => P H₂ _ (N₂.trans ?_)⟩
  have nlC : ∀ vs, ¬ IsL h₄ C vs := not_isL_ns hn₄
  have hHC : ¬ H₂.p C := fun z => by
    obtain ⟨o', e'⟩ := F₂.hlt C z
    rw [hCs] at e'; cases e'
  have hfeC : fe.h.get? C = none := by
    cases q : fe.h.get? C with
    | none => rfl
    | some o =>
      obtain ⟨o', e'⟩ := F₂.keep.nw (fun b w => F₂.hlt b (F₂.hle b (F₂.wsub b w))) q
      rw [hCs] at e'; cases e'
  have F₅ := F₄.drop (a := C) (h' := h₅) (fun b o hb e => (hs₅.2 b hb).trans e) hfeC locne cellne nlC F₂.hle hHC (fun n e => hHC (F₂.sto.hidden e))
  refine ⟨⟨h₅, tk₄, rfl⟩, fun b o e => ?_, fun b z => .inl z, fun b o nb e => ?_, Nf.same (fun b o e nf => ?_) nf₄.2.1, fun _ _ e => e, fun _ _ e => e, F₅, by simpa using hlen, rfl, rfl⟩
  · have hb : b ≠ C := fun z => by rw [z, hCs] at e; cases e
    by_cases hHb : H₂.p b
    · exact F₅.hlt b hHb
    · obtain ⟨sl, q⟩ := (k2 b o e).2
      obtain ⟨sl', q'⟩ := (kv₄ b _ (fun z => z.elim hHb hb) q).2
      exact ⟨_, (hs₅.2 b hb).trans q'⟩
  · have hb : b ≠ C := fun z => by rw [z, hCs] at e; cases e
    obtain ⟨p1, sl, p2⟩ := k2 b o e
    have nb' : ¬ (H₂.add fun b => b = C).p b := fun z => z.elim nb hb
    refine ⟨fun f => (hs₅.2 b hb).trans ((kv₄ b o nb' (p1 f)).1 f), ?_⟩
    obtain ⟨sl', q'⟩ := (kv₄ b _ nb' p2).2
    exact ⟨sl', (hs₅.2 b hb).trans q'⟩
  · have hb : b ≠ C := fun z => by rw [z, hCs] at e; cases e
    obtain ⟨o', e', n'⟩ := (k2.nh.trans nf₄.1) b o e nf
    exact ⟨o', (hs₅.2 b hb).trans e', n'⟩
include OK CO hfree in
/-- x = e -/
theorem assign_val {A : Around} {s : Shared} {H : Hd} {fe : FE} {env : Env} {ks : List (Str × NameKind)} {ns : List Str} {st : Fs} {q : Bool} {e : PE} {ex : Expr} {i : Nat} {x : Str} {px' pos : Pos} {Q : Flow → Shared → Prop} {E : Value → Shared → Prop}
    (hks : env.scope.names = ks) (hm : Rm c q (k + 1) A H s) (F : Fm c (FrA A) ns env st fe H s.heap) (hlen : st.ρ.length = ns.length) (hx : nameAt ks ns i x = true) (he : encE frees fname ks ns e ex = true) (hcc : isCC e = false)
    (P : PostS c q A ns env fe st H (resS (pe O cal q st e).v st fun v st' => .next (st'.set i (.val v))) s Q E) : wpAny c.M A (exec (.Assign [.Name x px'] ex pos) env) Q E s := by
  obtain ⟨h1, h2, h3⟩ := nameAt_of hks hx
  have I := pe_sound OK CO hfree e he hks hm F hlen
  have plain : swapsWith ex (some (.Name x px')) pos.line env = pure false → wpAny c.M A (exec (.Assign [.Name x px'] ex pos) env) Q E s := fun hsw => by
    refine wpAny_Assign_Name (PostS.resK F hlen I.v P fun v σ₁ _ w H₁ s₁ N₁ r₁ P₁ => ?_) hsw
    exact nx_store N₁ h1 h3 h2 r₁ fun s' N N' => P₁ H₁ s' N'
  cases hc : isComp e with
  | false => exact plain (swaps_no he hc _ _ _)
  | true =>
    cases e <;> first | (simp [isComp] at hc; done) | (simp [isCC] at hcc; done) | skip
    · rename_i caps elt src conds
      rw [ec_comp] at he
      obtain ⟨e', y, py, it, ifs, scope, pos', rfl, hz⟩ := onLC_eq he
      replace he := hz; clear hz
      obtain ⟨b, hsw⟩ : ∃ b, swapsWith (.ListComp e' [⟨.Name y py, it, ifs, 0⟩] scope pos') (some (.Name x px')) pos.line env = pure b := ⟨_, rfl⟩
      cases b with
      | false => exact plain hsw
      | true =>
        simp only [Bool.and_eq_true] at he
        obtain ⟨⟨⟨⟨e1, e0⟩, e2⟩, e3⟩, e4⟩ := he
        have e0 : isSetd src = false := by simpa using e0
        simp only [qe_comp, PR.of] at P
        cases q with
        | false => exact P.elim
        | true =>
          have K := compOk_of (ns := ns) (x := y) (caps := caps) hks e2
          refine assign_compG OK (caps := caps) (pos2 := firstIterPos [⟨.Name y py, it, ifs, 0⟩] pos') (g := fun σ₁ l => mapF (fun x => compF σ₁.length (pall O cal true ((st.at σ₁).inner caps x) .And conds) (pe O cal true ((st.at σ₁).inner caps x) elt).v) l) hm F hlen h1 h2 h3 K.kind K.loc K.free rfl (encE_notSet e1 e0 env) (fun _ => rfl) hsw (pe_sound OK CO hfree src e1 hks hm F hlen).v (fun σ₁ l ys hf hsz => ⟨Nat.le_trans (mapF_length hf) hsz, fun H₁ => comp_spec1 (st := st.at σ₁) hlen K hf (comp_turn (O := O) (cal := cal) (elt := elt) (conds := conds) (relab_eq hks F.kind) hlen (fun a b c d => pe_sound OK CO hfree elt e3 a b c d) (fun a b c d => ptests_sound OK CO hfree conds e4 a b c d))⟩) P
end
end Mine
end
section
open PySem PySem.W PyProof.Rows
set_option linter.unusedVariables false
set_option linter.unusedSectionVars false
set_option maxHeartbeats 2000000
namespace Mine

theorem Nx.mark {c : Cx} {A : Around} {x : Option Value} {ns : List Str} {env : Env} {fe : FE} {st st' : Fs} {H H' : Hd} {s s' : Shared} (N : Nx c (A.mark x) ns env fe st H s st' H' s') : Nx c A ns env fe st H s st' H' s' := ⟨N.rest, N.lv, N.hid, N.kv, N.nf, N.mx, N.te, N.fm, N.len, N.lo, N.n0⟩
theorem Rt.mark {c : Cx} {A : Around} {x : Option Value} {ns : List Str} {env : Env} {fe : FE} {st : Fs} {H : Hd} {s s' : Shared} {σ' : Store} {w : Value} {v : AV} (N : Rt c (A.mark x) ns env fe st H s σ' w v s') : Rt c A ns env fe st H s σ' w v s' := ⟨N.rest, N.lv, N.back⟩

theorem ometh_slot : ∀ (m : OMI), Slot "list" (Str.ofString m.name) ("list." ++ m.name)
  | .append => slot_list_append
  | .insert => PySem.F.slot_list_insert
  | .remove => PySem.F.slot_list_remove
theorem ometh_type : ∀ (m : OMI), typeOf (.builtin ("list." ++ m.name)) = pure (.type "method_descriptor")
  | .append => by with_unfolding_all rfl
  | .insert => PySem.F.type_list_insert
  | .remove => PySem.F.type_list_remove

section
variable {c : Cx} {A : Around} {ns : List Str} {env : Env} {fe : FE} {H H₁ : Hd} {s s₁ : Shared}

end

theorem pos_name {x : Str} {p : Pos} : (Expr.Name x p).pos = p := rfl
theorem pos_tuple {l : List Expr} {k : Nat} {p : Pos} : (Expr.Tuple l k p).pos = p := rfl
theorem swapped_two {frees : List Str} {fname : Nat → Str} {ks : List (Str × NameKind)} {ns : List Str} {env : Env} {x y : Str} {px py : Pos} {k1 tp ea eb k2 vp} {a b : PE} (hks : env.scope.names = ks) (hk : env.scope.kind = .function) (kx : env.kindOf x = some .local) (ky : env.kindOf y = some .local) (hpl : px.line = py.line) (hxy : x ≠ y)
    (hff : [ea, eb].all (foldedForSure 8) = false) (hca : [ea, eb].all (constantsAlone 8) = false) (hea : encE frees fname ks ns a ea = true) (heb : encE frees fname ks ns b eb = true) : swappedStores [.Tuple [.Name x px, .Name y py] k1 tp] (.Tuple [ea, eb] k2 vp) env = pure (some [x, y]) := by
  have bk : env.blockKind = .function := by unfold Env.blockKind; rw [hk]; rfl
  have na : ∀ z w, ea ≠ .Starred z w := encE_notStar hea
  have nb : ∀ z w, eb ≠ .Starred z w := encE_notStar heb
  have hs : ([ea, eb].any fun | .Starred .. => true | _ => false) = false := by
    have h1 : ∀ e : Expr, (∀ z w, e ≠ .Starred z w) → (match e with | .Starred .. => true | _ => false) = false := fun e h => by
      cases e <;> first | rfl | exact absurd rfl (h _ _)
    show (_ || (_ || false)) = false
    rw [Bool.or_eq_false_iff, Bool.or_false]
    exact ⟨h1 ea na, h1 eb nb⟩
  have hy : (y == x) = false := by simpa using fun e => hxy e.symm
  unfold swappedStores
  simp only [List.length_cons, List.length_nil, bk, List.filterMap_cons, List.filterMap_nil, kx, ky, List.head?_cons, Option.map_some, Option.getD_some, pos_name, pos_tuple, hpl, beq_self_eq_true, Bool.and_self, if_true]
  simp only [Nat.zero_add, Nat.reduceAdd, beq_self_eq_true, Bool.true_or, Bool.not_true, bne_self_eq_false, Bool.or_self, if_false, Bool.false_eq_true, hs, List.length_cons, List.length_nil, hff, hca]
  have he : ([x, y] : List Str).eraseDups = [x, y] := by
    rw [List.eraseDups_cons]
    have : [y].filter (fun b => !(b == x)) = [y] := by simp [hy]
    rw [this] <;> rfl
  simp [he]

theorem owned_go {M : Model} {A : Around} {E : Value → Shared → Prop} {s : Shared} {tgt : Expr} {I : Addr} {v : Value} {o : Obj} {n : String} {Q : Unit → Shared → Prop} (ho : s.heap.get? I = some o) (hc : o.cls = .type n)
    (hn : ["enumerate", "zip", "dict_itemiterator", "dict_reverseitemiterator", "odict_iterator", "itertools.zip_longest", "itertools.pairwise"].contains n = false) (h : Q () s) : wpAny M A (letOwnedTupleGo tgt (.ref I) v) Q E s := by
  have core : ∀ a, wpAny M A (do
      let o ← load I
      match o.cls, o.data with
      | .type n, .fields vs =>
        if ["enumerate", "zip", "dict_itemiterator", "dict_reverseitemiterator", "odict_iterator", "itertools.zip_longest", "itertools.pairwise"].contains n && vs[0]? == some (rawInt a) then
          rule "for.unpacks-the-owned-tuple"
          updateField I 0 .none
      | _, _ => pure () : Sem Unit) Q E s := fun a => by
    refine wpAny_bind (wpAny_load ho ?_)
    rw [hc]
    split
    · rename_i n' vs e1 e2
      cases e1
      rw [hn, Bool.false_and, if_neg (by decide)]
      exact wpAny_pure h
    · exact wpAny_pure h
  unfold letOwnedTupleGo
  cases tgt <;> first | exact wpAny_pure h | (cases v <;> first | exact wpAny_pure h | exact core _)

theorem unpack_pair {prog : Program} {w : World} {A : Around} {E : Value → Shared → Prop} {s : Shared} {t : Addr} {v0 v1 : Value} {Q : List Value → Shared → Prop} (hh : A.handled = none) (ht : s.heap.IsTuple t #[v0, v1])
    (hQ : ∀ h', Heap.ExtBut s.heap.objs.size s.heap h' → Q [v0, v1] { s with heap := h' }) : wpAny (model prog w) A (unpackItems (.ref t) 2 none) Q E s := by
  have e : (#[v0, v1] : Array Value).size = 2 := rfl
  have := wpAny_unpackItems_tuple (prog := prog) (w := w) (E := E) (items := #[v0, v1]) (Q := Q) hh ht hQ
  rw [e] at this
  exact this
theorem assign_pair {c : Cx} {A : Around} {ns : List Str} {env : Env} {fe : FE} {st : Fs} {H : Hd} {s : Shared} {x y : Str} {i j : Nat} {v0 v1 : Value} {a0 a1 : AV} {Q : Unit → Shared → Prop} {E : Value → Shared → Prop} (F : Fm c (FrA A) ns env st fe H s.heap) (hlen : st.ρ.length = ns.length) (hij : i ≠ j)
    (x1 : ns[i]? = some x) (x2 : env.kindOf x = some .local ∨ env.kindOf x = some .cell) (x3 : OneName ns i x) (y1 : ns[j]? = some y) (y2 : env.kindOf y = some .local ∨ env.kindOf y = some .cell) (y3 : OneName ns j y)
    (r0 : Rep (vis s.heap H) v0 a0) (r1 : Rep (vis s.heap H) v1 a1) (h : ∀ s', Nx c A ns env fe st H s (st.sets [i, j] [a0, a1]) H s' → Q () s') : wpAny c.M A (assignInOrder (([x, y].reverse).map fun n => bindName env n) [v0, v1].reverse) Q E s := by
  show wpAny c.M A (holding [v0] (bindName env y v1) >>= fun _ => (holding [] (bindName env x v0) >>= fun _ => pure ())) Q E s
  refine wpAny_bind (wpAny_holding (wpAny_bindName (nx_store (Nx.of_kp F hlen (Kp.refl _ _)) y1 y3 y2 r1 fun s₂ N3 N3' => ?_)))
  refine wpAny_bind (wpAny_holding (wpAny_bindName (nx_store N3 x1 x3 x2 (Rep.mono N3'.vis r0) fun s₃ N4 _ => wpAny_pure (h s₃ ?_))))
  have e : ((st.set j (.val a1)).set i (.val a0)) = st.sets [i, j] [a0, a1] := by
    simp only [Fs.sets, Fs.set]
    rw [List.set_comm _ _ (Ne.symm hij)]
  rw [← e]; exact N4
section
variable {c : Cx} {O : OpsF} (OK : OpsOk c O) {k : Nat}
include OK
/-- a loop -/
theorem for_core {A : Around} {s : Shared} {H : Hd} {fe : FE} {env : Env} {ns : List Str} {st : Fs} {v : AV} {σ : Store} {l : List AV} {tgt it : Expr} {body' : List Stmt} {pos : Pos} {f : AV → Fs → FR} {Q : Flow → Shared → Prop} {E : Value → Shared → Prop}
    (hm : Rm c true (k + 1) A H s) (F : Fm c (FrA A) ns env st fe H s.heap) (hlen : st.ρ.length = ns.length) (hns : ∀ x, foldedSetIterable it env x = pure x) (T : Ev c true A st.lo st.σ H (eval it env) (.ok (.av v) σ) s) (hi : O.items v = some l)
    (P : PostS c true A ns env fe st H (forF f l (st.at σ)) s Q E)
    (turn' : ∀ item w st' H' s', Nf H s H' s' → Fm c (FrA A) ns env st' fe H' s'.heap → st'.ρ.length = ns.length → Rep (vis s'.heap H') w item → f item st' ≠ .stuck → ∀ (Q' : Unit → Shared → Prop) (E' : Value → Shared → Prop),
      (∀ st₃ H₃ s₃, Nx c A ns env fe st' H' s' st₃ H₃ s₃ → (∀ Q E, PostS c true A ns env fe st₃ H₃ (f item st') s₃ Q E → wpAny c.M A (execs body' env) Q E s₃) → Q' () s₃) → wpAny c.M A (assign tgt env w) Q' E' s') :
    wpAny c.M A (exec (.For tgt it body' [] pos) env) Q E s := by
  refine wpAny_For (T _ _ fun va H₁ s₁ x₁ r₁ => ?_) hns
  have N0 := Nx.of_ss F hlen x₁
  have F₁ := N0.fm
  have P₁ := P.nx N0
  have r₁ : Rep (vis s₁.heap H₁) va v := r₁
  refine wpAny_up (OK.items (hm.nf x₁.nf) rfl F₁.hlt (.of r₁) hi _ _ fun I fp PP GG St h' tk hk hI hfI hl hfp hsz W hst hP hG hleI => ?_)
  have hIfe : fe.h.get? I = none := by
    cases q : fe.h.get? I with
    | none => rfl
    | some o =>
      obtain ⟨o', e'⟩ := F₁.keep.nw (fun b w => F₁.hlt b (F₁.hle b (F₁.wsub b w))) q
      rw [hI] at e'; cases e'
  have hHI : ¬ H₁.p I := fun z => by
    obtain ⟨o', e'⟩ := F₁.hlt I z
    rw [hI] at e'; cases e'
  have vnot : ∀ b, va = .ref b → ¬ H₁.p b ∧ ∃ o, s₁.heap.get? b = some o := fun b e => by
    subst e
    exact rep_not_hidden (OK.itemsR hi).1 (OK.itemsR hi).2.1 (OK.itemsR hi).2.2 r₁
  have kpI : Kp A s₁ { s₁ with heap := h', toks := tk } := ⟨h', tk, rfl, hleI, Kh.of_keeps hk⟩
  have N0 : Nx c A ns env fe (st.at σ) H₁ s₁ (st.at σ) H₁ { s₁ with heap := h', toks := tk } := Nx.of_kp F₁ hlen kpI
  refine codeAny_forLoop_any (fun m s' => ∃ j st' H', m = l.length + 1 - j ∧ j ≤ l.length ∧ Nx c A ns env fe (st.at σ) H₁ s₁ st' H' s' ∧ ¬ H'.p I ∧ St j s'.heap ∧
    PostS c true A ns env fe (st.at σ) H₁ (forF f (l.drop j) st') s₁ Q E) ?_ (l.length + 1)
    ⟨0, st.at σ, _, rfl, Nat.zero_le _, N0, hHI, hst, by simpa using P₁⟩
  rintro m s' ⟨j, st', H', rfl, hj, N, hHI', hst', P'⟩
  obtain ⟨oI, fsI, eI, dI, cI⟩ := W.fld j _ hst'
  obtain ⟨hs', ts', rfl⟩ := N.rest
  dsimp only at *
  have back : ∀ {H'' h₂ tk₂}, Nx c A ns env fe (st.at σ) H₁ s₁ st' H'' { s₁ with heap := hs', toks := tk₂ } → H''.p = H'.p → (∀ b o, b ≠ I → hs'.get? b = some o → h₂.get? b = some o) → Nx c A ns env fe (st.at σ) H₁ s₁ st' H'' { s₁ with heap := h₂, toks := tk₂ } := fun {H'' h₂ tk₂} N'' hp'' hk₂ => by
    have F₂ := N''.fm.touchV (a := I) (h' := h₂) hk₂ hIfe eI dI cI (by rw [hp'']; exact hHI')
    exact ⟨⟨_, _, rfl⟩, fun b o e => by
      have hb : b ≠ I := fun z => by rw [z, hI] at e; cases e
      obtain ⟨o', e'⟩ := N''.lv b o e
      exact ⟨o', hk₂ b o' hb e'⟩, N''.hid, fun b o nb e => by
      have hb : b ≠ I := fun z => by rw [z, hI] at e; cases e
      obtain ⟨p1, sl, p2⟩ := N''.kv b o nb e
      exact ⟨fun f => hk₂ b _ hb (p1 f), sl, hk₂ b _ hb p2⟩, ⟨fun b o e nf => by
      have hb : b ≠ I := fun z => by rw [z, hI] at e; cases e
      obtain ⟨o', e', n'⟩ := N''.nf.1 b o e nf
      exact ⟨o', hk₂ b o' hb e', n'⟩, N''.nf.2⟩, N''.mx, N''.te, F₂, N''.len, N''.lo, N''.n0⟩
  have td' : Td H' { s₁ with heap := hs', toks := ts' } := (hm.nf (x₁.nf.trans N.nf)).td
  by_cases hlt : j < l.length
  · obtain ⟨item, hitem⟩ : ∃ y, l[j]? = some y := ⟨l[j], by simp [hlt]⟩
    have hdrop : l.drop j = item :: l.drop (j + 1) := by
      rw [List.drop_eq_getElem_cons hlt]
      have : l[j] = item := by rw [List.getElem?_eq_getElem hlt] at hitem; exact Option.some.inj hitem
      rw [this]
    rw [hdrop] at P'
    simp only [forF] at P'
    refine wpAny_up (W.item j _ _ _ hlt hst' fun vi h₂ tk₂ hPv hst₂ hk₂ hI₂ hle₂ => ?_)
    dsimp only
    obtain ⟨H'', N₂, hp'', rit⟩ : ∃ H'', Nx c A ns env fe (st.at σ) H₁ s₁ st' H'' { s₁ with heap := h₂, toks := tk₂ } ∧ H''.p = H'.p ∧ Rep (vis h₂ H'') vi item := by
      rcases hPv with hPv | ⟨j', g1, rfl, g2⟩
      · have N₂ := back (N.trans (Nx.of_kp N.fm N.len (Kp.toks hle₂))) rfl hk₂
        exact ⟨_, N₂, rfl, Rep.mono N₂.vis (hP j vi item hPv hitem)⟩
      · have N₂ := back (N.trans (Nx.of_kt N.fm N.len (Kt.tell (t := ts') (i := j') (Kp.toks hle₂) td' (Nat.le_refl _) g2))) rfl hk₂
        refine ⟨_, N₂, rfl, ?_⟩
        rw [hG j j' item g1 hitem]
        exact ⟨ts', rfl, (hm.nf (x₁.nf.trans N.nf)).t0, if_pos rfl⟩
    have hHI'' : ¬ H''.p I := by rw [hp'']; exact hHI'
    obtain ⟨oI₂, fsI₂, eI₂, dI₂, cI₂⟩ := W.fld (j + 1) _ hst₂
    obtain ⟨oN, nN, eN, cN, hN⟩ := W.nt (j + 1) _ hst₂
    refine owned_go eN cN hN ?_
    refine turn' item vi st' H'' { s₁ with heap := h₂, toks := tk₂ } (x₁.nf.trans N₂.nf) N₂.fm N₂.len rit (fun z => by rw [z] at P'; exact P') _ _ fun st₃ H₃ s₃ N₃ IH => ?_
    have N13 := N₂.trans N₃
    have nextI : ∀ st₄ H₄ s₄, Nx c A ns env fe st₃ H₃ s₃ st₄ H₄ s₄ → PostS c true A ns env fe (st.at σ) H₁ (forF f (l.drop (j + 1)) st₄) s₁ Q E →
        ∃ m, m < l.length + 1 - j ∧ ∃ j st' H', m = l.length + 1 - j ∧ j ≤ l.length ∧ Nx c A ns env fe (st.at σ) H₁ s₁ st' H' s₄ ∧ ¬ H'.p I ∧ St j s₄.heap ∧
          PostS c true A ns env fe (st.at σ) H₁ (forF f (l.drop j) st') s₁ Q E := by
      intro st₄ H₄ s₄ N₄ P₄
      have N24 := N₃.trans N₄
      refine ⟨l.length + 1 - (j + 1), by omega, j + 1, st₄, H₄, rfl, hlt, N13.trans N₄, fun z => ?_, W.frame _ _ _ hst₂ fun b o hb e => ?_, P₄⟩
      · rcases N24.hid I z with z | z
        · exact hHI'' z
        · dsimp only at z; rw [eI₂] at z; cases z
      · have nb : ¬ H''.p b := fun z => ?_
        exact ⟨fun hf => (N24.kv b o nb e).1 (.inr hf), (N24.kv b o nb e).2⟩
        rcases hfp b hb with rfl | hv'
        · exact hHI'' z
        · obtain ⟨q1, o', q2⟩ := vnot b hv'
          rcases N.hid b (by rw [← hp'']; exact z) with z | z
          · exact q1 z
          · rw [q2] at z; cases z
    cases hb : f item st' with
    | next st₄ => rw [hb] at IH P'; exact IH _ _ fun H₄ s₄ N₄ => nextI st₄ H₄ s₄ N₄ P'
    | cont st₄ => rw [hb] at IH P'; exact IH _ _ fun H₄ s₄ N₄ => nextI st₄ H₄ s₄ N₄ P'
    | brk st₄ => rw [hb] at IH P'; exact IH _ _ fun H₄ s₄ N₄ => P' _ _ (N13.trans N₄)
    | ret v σ' => rw [hb] at IH P'; exact IH _ _ (P'.nx (fr := .ret v σ') N13)
    | exc _ _ => rw [hb] at P'; exact P'.elim
    | stuck => rw [hb] at P'; exact P'.elim
  · have hjl : j = l.length := by omega
    subst hjl
    rw [List.drop_length] at P'
    simp only [forF] at P'
    exact wpAny_up (W.done _ _ _ hst' fun h₂ tk₂ hk₂ hle₂ => wpAny_execs_nil (P' H' _ (back (N.trans (Nx.of_kp N.fm N.len (Kp.toks hle₂))) rfl hk₂)))
end
end Mine
end
section
open PySem PySem.W PyProof.Rows
set_option linter.unusedVariables false
set_option linter.unusedSectionVars false
namespace Mine
theorem IK.nt (k : IK) : ["enumerate", "zip", "dict_itemiterator", "dict_reverseitemiterator", "odict_iterator", "itertools.zip_longest", "itertools.pairwise"].contains k.cls = false := by cases k <;> decide +kernel
section
variable {c : Cx} {k : Nat}
end
end Mine
end
section
open PySem PySem.W PyProof.Rows
namespace Mine
set_option maxRecDepth 100000
set_option linter.unusedVariables false
/- an iterator at its end, seen from within -/
section
variable {prog : Program} {w : World} {A : Around} {E : Value → Shared → Prop} {s : Shared}
end
section
variable {c : Cx} {A : Around} {s : Shared} {H : Hd} {lo : Nat} {σ : Store} {E : Value → Shared → Prop}
end
end Mine
end
section
open PySem PySem.W PyProof.Rows
namespace Mine
set_option maxRecDepth 100000
set_option linter.unusedVariables false
/- enumerate over an iterator -/
section
variable {c : Cx} {A : Around} {s : Shared} {H : Hd} {lo : Nat} {σ : Store} {E : Value → Shared → Prop}
end
end Mine
end
section
open PySem PySem.W PyProof.Rows
set_option linter.unusedVariables false
set_option linter.unusedSectionVars false
namespace Mine
section
variable {c : Cx} {k : Nat} {A : Around} {fe : FE} {env : Env} {ns : List Str}
end
end Mine
end
section
open PySem PySem.W PyProof.Rows
namespace Mine
set_option maxRecDepth 100000
set_option linter.unusedVariables false
/- next(zip(a, b), None) of two iterators -/
section
variable {c : Cx} {A : Around} {lo : Nat} {σ σ₁ : Store} {H H₁ : Hd} {s s₁ s₂ : Shared}
/-- new things that are hidden at once -/
theorem Ss.fresh {q : Addr → Prop} (S : Sto σ H s.heap) (L : Live H s.heap) (k : Kp A s s₁) (hq : ∀ b, q b → s.heap.get? b = none ∧ ∃ o, s₁.heap.get? b = some o) : Ss A lo σ H s σ (H.add q) s₁ where
  rest := let ⟨h, t, e, _⟩ := k; ⟨h, t, e⟩
  kv := k.kh.kv
  lv := fun b o e => let ⟨_, q⟩ := (k.kh b o e).2; ⟨_, q⟩
  nf := ⟨k.kh.nh, k.tk, Td.le (H := H) k.tk⟩
  te := fun _ _ e => e
  hp := fun _ z => .inl z
  hid := fun b z => z.imp id fun z => (hq b z).1
  mx := fun _ _ z => z
  mn := fun _ _ z => .inl z
  o := rfl
  sto := S.new k.kh (fun b z => .inl z) (fun b z => z.imp id fun z => (hq b z).1) (fun _ _ e => e) rfl
  live := fun b z => z.elim (L.kp k b) fun z => (hq b z).2
  len := Nat.le_refl _
  rv := fun n mo _ e => ⟨mo, e⟩
  hm0 := S.lt
end
section
variable {c : Cx} {k : Nat} {A : Around} {lo : Nat} {σ σ₁ σ₂ : Store} {H H₁ H₂ : Hd} {s s₁ s₂ : Shared}
theorem Ss.nm {A' : Around} {a : Addr} {o : Obj} (y : Ss A' lo σ₁ H₁ s₁ σ₂ H₂ s₂) (hm : ∀ n, H₁.m n ≠ some a) (e : s₁.heap.get? a = some o) : ∀ n, H₂.m n ≠ some a := fun n z => (y.mn n a z).elim (hm n) fun z => by rw [z.2] at e; cases e
end
end Mine
end
section
open PySem PySem.W PyProof.Rows
set_option linter.unusedVariables false
set_option linter.unusedSectionVars false
set_option maxHeartbeats 4000000
namespace Mine

theorem ownOf_eq {st : Fs} {i : Nat} {xs : List AV} (h : ownOf st i = some xs) : st.ρ[i]? = some (some (.own xs)) := by
  unfold ownOf at h
  split at h
  · rename_i ys e; cases h; exact e
  · cases h

section
variable {c : Cx} {O : OpsF} (OK : OpsOk c O) {k : Nat} {cal : Cal} {fname : Nat → Str} (CO : CallsOk c k cal fname) {frees : List Str} (hfree : ∀ x ∈ frees, c.mg x = none)
include OK CO hfree

theorem ometh_ok {A : Around} {s : Shared} {H : Hd} {fe : FE} {env : Env} {ks : List (Str × NameKind)} {ns : List Str} {st : Fs} {xs : PEs} {m : OMI} {fz : Option Nat} {i : Nat} {sm : Stmt} {Q : Flow → Shared → Prop} {E : Value → Shared → Prop}
    (he : encS frees fname ks ns (.ometh i m xs fz) sm = true) (hks : env.scope.names = ks) (hm : Rm c true (k + 1) A H s) (F : Fm c (FrA A) ns env st fe H s.heap) (hlen : st.ρ.length = ns.length) (P : PostS c true A ns env fe st H (omethF O st i m (pes O cal true st xs)) s Q E) : wpAny c.M A (exec sm env) Q E s := by
  rw [es_ometh] at he
  obtain ⟨ex', pos, rfl, hz⟩ := onS_expr he
  replace he := hz; clear hz
  obtain ⟨o', n, apos, es, pos', rfl, hz⟩ := onMC_eq he
  replace he := hz; clear hz
  obtain ⟨x, px', rfl, hz⟩ := onE_name he
  replace he := hz; clear hz
  simp only [Bool.and_eq_true, Bool.not_eq_true', beq_iff_eq, decide_eq_true_eq] at he
  obtain ⟨⟨⟨⟨⟨⟨hx, hdb⟩, rfl⟩, hline⟩, hl20⟩, hemp⟩, hes⟩ := he
  obtain ⟨h1, h2, h3⟩ := nameAt_of hks hx
  refine wpAny_Expr_any ?_ (by unfold interactive; rw [F.kind]; rfl) rfl
  unfold omethF at P
  split at P
  case h_2 => exact P.elim
  rename_i ol σ hpes
  split at P
  case h_2 => exact P.elim
  rename_i l zs hpl hown
  split at P
  case h_2 => exact P.elim
  rename_i zs' hom
  have hρ := ownOf_eq hown
  obtain ⟨v, nv, hz, a, vs, rfl, ho, hisl, rr⟩ := F.vals i x _ h1 hρ
  obtain ⟨od, nd, ed, cd, dd, fd⟩ := id hisl
  refine wpAny_Call_method_lateS rfl (star_all hes hl20) (by simpa using hline) (wpAny_Name (nv.load F.kind ?_) hdb)
  have hTy : s.TypeIs (.ref a) "list" := hisl.isList.typeIs
  refine ⟨"list", "list." ++ m.name, emeth_plain, ometh_slot m, ometh_type m, hTy, fun b e => (by cases e; exact ⟨od, ed, fd⟩), ?_⟩
  refine Calls.callWith_builtin (star_plain (pos := pos') (env := env) hes) ?_
  cases es with
  | nil => simp at hemp
  | cons e es =>
    have hst : starEach (e :: es) env = (false, eval e env) :: starEach es env := starEach_cons (encEs_head hes)
    have S : wpAny c.M A (spliced (backTo pos' (starEach (e :: es) env))) (fun vs s' => wpAny c.M A (PySem.call (.builtin ("list." ++ m.name)) ([.ref a] ++ vs) []) (fun _ => Q .next) E s') E s := by
      refine pes_sound OK CO hfree xs hes hks hm F hlen ol σ hpes _ _ fun ws H₁ s₁ x₁ r₁ => ?_
      have N₁ := Nx.of_ss F hlen x₁
      have F₁ := N₁.fm
      obtain ⟨v', nv', _, a', vs', ev', ho', hisl', rr'⟩ := F₁.vals i x _ h1 hρ
      have ho1 : H₁.o i = some a := by rw [x₁.o]; exact ho
      rw [ho1] at ho'; cases ho'
      refine wpAny_up (OK.ometh rfl (hm.nf x₁.nf) F₁.hlt hisl' hz rr' (plains_rep r₁ hpl) hom _ _ fun h' vs'' tk hl' hz' r' hs' hle => ?_)
      exact P H₁ _ (nx_turn N₁ hle hρ ho1 hl' hz' r' hs')
    rw [hst] at S ⊢
    exact Calls.evalArgs_plain S

mutual
theorem px_sound : ∀ (p : PS) {q : Bool} {ks : List (Str × NameKind)} {ns : List Str} {st : Fs} {sm : Stmt} {env : Env}, encS frees fname ks ns p sm = true → env.scope.names = ks → env.frame = some env.locals → StOk c q k ns env st (exec sm env) (px O cal q st p)
  | .expr e, q, ks, ns, st, sm, env, he, hks, hef => fun A s fe H hm hA F hlen Q E P => by
    rw [es_expr] at he
    obtain ⟨ex, pos, rfl, hz⟩ := onS_expr he
    replace he := hz; clear hz
    simp only [Bool.and_eq_true, Bool.not_eq_true'] at he
    rw [qx_expr] at P
    refine wpAny_Expr_any ?_ (by unfold interactive; rw [F.kind]; rfl) (swaps_no he.1 he.2 _ _ _)
    exact PostS.resK F hlen (pe_sound OK CO hfree e he.1 hks hm F hlen).v P fun v σ₁ _ w H₁ s₁ N₁ _ P₁ => P₁ H₁ s₁ (Nx.of_kp N₁.fm N₁.len (Kp.refl _ _))
  | .assign i e, q, ks, ns, st, sm, env, he, hks, hef => fun A s fe H hm hA F hlen Q E P => by
    rw [es_assign] at he
    obtain ⟨x, px', ex, pos, rfl, hz⟩ := onA1_eq he
    replace he := hz; clear hz
    all_goals
      simp only [Bool.and_eq_true] at he
      rw [qx_assign] at P
      exact assign_val OK CO hfree hks hm F hlen he.1.1 he.1.2 (by simpa using he.2) P
  | .ownl i xs, q, ks, ns, st, sm, env, he, hks, hef => fun A s fe H hm hA F hlen Q E P => by
    rw [es_ownl] at he
    obtain ⟨x, px', ex', pos, rfl, hz⟩ := onA1_eq he
    replace he := hz; clear hz
    obtain ⟨es, pos', rfl, hz⟩ := onE_list he
    replace he := hz; clear hz
    all_goals
      simp only [Bool.and_eq_true] at he
      obtain ⟨h1, h2, h3⟩ := nameAt_of hks he.1
      rw [qx_ownl] at P
      split at P
      case h_2 => exact P.elim
      rename_i ol σ hpes
      split at P
      case h_2 => exact P.elim
      rename_i l hpl
      split at P
      case isFalse => exact P.elim
      rename_i hl100
      refine wpAny_Assign_Name ?_ rfl
      refine wpAny_List_spliced (pes_sound OK CO hfree xs he.2 hks hm F hlen ol σ hpes _ _ fun vs H₁ s₁ x₁ r₁ => ?_)
      have r₁ := plains_rep r₁ hpl
      refine ⟨by rw [r₁.length]; exact line_ok (by omega), ?_⟩
      exact nx_own (Nx.of_ss F hlen x₁) (Kp.push _) h1 h3 h2 (by omega) (Heap.get?_none_of_le (Nat.le_refl _)) ⟨_, _, Heap.get?_push_size _ rfl, rfl, rfl, rfl⟩ r₁ fun H' s' N => P H' s' N
  | .unpack2 i j a b, q, ks, ns, st, sm, env, he, hks, hef => fun A s fe H hm hA F hlen Q E P => by
    rw [es_unpack2] at he
    obtain ⟨tl, ex', pos, rfl, hz⟩ := onS_assign he
    replace he := hz; clear hz
    obtain ⟨t', rfl, hz⟩ := one?_eq he
    replace he := hz; clear hz
    obtain ⟨ts', k1, tp, rfl, hz⟩ := onE_tup he
    replace he := hz; clear hz
    obtain ⟨t1, t2, rfl, hz⟩ := two?_eq he
    replace he := hz; clear hz
    obtain ⟨es', k2, vp, rfl, hz⟩ := onE_tup he
    replace he := hz; clear hz
    obtain ⟨ea, eb, rfl, hz⟩ := two?_eq he
    replace he := hz; clear hz
    obtain ⟨x, px', rfl, hz⟩ := onNm_eq he
    replace he := hz; clear hz
    obtain ⟨y, py, rfl, hz⟩ := onNm_eq he
    replace he := hz; clear hz
    all_goals
      simp only [Bool.and_eq_true, Bool.not_eq_true', beq_iff_eq, beq_eq_false_iff_ne] at he
      obtain ⟨⟨⟨⟨⟨⟨⟨⟨⟨⟨hx, hy⟩, hij⟩, hlx⟩, hly⟩, hpl⟩, hxy⟩, hff⟩, hca⟩, hea⟩, heb⟩ := he
      obtain ⟨x1, x2, x3⟩ := nameAt_of hks hx
      obtain ⟨y1, y2, y3⟩ := nameAt_of hks hy
      rw [qx_unpack2] at P
      cases q with
      | false => exact P.elim
      | true =>
        simp only at P
        have kx : env.kindOf x = some .local := by show env.scope.names.lookup x = _; rw [hks]; exact hlx
        have ky : env.kindOf y = some .local := by show env.scope.names.lookup y = _; rw [hks]; exact hly
        have het : encE frees fname ks ns (.tup (.cons a (.cons b .nil))) (.Tuple [ea, eb] k2 vp) = true := by show encEs frees fname ks ns (.cons a (.cons b .nil)) [ea, eb] = true; simp [encEs, hea, heb]
        have hsw : swappedStores [.Tuple [.Name x px', .Name y py] k1 tp] (.Tuple [ea, eb] k2 vp) env = pure (some [x, y]) := swapped_two hks F.kind kx ky hpl hxy hff hca hea heb
        refine Assign_Tuple_swapped ?_ rfl hsw
        refine PostS.resK F hlen (pe_sound OK CO hfree _ het hks hm F hlen).v P fun v σ₁ _ w H₁ s₁ N₁ r₁ P₁ => ?_
        obtain ⟨x0, x1', rfl⟩ : ∃ x0 x1', v = .tup [x0, x1'] := by
          unfold unpackF at P₁
          split at P₁
          case h_2 => exact P₁.elim
          rename_i xs _
          split at P₁
          case isFalse => exact P₁.elim
          rename_i hl
          rcases xs with _ | ⟨x0, _ | ⟨x1', _ | ⟨x2, xr⟩⟩⟩
          · simp at hl
          · simp at hl
          · exact ⟨x0, x1', rfl⟩
          · simp at hl
        simp only [unpackF, List.length_cons, List.length_nil, if_true] at P₁
        simp only [Rep] at r₁
        obtain ⟨hz, ad, vs, n, rfl, ⟨nh, o, eo, co, dd, fd, _⟩, rr⟩ := r₁
        have ht : s₁.heap.IsTuple ad vs.toArray := ⟨o, eo, co, n, dd⟩
        rcases vs with _ | ⟨v0, _ | ⟨v1, _ | ⟨v2, vr⟩⟩⟩
        · simp [RepL] at rr
        · simp [RepL] at rr
        · have ht' : s₁.heap.IsTuple ad #[v0, v1] := ht
          have el : [x, y].length = 2 := rfl
          rw [el]
          refine unpack_pair (hm.hand rfl) ht' fun h' ext => ?_
          have kp : Kp A s₁ { s₁ with heap := h' } := ⟨h', s₁.toks, rfl, Nat.le_refl _, Kh.of_keeps fun b o e => ext b o (fun z => by rw [z] at e; exact absurd (Heap.lt_size e) (Nat.lt_irrefl _)) e⟩
          have N2 := Nx.of_kp N₁.fm N₁.len kp
          have rr := rr.kp kp
          simp only [RepL] at rr
          exact assign_pair N2.fm N2.len hij x1 x2 x3 y1 y2 y3 rr.1 rr.2.1 fun s' N => P₁ H₁ s' (N2.trans N)
        · simp [RepL] at rr
  | .aug i op e, q, ks, ns, st, sm, env, he, hks, hef => fun A s fe H hm hA F hlen Q E P => by
    rw [es_aug] at he
    obtain ⟨t', op', ex, pos, rfl, hz⟩ := onS_aug he
    replace he := hz; clear hz
    obtain ⟨x, px', rfl, hz⟩ := onE_name he
    replace he := hz; clear hz
    simp only [Bool.and_eq_true, Bool.not_eq_true', beq_iff_eq] at he
    obtain ⟨⟨⟨hx, hdb⟩, rfl⟩, hex⟩ := he
    obtain ⟨h1, h2, h3⟩ := nameAt_of hks hx
    rw [qx_aug] at P
    split at P
    case h_2 => exact P.elim
    rename_i a σ0 b σ hs hv
    have hρ : st.ρ[i]? = some (some (.val a)) := by
      unfold slotV at hs
      split at hs
      · rename_i v hv'; cases hs; exact hv'
      · cases hs
      · cases hs
    obtain ⟨v, nv, rv⟩ := F.vals i x _ h1 hρ
    have T := (pe_sound OK CO hfree e hex hks hm F hlen).v
    rw [hv] at T
    refine wpAny_AugAssign_Name (nv.load F.kind (T _ _ fun w H₁ s₁ x₁ r₁ => ?_))
    have N₁ := Nx.of_ss F hlen x₁
    have F₁ := N₁.fm
    have rv' : Rep (vis s₁.heap H₁) v a := Rep.mono (x₁.vis F.sto) rv
    have U := OK.inpl (op := op) (hm.nf x₁.nf) F₁.hlt (RepO.deref F₁.sto rv') (RepO.derefS F₁ hlen r₁)
    have U' := Ev.of_tr (lo := st.lo) F₁.sto F₁.hlt U
    have eS : ∀ (r : ER) (f : AV → Fs → FR), resS r st f = resS r (st.at σ) f := fun r f => by
      cases r with
      | ok v σ₂ => cases v <;> rfl
      | exc x σ₂ => rfl
      | stuck => rfl
    rw [eS] at P
    exact PostS.resK (st := st.at σ) F₁ hlen U' (P.nx N₁) fun v σ₂ _ w H₂ s₂ N₂ r₂ P₂ => nx_store N₂ h1 h3 h2 r₂ fun s' N N' => P₂ H₂ s' N'
  | .ometh i m xs fz, q, ks, ns, st, sm, env, he, hks, hef => fun A s fe H hm hA F hlen Q E P => by
    rw [qx_ometh] at P
    cases q with
    | false => exact P.elim
    | true =>
    cases fz with
    | none => exact ometh_ok OK CO hfree he hks hm F hlen P
    | some j =>
      simp only at P
      split at P
      · rename_i ys hj
        have hj := ownOf_eq hj
        obtain ⟨y, hy⟩ : ∃ y, ns[j]? = some y := by
          have : j < st.ρ.length := by
            rcases Nat.lt_or_ge j st.ρ.length with h | h
            · exact h
            · rw [List.getElem?_eq_none h] at hj; cases hj
          exact ⟨ns[j]'(by omega), by simp⟩
        obtain ⟨H', hH', hM', hT', F'⟩ := F.freeze hy hj
        have N : Nx c A ns env fe st H s (st.set j (.val (.lst ys))) H' s := ⟨⟨_, _, rfl⟩, fun b o e => ⟨o, e⟩, fun b z => .inl (hH' b z), Kv.refl _ _ _, ⟨fun b o e nf => ⟨o, e, nf⟩, Nat.le_refl _, fun z n i e => z n i (by rw [← hT']; exact e)⟩, fun n a e => by rw [hM']; exact e, fun n i e => by rw [hT']; exact e, F', by simpa using hlen, rfl, rfl⟩
        exact ometh_ok OK CO hfree (fz := some j) he hks (hm.hd hT') F' N.len (P.nx N)
      · exact P.elim
  | .ite t a b, q, ks, ns, st, sm, env, he, hks, hef => fun A s fe H hm hA F hlen Q E P => by
    rw [es_ite] at he
    obtain ⟨t', a', b', pos, rfl, hz⟩ := onS_iff he
    replace he := hz; clear hz
    simp only [Bool.and_eq_true] at he
    obtain ⟨⟨h1, h2⟩, h3⟩ := he
    have T := (pe_sound OK CO hfree t h1 hks hm F hlen).t
    rw [qx_ite] at P
    split at P
    · rename_i σ ht
      exact wpAny_If (T _ _ ht _ _ fun H₁ s₁ x₁ => pxs_sound a h2 hks hef A s₁ fe H₁ (hm.nf x₁.nf) hA (F.ss x₁) hlen Q E (P.nx (Nx.of_ss F hlen x₁)))
    · rename_i σ ht
      exact wpAny_If (T _ _ ht _ _ fun H₁ s₁ x₁ => pxs_sound b h3 hks hef A s₁ fe H₁ (hm.nf x₁.nf) hA (F.ss x₁) hlen Q E (P.nx (Nx.of_ss F hlen x₁)))
    · exact P.elim
  | .for_ i src body, q, ks, ns, st, sm, env, he, hks, hef => fun A s fe H hm hA F hlen Q E P => by
    rw [es_for_] at he
    obtain ⟨t', it, body', els, pos, rfl, hz⟩ := onS_fo he
    replace he := hz; clear hz
    obtain ⟨x, px', rfl, hz⟩ := onE_name he
    replace he := hz; clear hz
    obtain ⟨rfl, hz⟩ := nil?_eq he
    replace he := hz; clear hz
    all_goals
      simp only [Bool.and_eq_true, Bool.not_eq_true'] at he
      obtain ⟨⟨⟨hx, h0⟩, h4⟩, h5⟩ := he
      obtain ⟨h1, h2, h3⟩ := nameAt_of hks hx
      rw [qx_for_] at P
      split at P
      case h_2 => exact P.elim
      rename_i v σ hv
      have T := (pe_sound OK CO hfree src h4 hks hm F hlen).v
      rw [hv] at T
      split at P
      case h_2 => exact P.elim
      rename_i l hi
      refine for_core OK hm F hlen (encE_notSet h4 h0 env) T hi (f := fun x st => pxs O cal true (st.set i (.val x)) body) P ?_
      intro item w st' H' s' hnf F' hl' r _ Q' E' h
      refine wpAny_assign_Name (nx_store (Nx.of_kp F' hl' (Kp.refl _ _)) h1 h3 h2 r fun s₃ N13 N3 => ?_)
      exact h _ H' s₃ N3 fun Q E P => pxs_sound body h5 hks hef A s₃ fe H' (hm.nf (hnf.trans N3.nf)) hA N3.fm N3.len Q E P
  | .while_ n t body, q, ks, ns, st, sm, env, he, hks, hef => fun A s fe H hm hA F hlen Q E P => by
    rw [es_while_] at he
    obtain ⟨t', body', els, pos, rfl, hz⟩ := onS_wh he
    replace he := hz; clear hz
    obtain ⟨rfl, hz⟩ := nil?_eq he
    replace he := hz; clear hz
    all_goals
      simp only [Bool.and_eq_true] at he
      obtain ⟨h1, h2⟩ := he
      rw [qx_while_] at P
      refine wpAny_While ?_
      refine codeAny_whileLoop (fun m s' => ∃ st' H', Nx c A ns env fe st H s st' H' s' ∧ PostS c q A ns env fe st H (whileF (fun st => (pe O cal q st t).t) (fun st => pxs O cal q st body) m st') s Q E) ?_ n ⟨st, H, Nx.of_kp F hlen (Kp.refl _ _), P⟩
      rintro m s' ⟨st', H', N, P'⟩
      cases m with
      | zero => exact P'.elim
      | succ m =>
        have hm' := hm.nf N.nf
        have T := (pe_sound OK CO hfree t h1 hks hm' N.fm N.len).t
        simp only [whileF] at P'
        split at P'
        · rename_i σ ht
          refine T _ _ ht _ _ fun H₁ s₁ x₁ => ?_
          have N₁ := N.trans (Nx.of_ss N.fm N.len x₁)
          simp only [if_true]
          refine pxs_sound body h2 hks hef A s₁ fe H₁ (hm'.nf x₁.nf) hA N₁.fm N₁.len _ _ ?_
          cases hb : pxs O cal q (st'.at σ) body with
          | next st₂ => rw [hb] at P'; exact fun H₂ s₂ N₂ => ⟨m, by omega, st₂, H₂, N₁.trans N₂, P'⟩
          | cont st₂ => rw [hb] at P'; exact fun H₂ s₂ N₂ => ⟨m, by omega, st₂, H₂, N₁.trans N₂, P'⟩
          | brk st₂ => rw [hb] at P'; exact fun H₂ s₂ N₂ => P' _ _ (N₁.trans N₂)
          | ret v σ' => rw [hb] at P'; exact (P'.nx (fr := .ret v σ') N₁)
          | exc _ _ => rw [hb] at P'; exact P'.elim
          | stuck => rw [hb] at P'; exact P'.elim
        · rename_i σ ht
          refine T _ _ ht _ _ fun H₁ s₁ x₁ => ?_
          have N₁ := N.trans (Nx.of_ss N.fm N.len x₁)
          simp only [Bool.false_eq_true, if_false]
          exact wpAny_execs_nil (P' _ _ N₁)
        · exact P'.elim
  | .ret e, q, ks, ns, st, sm, env, he, hks, hef => fun A s fe H hm hA F hlen Q E P => by
    rw [es_ret] at he
    obtain ⟨o', pos, rfl, hz⟩ := onS_ret he
    replace he := hz; clear hz
    obtain ⟨ex, rfl, hz⟩ := opt?_eq he
    replace he := hz; clear hz
    rw [qx_ret] at P
    refine wpAny_Return_some (PostS.resK F hlen (pe_sound OK CO hfree e he hks hm F hlen).v P fun v σ₁ _ w H₁ s₁ N₁ r₁ P₁ => ?_)
    exact P₁ w s₁ (N₁.fm.rt r₁)
  | .retOwn i, q, ks, ns, st, sm, env, he, hks, hef => fun A s fe H hm hA F hlen Q E P => by
    rw [es_retOwn] at he
    obtain ⟨o', pos, rfl, hz⟩ := onS_ret he
    replace he := hz; clear hz
    obtain ⟨ex, rfl, hz⟩ := opt?_eq he
    replace he := hz; clear hz
    obtain ⟨x, px', rfl, hz⟩ := onE_name he
    replace he := hz; clear hz
    simp only [Bool.and_eq_true, Bool.not_eq_true', beq_iff_eq] at he
    rw [qx_retOwn] at P
    split at P
    case h_2 => exact P.elim
    rename_i xs hown
    obtain ⟨v, n, z, a, vs, rfl, ho, l, r⟩ := F.vals i x _ he.1 (ownOf_eq hown)
    obtain ⟨p, qq, nm, _⟩ := F.own i a ho
    refine wpAny_Return_some (wpAny_Name (n.load F.kind (P _ s ⟨⟨_, _, rfl⟩, fun b o e => ⟨o, e⟩, st, H, Nf.same (fun b o e n => ⟨o, e, n⟩) (Nat.le_refl _), rfl, rfl, rfl, F, ?_⟩)) he.2)
    simp only [Rep]
    obtain ⟨o, n', e', c1, d1, f1⟩ := l
    refine ⟨z, a, vs, n', rfl, ⟨fun y => ?_, o, e', c1, d1, f1, .inl rfl, fun ⟨_, z⟩ => by cases z⟩, RepL.mono (vis_hide (H := retH fe st.n0 H) (H' := H) (fun b z => by
      rcases z with z | ⟨n, _, e⟩
      · exact F.hle b z
      · exact F.sto.hidden e) (fun _ _ e => e) fun _ _ e => e) r⟩
    rcases y with y | ⟨m, _, e⟩
    · obtain ⟨o', e''⟩ := F.felt a y
      rw [qq] at e''; cases e''
    · exact nm m e
  | .brk, q, ks, ns, st, sm, env, he, hks, hef => fun A s fe H hm hA F hlen Q E P => by
    rw [es_brk] at he
    obtain ⟨pos, rfl⟩ := onS_brk he
    exact wpAny_Break (P _ _ (Nx.of_kp F hlen (Kp.refl _ _)))
  | .cont, q, ks, ns, st, sm, env, he, hks, hef => fun A s fe H hm hA F hlen Q E P => by
    rw [es_cont] at he
    obtain ⟨pos, rfl⟩ := onS_cont he
    exact wpAny_Continue (P _ _ (Nx.of_kp F hlen (Kp.refl _ _)))
  | .try_ body hs, q, ks, ns, st, sm, env, he, hks, hef => fun A s fe H hm hA F hlen Q E P => by
    rw [es_try_] at he
    obtain ⟨body', hs', els, fin, pos, rfl, hz⟩ := onS_tr he
    replace he := hz; clear hz
    obtain ⟨rfl, hz⟩ := nil?_eq he
    replace he := hz; clear hz
    obtain ⟨rfl, hz⟩ := nil?_eq he
    replace he := hz; clear hz
    all_goals
      simp only [Bool.and_eq_true] at he
      obtain ⟨⟨h1, h2⟩, h3⟩ := he
      rw [qx_try_] at P
      cases q with
      | false => exact P.elim
      | true =>
        simp only at P
        obtain ⟨outer, hA'⟩ := id hA
        have IH := pxs_sound body h1 hks hef (q := true) (st := st) A s fe H hm hA F hlen
        cases hs' with
        | nil => simp at h3
        | cons h0 hr =>
          refine wpAny_Try_except ?_
          cases hb : pxs O cal true st body with
          | exc x st' =>
            rw [hb] at P IH
            refine IH _ _ ⟨rfl, fun H' sr e s' N X => ?_⟩
            obtain ⟨ea, a0, rfl, hkp, _⟩ := id X
            have hm' := hm.nf N.nf
            obtain ⟨l, hl, ff⟩ := (hm'.kp hkp).frames
            rw [hA'] at hl; cases hl
            exact note_land X hA' hef ff fun s₃ fl => phs_sound hs h2 hks hef hm' hA' N.fm N.len fl (P.nx N)
          | next st' => rw [hb] at P IH; exact IH _ _ fun H' s' N => wpAny_execs_nil (P _ _ N)
          | brk st' => rw [hb] at P IH; exact IH _ _ P
          | cont st' => rw [hb] at P IH; exact IH _ _ P
          | ret v σ => rw [hb] at P IH; exact IH _ _ P
          | stuck => rw [hb] at P; exact P.elim
theorem pxs_sound : ∀ (p : PSs) {q : Bool} {ks : List (Str × NameKind)} {ns : List Str} {st : Fs} {sm : List Stmt} {env : Env}, encSs frees fname ks ns p sm = true → env.scope.names = ks → env.frame = some env.locals → StOk c q k ns env st (execs sm env) (pxs O cal q st p)
  | .nil, q, ks, ns, st, sm, env, he, hks, hef => fun A s fe H hm hA F hlen Q E P => by
    cases sm with
    | cons _ _ => simp [ess_nil, ess_cons, ess_frz] at he
    | nil => simp only [qxs_nil, qxs_cons, qxs_frz] at P; exact wpAny_execs_nil (P _ _ (Nx.of_kp F hlen (Kp.refl _ _)))
  | .cons p r, q, ks, ns, st, sm, env, he, hks, hef => fun A s fe H hm hA F hlen Q E P => by
    cases sm with
    | nil => simp [ess_nil, ess_cons, ess_frz] at he
    | cons sm rest =>
      simp only [ess_nil, ess_cons, ess_frz, Bool.and_eq_true] at he
      refine wpAny_execs_cons (px_sound p he.1 hks hef A s fe H hm hA F hlen _ _ ?_)
      simp only [qxs_nil, qxs_cons, qxs_frz] at P
      cases hp : px O cal q st p with
      | next st' => rw [hp] at P; exact fun H' s' N => pxs_sound r he.2 hks hef A s' fe H' (hm.nf N.nf) hA N.fm N.len Q E (P.nx N)
      | cont st' => rw [hp] at P; exact P
      | brk st' => rw [hp] at P; exact P
      | ret v σ => rw [hp] at P; exact P
      | exc x st' => rw [hp] at P; exact P
      | stuck => rw [hp] at P; exact P
  | .frz j r, q, ks, ns, st, sm, env, he, hks, hef => fun A s fe H hm hA F hlen Q E P => by
    simp only [ess_nil, ess_cons, ess_frz] at he
    simp only [qxs_nil, qxs_cons, qxs_frz] at P
    split at P
    · rename_i ys hj
      have hj := ownOf_eq hj
      obtain ⟨y, hy⟩ : ∃ y, ns[j]? = some y := by
        have : j < st.ρ.length := by
          rcases Nat.lt_or_ge j st.ρ.length with h | h
          · exact h
          · rw [List.getElem?_eq_none h] at hj; cases hj
        exact ⟨ns[j]'(by omega), by simp⟩
      obtain ⟨H', hH', hM', hT', F'⟩ := F.freeze hy hj
      have N : Nx c A ns env fe st H s (st.set j (.val (.lst ys))) H' s := ⟨⟨_, _, rfl⟩, fun b o e => ⟨o, e⟩, fun b z => .inl (hH' b z), Kv.refl _ _ _, ⟨fun b o e nf => ⟨o, e, nf⟩, Nat.le_refl _, fun z n i e => z n i (by rw [← hT']; exact e)⟩, fun n a e => by rw [hM']; exact e, fun n i e => by rw [hT']; exact e, F', by simpa using hlen, rfl, rfl⟩
      exact pxs_sound r he hks hef A s fe H' (hm.hd hT') hA F' N.len Q E (P.nx N)
    · exact P.elim
theorem phs_sound : ∀ (p : PHs) {x : EX} {ks : List (Str × NameKind)} {ns : List Str} {st : Fs} {hs : List ExceptHandler} {env : Env} {outer : List Env} {e : Addr} {A : Around} {s sr : Shared} {fe : FE} {H : Hd} {Q : Flow → Shared → Prop} {E : Value → Shared → Prop},
    encHs frees fname ks ns p hs = true → env.scope.names = ks → env.frame = some env.locals → Rm c true (k + 1) A H sr → A.frames = some (env :: outer) → Fm c (FrA A) ns env st fe H sr.heap → st.ρ.length = ns.length → Fly A (env :: outer) sr e x s →
    PostS c true A ns env fe st H (phs O cal x st p) sr Q E → wpAny c.M A (handleBy (.ref e) env hs) Q E s
  | .nil, x, ks, ns, st, hs, env, outer, e, A, s, sr, fe, H, Q, E, he, hks, hef, hm, hA, F, hlen, fl, P => P.elim
  | .cons y body r, x, ks, ns, st, hs, env, outer, e, A, s, sr, fe, H, Q, E, he, hks, hef, hm, hA, F, hlen, fl, P => by
    simp only [eh_nil, eh_cons] at he
    obtain ⟨z, pz, b₀, suite, pos, r', rfl, hz⟩ := onHd_eq he
    replace he := hz; clear hz
    all_goals
      simp only [Bool.and_eq_true, beq_iff_eq, List.contains_iff_mem] at he
      obtain ⟨⟨⟨⟨h1, h2⟩, h3⟩, h4⟩, h5⟩ := he
      subst h1
      obtain ⟨g1, g2, g3⟩ := isGlob_of hks h2
      obtain ⟨B, a0, h, tk, hs0, hlf, hfl, kh, hB, hfr⟩ := id fl
      have kp : Kp A sr s := ⟨h, tk, hs0, hlf, kh⟩
      have Fs := F.kp kp
      have Fs' : Fm c (FrA (A.mark (some (.ref e)))) ns env st fe H s.heap := Fs
      have hfls : Heap.FlyingW B (env :: outer) e (.type x.name) a0 s.heap := by rw [hs0]; exact hfl
      have hBs : ∀ b o, s.heap.get? b = some o → (∃ o', sr.heap.get? b = some o') → b ∉ (env :: outer).filterMap (·.frame) → B.get? b = some o := by rw [hs0]; exact hB
      obtain ⟨ob, hob, hobc⟩ := hfls.there
      refine wpAny_handleBy_builtin (X := x.name) (T := y.name) (b := decide (x = y)) (EX.exc y) (EX.notTup y) (EX.sub x y) (ld_boot Fs' g1 g2 g3 (hfree _ h3) (EX.boot y) ⟨rfl, ⟨ob, hob, hobc⟩, ?_⟩)
      simp only [qh_nil, qh_cons] at P
      by_cases hxy : x = y
      · rw [if_pos hxy] at P
        rw [if_pos (by simpa using hxy)]
        refine lands_againW hfls fun h₆ hfl₆ hsm₆ => ?_
        have kh₆ : Kh (FrA A) sr.heap h₆ := fly_kh kp hA hfls.2.2.1 hBs hfl₆.1 hsm₆
        have kp₆ : Kp A sr { s with heap := h₆ } := by rw [hs0]; exact ⟨h₆, tk, rfl, hlf, kh₆⟩
        have F₆ := F.kp kp₆
        have hm₆ := hm.kp kp₆
        have hmk : Rm c false (k + 1) (A.mark (some (.ref e))) H { s with heap := h₆ } := ⟨hm₆.depth, hm₆.units, fun q => by (cases q), hm₆.frames, hm₆.tok, hm₆.td⟩
        have IH := pxs_sound body h4 hks hef (q := false) (st := st) (A.mark (some (.ref e))) { s with heap := h₆ } fe H hmk ⟨outer, hA⟩ F₆ hlen
        have Nk := Nx.of_kp F hlen kp₆
        have P' := P.nx Nk
        cases hb : pxs O cal false st body with
        | next st' => rw [hb] at P' IH; exact IH _ _ fun H' s' N => P' H' s' N.mark
        | brk st' => rw [hb] at P' IH; exact IH _ _ fun H' s' N => P' H' s' N.mark
        | cont st' => rw [hb] at P' IH; exact IH _ _ fun H' s' N => P' H' s' N.mark
        | ret v σ => rw [hb] at P' IH; exact IH _ _ fun w s' N => P' w s' N.mark
        | exc _ _ => rw [hb] at P'; exact P'.elim
        | stuck => rw [hb] at P'; exact P'.elim
      · rw [if_neg hxy] at P
        rw [if_neg (by simpa using hxy)]
        exact phs_sound r h5 hks hef hm hA F hlen fl P
end
end
end Mine
end
section
open PySem PySem.W PyProof.Rows
set_option linter.unusedVariables false
set_option linter.unusedSectionVars false
namespace Mine

theorem cellsFrom_keep : ∀ (names : List (Str × NameKind)) (n : Nat) (acc : List (Str × Addr)) (x : Str), (acc.lookup x).isSome = true → ((cellsFrom n names acc).lookup x).isSome = true
  | [], _, _, _, h => h
  | (m, kd) :: r, n, acc, x, h => by
    unfold cellsFrom
    split
    · refine cellsFrom_keep r _ _ x ?_
      rw [List.lookup_cons]
      cases hb : x == m with
      | true => rfl
      | false => exact h
    · exact cellsFrom_keep r _ _ x h
theorem cellsFrom_mem : ∀ (names : List (Str × NameKind)) (n : Nat) (acc : List (Str × Addr)) (x : Str), (x, NameKind.cell) ∈ names → ((cellsFrom n names acc).lookup x).isSome = true
  | [], _, _, _, h => by cases h
  | (m, kd) :: r, n, acc, x, h => by
    unfold cellsFrom
    rcases List.mem_cons.mp h with e | h
    · cases e
      rw [if_pos (by decide)]
      refine cellsFrom_keep r _ _ _ ?_
      simp [List.lookup_cons]
    · split
      · exact cellsFrom_mem r _ _ x h
      · exact cellsFrom_mem r _ _ x h

theorem bindL_out {kd : Str → Option NameKind} : ∀ (ns : List Str) (vs : List Value) (m : Str → Option Value) (x : Str), x ∉ ns → bindL kd (ns.zip vs) m x = m x
  | [], _, _, _, _ => rfl
  | _ :: _, [], _, _, _ => rfl
  | n :: ns, v :: vs, m, x, h => by
    simp only [List.zip_cons_cons, bindL]
    rw [bindL_out ns vs _ x fun q => h (List.mem_cons_of_mem _ q)]
    have : x ≠ n := fun q => h (q ▸ List.mem_cons_self ..)
    split <;> simp [this]
theorem bindL_in {kd : Str → Option NameKind} : ∀ (ns : List Str) (vs : List Value) (m : Str → Option Value) (i : Nat) (x : Str) (v : Value), ns.Nodup → ns[i]? = some x → vs[i]? = some v → kd x = some .local → bindL kd (ns.zip vs) m x = some v
  | [], _, _, _, _, _, _, h, _, _ => by simp at h
  | _ :: _, [], _, _, _, _, _, _, h, _ => by simp at h
  | n :: ns, w :: vs, m, i, x, v, nd, hx, hv, hk => by
    simp only [List.zip_cons_cons, bindL]
    cases i with
    | zero =>
      simp at hx hv
      subst hx; subst hv
      rw [bindL_out ns vs _ _ (List.nodup_cons.mp nd).1, if_pos hk]
      simp
    | succ i => simp at hx hv; exact bindL_in ns vs _ i x v (List.nodup_cons.mp nd).2 hx hv hk
theorem bindC_out {kd : Str → Option NameKind} : ∀ (ns : List Str) (vs : List Value) (m : Str → Option Value) (x : Str), x ∉ ns → bindC kd (ns.zip vs) m x = m x
  | [], _, _, _, _ => rfl
  | _ :: _, [], _, _, _ => rfl
  | n :: ns, v :: vs, m, x, h => by
    simp only [List.zip_cons_cons, bindC]
    rw [bindC_out ns vs _ x fun q => h (List.mem_cons_of_mem _ q)]
    have : x ≠ n := fun q => h (q ▸ List.mem_cons_self ..)
    split <;> simp [this]
theorem bindC_in {kd : Str → Option NameKind} : ∀ (ns : List Str) (vs : List Value) (m : Str → Option Value) (i : Nat) (x : Str) (v : Value), ns.Nodup → ns[i]? = some x → vs[i]? = some v → kd x ≠ some .local → bindC kd (ns.zip vs) m x = some v
  | [], _, _, _, _, _, _, h, _, _ => by simp at h
  | _ :: _, [], _, _, _, _, _, _, h, _ => by simp at h
  | n :: ns, w :: vs, m, i, x, v, nd, hx, hv, hk => by
    simp only [List.zip_cons_cons, bindC]
    cases i with
    | zero =>
      simp at hx hv
      subst hx; subst hv
      rw [bindC_out ns vs _ _ (List.nodup_cons.mp nd).1, if_neg hk]
      simp
    | succ i => simp at hx hv; exact bindC_in ns vs _ i x v (List.nodup_cons.mp nd).2 hx hv hk

/-- a def of the text; n values come in, the rest are its own -/
noncomputable def FnAt (c : Cx) (f : Str) (body : List Stmt) (scope : Scope) (ns : List Str) (np n : Nat) (xs : List AV) : Prop :=
  ∃ a o fd vs0, c.mg f = some (.ref a) ∧ c.h0.get? a = some o ∧ o.data = .func fd ∧ fd.body = .stmts body ∧ fd.scope = scope ∧ fd.globals = mainGlobals ∧ fd.closure = [] ∧ fd.builtins = builtinsNs ∧ fd.qualname = f ∧ c.h0.CodeRec fd.code f ∧
    (∀ R : Vw, RepL R vs0 xs) ∧ ∀ (s : Shared) vs, c.h0.StaysIn s.heap → vs.length = n → BindsTo s fd ⟨vs, []⟩ ((ns.take np).zip (vs ++ vs0))
theorem FnAt.obj {c : Cx} {f : Str} {body : List Stmt} {scope : Scope} {ns : List Str} {np n : Nat} {xs : List AV} (h : FnAt c f body scope ns np n xs) : FnObj c f := let ⟨a, o, fd, _, h1, h2, h3, _⟩ := h; ⟨a, o, fd, h1, h2, h3⟩
/-- a def is entered -/
theorem enter_def {prog : Program} {w : World} {A : Around} {R : Result → Shared → Prop} {s : Shared} {name : Str} {body : List Stmt} {scope : Scope} {fd : FuncData} {a : Addr} {o : Obj} {args : List Value} {binds : List (Str × Value)}
    (hroom : A.depth < recursionLimit) (ho : s.heap.get? a = some o) (hdata : o.data = .func fd) (hlim : s.heap.NoLimit) (hcd : s.heap.CodeRec fd.code name)
    (e1 : fd.body = .stmts body) (e2 : fd.scope = scope) (e3 : fd.globals = mainGlobals) (e4 : fd.closure = []) (e5 : fd.builtins = builtinsNs) (e6 : fd.qualname = name)
    (hbind : BindsTo s fd ⟨args, []⟩ binds)
    (hkind : ∀ x ∈ binds, scope.names.lookup x.1 = some .local ∨ (scope.names.lookup x.1 = some .cell ∧ ((cellsFrom (s.heap.objs.size + 1) scope.names []).lookup x.1).isSome = true))
    (h : ∀ h₁ tk, s.toks ≤ tk → Fr s.heap s.heap.objs.size h₁ (bindL (envOfC name scope s.heap.objs.size a fd.code).kindOf binds fun _ => none) →
      Cl s.heap.objs.size (cellsFrom (s.heap.objs.size + 1) scope.names []) h₁ (bindC (envOfC name scope s.heap.objs.size a fd.code).kindOf binds fun _ => none) →
      wpAny (model prog w) (A.deeper (envOfC name scope s.heap.objs.size a fd.code)) (execs body (envOfC name scope s.heap.objs.size a fd.code))
        (fun f s' => R (.ok (.ret (match f with | .ret v => v | _ => .none))) s')
        (fun e s' => wpAny (model prog w) (A.deeper (envOfC name scope s.heap.objs.size a fd.code)) (leaving (envOfC name scope s.heap.objs.size a fd.code) e)
          (fun _ s'' => R (.error e) s'') (fun e' s'' => R (.error e') s'') s')
        { s with heap := h₁, toks := tk })
    (hco : scope.isCoroutine = false) (hgen : scope.isGenerator = false) (hk : scope.kind = .function) :
    codeAny (model prog w) A (.call (.ref a) ⟨args, []⟩) R s := by
  have ee : callEnvC fd s.heap.objs.size a = envOfC name scope s.heap.objs.size a fd.code := by
    subst e2; subst e6
    unfold callEnvC envOfC
    simp only [e3, e5]
    rfl
  rw [← ee] at h
  subst e2; subst e6
  refine codeAny_call_function hroom ho hdata hco hgen e1 hcd (hbind _ _ _ _ ?_)
  rw [e4]
  refine wpAny_up (wpAny_newFunctionEnv_cells hk hkind fun env he s' x hle => ?_)
  subst he
  refine ⟨hlim.keeps x.toInCall.keep, codeAny_func ?_⟩
  obtain ⟨h₁, tk, rfl, _⟩ := x.done
  have x' := x.toInCall
  exact h h₁ tk hle ⟨x'.ns, x'.keep, x'.fresh⟩ ⟨x.cell, x.apart, x.above⟩

noncomputable def fnRes : FR → ER
  | .ret v σ => .ok (.av v) σ
  | .next st => .ok (.av .none) st.σ
  | .exc x st => .exc x st.σ
  | _ => .stuck
noncomputable def rho0 (args : List AV) (n : Nat) : List (Option Ent) := args.map (fun a => some (.val a)) ++ List.replicate (n - args.length) none
/-- a def's beginning -/
noncomputable def st0 (args : List AV) (n : Nat) (σ : Store) (lo : Nat) : Fs := ⟨rho0 args n, σ, lo, σ.length⟩

/-- what is looked at of a def's text -/
noncomputable def fnOk (frees : List Str) (fname : Nat → Str) (scope : Scope) (ns : List Str) (np : Nat) (p : PSs) (body : List Stmt) : Bool :=
  scope.kind == .function && !scope.isGenerator && !scope.isCoroutine && encSs frees fname scope.names ns p body && decide ((ns.take np).Nodup) && decide (np ≤ ns.length) && (ns.take np).all (fun x => scope.names.lookup x == some .local || scope.names.lookup x == some .cell)

/-- what the caller gets -/
theorem ret_ss {c : Cx} {A A' : Around} {ns : List Str} {env : Env} {st' : Fs} {σ : Store} {lo : Nat} {H H' : Hd} {s s' : Shared} (S : Sto σ H s.heap) (F : Fm c (FrA A') ns env st' ⟨s.heap, H, Wr σ H lo⟩ H' s'.heap) (hn : st'.n0 = σ.length) (hF : ∀ b o, s.heap.get? b = some o → FrA A' b → FrA A b)
    (rest : ∃ h' tk, s' = { s with heap := h', toks := tk }) (lv : ∀ b o, s.heap.get? b = some o → ∃ o', s'.heap.get? b = some o') (nf : Nf H s H' s') : Ss A lo σ H s st'.σ (retH ⟨s.heap, H, Wr σ H lo⟩ σ.length H') s' := by
  have sub : ∀ b, (retH ⟨s.heap, H, Wr σ H lo⟩ σ.length H').p b → H'.p b := fun b z => by
    rcases z with z | ⟨n, _, e⟩
    · exact F.hle b z
    · exact F.sto.hidden e
  have old : ∀ n b, n < σ.length → H'.m n = some b → H.m n = some b := fun n b l e => F.mold n b (by rw [hn]; exact l) e
  exact {
    rest := rest
    kv := fun b o n e => by
      obtain ⟨p1, p2⟩ := F.keep b o n e
      exact ⟨fun f => p1 (f.imp (fun f z => f (hF b o e z)) id), p2⟩
    lv := lv
    nf := nf
    te := F.tle
    hp := fun b z => .inl z
    hid := fun b z => by
      rcases z with z | ⟨n, l, e⟩
      · exact .inl z
      · exact .inr (F.mnew n b (by rw [hn]; exact l) e)
    mx := fun n b e => F.mle n b e
    mn := fun n b e => by
      rcases Nat.lt_or_ge n σ.length with l | l
      · exact .inl (old n b l e)
      · exact .inr ⟨l, F.mnew n b (by rw [hn]; exact l) e⟩
    o := rfl
    sto := ⟨fun n mo e => by
        obtain ⟨b, e1, r⟩ := F.sto.at' n mo e
        exact ⟨b, e1, r.kv (Kv.refl (fun _ => False) (fun _ => False) _) id (vis_hide (H := retH ⟨s.heap, H, Wr σ H lo⟩ σ.length H') (H' := H') sub (fun _ _ e => e) fun _ _ e => e)⟩, F.sto.inj, F.sto.lt, fun n b mo _ e => by
        rcases Nat.lt_or_ge n σ.length with l | l
        · exact .inl (S.hidden (old n b l e))
        · exact .inr ⟨n, l, e⟩, F.sto.al, F.sto.tot⟩
    live := fun b z => F.hlt b (sub b z)
    len := by have := F.n0le; omega
    rv := fun n mo l e => by
      obtain ⟨b, e1, _⟩ := F.sto.at' n mo e
      exact S.tot n b (old n b l e1)
    hm0 := S.lt }

noncomputable def FnAtC (c : Cx) (f : Str) (body : List Stmt) (scope : Scope) (ns : List Str) (np n : Nat) (xs : List AV) (code : Value) : Prop :=
  ∃ a o fd vs0, c.mg f = some (.ref a) ∧ c.h0.get? a = some o ∧ o.data = .func fd ∧ fd.body = .stmts body ∧ fd.scope = scope ∧ fd.globals = mainGlobals ∧ fd.closure = [] ∧ fd.builtins = builtinsNs ∧ fd.qualname = f ∧ c.h0.CodeRec fd.code f ∧ fd.code = code ∧
    (∀ R : Vw, RepL R vs0 xs) ∧ ∀ (s : Shared) vs, c.h0.StaysIn s.heap → vs.length = n → BindsTo s fd ⟨vs, []⟩ ((ns.take np).zip (vs ++ vs0))
theorem FnAt.c {c : Cx} {f : Str} {body : List Stmt} {scope : Scope} {ns : List Str} {np n : Nat} {xs : List AV} (h : FnAt c f body scope ns np n xs) : ∃ code, FnAtC c f body scope ns np n xs code :=
  let ⟨a, o, fd, vs0, h1, h2, h3, e1, e2, e3, e4, e5, e6, hcr, r⟩ := h; ⟨fd.code, a, o, fd, vs0, h1, h2, h3, e1, e2, e3, e4, e5, e6, hcr, rfl, r⟩
noncomputable def fnOkC (scope : Scope) (ns : List Str) (np : Nat) : Bool :=
  scope.kind == .function && !scope.isGenerator && !scope.isCoroutine && decide ((ns.take np).Nodup) && decide (np ≤ ns.length) && (ns.take np).all (fun x => scope.names.lookup x == some .local || scope.names.lookup x == some .cell)
theorem code_ofC {c : Cx} {k : Nat} {f : Str} {body : List Stmt} {scope : Scope} {ns : List Str} {np n : Nat} {args xs : List AV} {σ : Store} {lo : Nat} {code : Value} {fr : FR} (hf : FnAtC c f body scope ns np n xs code) (hok : fnOkC scope ns np = true)
    (hargs : args.length = n) (hnp : n + xs.length = np) (SS : ∀ env, env.scope = scope → env.frame = some env.locals → env.code = code → StOk c true k ns env (st0 (args ++ xs) ns.length σ lo) (execs body env) fr) :
    ∀ {A : Around} {s : Shared} {H : Hd} {vs : List Value} {a : Addr} {Q E : Value → Shared → Prop}, Rm c true (k + 2) A H s → c.h0.StaysIn s.heap → Live H s.heap → Sto σ H s.heap → (∀ n a, H.m n = some a → c.h0.get? a = none) → RepL (vis s.heap H) vs args → c.mg f = some (.ref a) →
      PostE true A lo σ H (fnRes fr) s Q E → codeAny c.M A (.call (.ref a) ⟨vs, []⟩) (fun r s' => match r with | .ok (.ret v) => Q v s' | .ok _ => False | .error e => E e s') s := by
  intro A s H vs a Q E hm hst hL S hm0 hr hmg P
  obtain ⟨a', o, fd, vs0, h1, h2, h3, e1, e2, e3, e4, e5, e6, hcr, hcode0, hr0, hbind⟩ := hf
  rw [hmg] at h1; cases h1
  have hvl0 : vs.length = n := by rw [hr.length, hargs]
  have hbd := hbind s vs hst hvl0
  have hr := hr.append (hr0 (vis s.heap H))
  clear hbind hr0
  have hcr' := hcr
  rw [hcode0] at hcr'
  have hcode := hcode0
  have enter := fun (R : Result → Shared → Prop) hkind hh k3 k2 k1 => enter_def (A := A) (R := R) (w := c.w) (prog := c.prog) (by have := hm.depth; omega) (hst a o h2) h3 (c.nolimit.keeps hst) (hcr.keeps hst) e1 e2 e3 e4 e5 e6 hbd hkind hh k3 k2 k1
  rw [hcode] at enter
  clear hbd hcr
  have hargs : (args ++ xs).length = np := by rw [List.length_append, hargs, hnp]
  generalize args ++ xs = args at hr hargs P SS ⊢
  generalize hvv : vs ++ vs0 = vv at hr enter
  have h4 := hcr'
  simp only [fnOkC, Bool.and_eq_true, beq_iff_eq, Bool.not_eq_true', decide_eq_true_eq, List.all_eq_true, Bool.or_eq_true] at hok
  obtain ⟨⟨⟨⟨⟨k1, k2⟩, k3⟩, k5⟩, k6⟩, k7⟩ := hok
  have hvl : vv.length = np := by rw [hr.length, hargs]
  have hkind : ∀ x ∈ (ns.take np).zip vv, scope.names.lookup x.1 = some .local ∨ (scope.names.lookup x.1 = some .cell ∧ ((cellsFrom (s.heap.objs.size + 1) scope.names []).lookup x.1).isSome = true) := fun x hx => by
    rcases k7 x.1 (List.of_mem_zip hx).1 with h | h
    · exact .inl h
    · exact .inr ⟨h, cellsFrom_mem _ _ _ _ (mem_of_lookup h)⟩
  refine enter _ hkind (fun h₁ tk hle F₁ X₁ => ?_) k3 k2 k1
  generalize hEnv : envOfC f scope s.heap.objs.size a code = env at F₁ X₁ ⊢
  have eL : env.locals = s.heap.objs.size := by rw [← hEnv]; rfl
  have eS : env.scope = scope := by rw [← hEnv]; rfl
  have eC : env.cells = cellsFrom (s.heap.objs.size + 1) scope.names [] := by rw [← hEnv]; rfl
  have eF : env.frame = some env.locals := by rw [← hEnv]; rfl
  have eG : env.globals = mainGlobals := by rw [← hEnv]; rfl
  have eB : env.builtins = builtinsNs := by rw [← hEnv]; rfl
  have eCo : env.code = code := by rw [← hEnv]; rfl
  have eK : ∀ x, env.kindOf x = scope.names.lookup x := fun x => by show env.scope.names.lookup x = _; rw [eS]
  rw [← eC] at X₁
  rw [← eL] at F₁ X₁
  obtain ⟨l, hl, ff⟩ := hm.frames
  have dead : ∀ b, s.heap.objs.size ≤ b → s.heap.get? b = none := fun b hb => Heap.get?_none_of_le hb
  have deadL : s.heap.get? env.locals = none := dead _ (Nat.le_of_eq eL.symm)
  have deadC : ∀ x cc, env.cells.lookup x = some cc → s.heap.get? cc = none := fun x cc q => dead _ (by have := X₁.above x cc (mem_of_lookup q); rw [eL] at this; exact Nat.le_of_lt this)
  have h0L : c.h0.get? env.locals = none := by
    cases e : c.h0.get? env.locals with
    | none => rfl
    | some o' => have := hst _ _ e; rw [deadL] at this; cases this
  have hA' : (A.deeper env).frames = some (env :: l) := by show A.frames.map (env :: ·) = _; rw [hl]; rfl
  have ff' : h₁.FunFrames c.h0 (env :: l) := by
    refine ⟨by rw [eS, k1]; decide, ?_, (Kh.of_keeps (F := fun _ => False) F₁.keep).nh.frames ff⟩
    obtain ⟨oL, es, ep, e, d, _⟩ := F₁.ns
    exact ⟨env.locals, oL, eF, h0L, e, fun vs z => by rw [d] at z; cases z⟩
  have frs : ∀ b, FrA (A.deeper env) b → b = env.locals ∨ FrA A b := fun b ⟨l', e1, e2⟩ => by
    rw [hA'] at e1; cases e1
    rw [List.filterMap_cons, eF] at e2
    rcases List.mem_cons.mp e2 with e2 | e2
    · exact .inl e2
    · exact .inr ⟨l, hl, e2⟩
  have hFrL : FrA (A.deeper env) env.locals := ⟨_, hA', by rw [List.filterMap_cons, eF]; exact List.mem_cons_self ..⟩
  generalize hH0 : (⟨fun b => H.p b ∨ b = env.locals ∨ ∃ x, env.cells.lookup x = some b, H.m, fun _ => none, H.t⟩ : Hd) = H₀
  have p0 : ∀ b, H₀.p b ↔ (H.p b ∨ b = env.locals ∨ ∃ x, env.cells.lookup x = some b) := fun b => by rw [← hH0]
  have te0 : H₀.t = H.t := by rw [← hH0]
  have t0 : ∀ n i, H.t n = some i → H₀.t n = some i := fun n i e => by rw [te0]; exact e
  have m0 : H₀.m = H.m := by rw [← hH0]
  have live : Live H₀ h₁ := fun b z => by
    rcases (p0 b).mp z with z | rfl | ⟨x, z⟩
    · obtain ⟨o', e⟩ := hL b z; exact ⟨o', F₁.keep b o' e⟩
    · obtain ⟨oL, es, ep, e, _⟩ := F₁.ns; exact ⟨oL, e⟩
    · obtain ⟨o', e, _⟩ := X₁.cell x b z; exact ⟨o', e⟩
  have hHN : ∀ b, H₀.p b → H.p b ∨ s.heap.get? b = none := fun b z => by
    rcases (p0 b).mp z with z | rfl | ⟨x, z⟩
    · exact .inl z
    · exact .inr deadL
    · exact .inr (deadC x b z)
  have kh1 : Kh (FrA (A.deeper env)) s.heap h₁ := Kh.of_keeps F₁.keep
  have hlen0 : (rho0 args ns.length).length = ns.length := by
    unfold rho0
    rw [List.length_append, List.length_map, List.length_replicate]
    omega
  have getv : ∀ (i : Nat) t, (rho0 args ns.length)[i]? = some (some t) → ∃ x, args[i]? = some x ∧ t = .val x := fun i t h => by
    unfold rho0 at h
    by_cases hi : i < args.length
    · rw [List.getElem?_append_left (by simpa using hi), List.getElem?_map] at h
      cases e : args[i]? with
      | none => rw [e] at h; cases h
      | some x => rw [e] at h; simp at h; exact ⟨x, rfl, h.symm⟩
    · rw [List.getElem?_append_right (by simpa using hi), List.getElem?_replicate] at h
      split at h <;> simp at h
  have F : Fm c (FrA (A.deeper env)) ns env (st0 args ns.length σ lo) ⟨s.heap, H, Wr σ H lo⟩ H₀ h₁ := {
    keep := kh1.kv
    wsub := fun b ⟨n, mo, _, e1, e2⟩ => S.hid n b mo e1 e2
    base := hst
    baseF := fun b z => by
      rcases frs b z with rfl | ⟨l', e1, e2⟩
      · exact h0L
      · rw [hl] at e1; cases e1
        exact (ff.mem e2).1
    basew := fun b ⟨n, mo, _, e1, e2⟩ => hm0 n b e2
    hle := fun b z => (p0 b).mpr (.inl z)
    mle := fun n b e => by rw [m0]; exact e
    mold := fun n b _ e => by rw [m0] at e; exact e
    mnew := fun n b l e => by
      rw [m0] at e
      exact absurd (S.lt n b e) (Nat.not_lt.mpr l)
    mw := fun n b mo _ l q e => ⟨n, mo, l, q, by rw [← m0]; exact e⟩
    hlt := live
    felt := hL
    wlt := fun b ⟨n, mo, _, e1, e2⟩ => S.al n b e2
    kind := by rw [eS]; exact k1
    glob := eG
    bi := eB
    code := let ⟨cd, o, vs, _, e, g, d, _⟩ := h4; ⟨cd, o, vs, eCo.trans e, g, d⟩
    ns := ⟨_, F₁.ns⟩
    hl := (p0 _).mpr (.inr (.inl rfl))
    lnew := deadL
    hc := fun x cc _ q => ⟨(p0 _).mpr (.inr (.inr ⟨x, q⟩)), deadC x cc q⟩
    cl := fun x q => by
      rw [eK] at q
      have := cellsFrom_mem scope.names (s.heap.objs.size + 1) [] x (mem_of_lookup q)
      rw [← eC] at this
      obtain ⟨cc, e⟩ := Option.isSome_iff_exists.mp this
      exact ⟨cc, _, e, X₁.cell x cc e⟩
    capart := fun x y cc h1 h2 => name_of_addr X₁.apart (mem_of_lookup h1) (mem_of_lookup h2)
    vals := fun i x t hx ht => by
      obtain ⟨av, hav, rfl⟩ := getv i t ht
      obtain ⟨v, hv, hrv⟩ := hr.get hav
      have hi : i < np := by
        rcases Nat.lt_or_ge i args.length with h | h
        · omega
        · rw [List.getElem?_eq_none h] at hav; cases hav
      have hx' : (ns.take np)[i]? = some x := by rw [List.getElem?_take, if_pos hi]; exact hx
      refine ⟨v, ?_, Rep.mono (vis_new (Kh.of_keeps (F := fun _ => False) F₁.keep) hHN t0 fun n a e => by rw [m0]; exact e) hrv⟩
      rcases k7 x (List.mem_of_getElem? hx') with hk | hk
      · exact .inl ⟨by rw [eK]; exact hk, _, F₁.ns, bindL_in _ _ _ i x v k5 hx' hv (by rw [eK]; exact hk)⟩
      · have := cellsFrom_mem scope.names (s.heap.objs.size + 1) [] x (mem_of_lookup hk)
        rw [← eC] at this
        obtain ⟨cc, e⟩ := Option.isSome_iff_exists.mp this
        have hcell := X₁.cell x cc e
        rw [bindC_in _ _ _ i x v k5 hx' hv (by rw [eK, hk]; decide)] at hcell
        exact .inr ⟨by rw [eK]; exact hk, cc, e, hcell⟩
    own := fun i b e => by rw [← hH0] at e; cases e
    oinj := fun i j b e => by rw [← hH0] at e; cases e
    mh0 := fun n b e => hm0 n b (by rw [← m0]; exact e)
    sto := S.new kh1 (fun b z => (p0 b).mpr (.inl z)) hHN t0 m0
    n0le := Nat.le_refl _
    tle := t0 }
  have hm' : Rm c true (k + 1) (A.deeper env) H₀ { s with heap := h₁, toks := tk } := ⟨by have := hm.depth; show A.depth + 1 + (k + 1) < _; omega, by have := hm.units; show A.units + 3 + 8 * (k + 1) < _; omega, fun h => hm.hand h, ⟨_, hA', ff'⟩, Nat.lt_of_lt_of_le hm.tok hle, fun t i e => Nat.lt_of_lt_of_le (hm.td t i (by rw [← te0]; exact e)) hle⟩
  have hF : ∀ b o, s.heap.get? b = some o → FrA (A.deeper env) b → FrA A b := fun b o e z => by
    rcases frs b z with rfl | z
    · rw [deadL] at e; cases e
    · exact z
  have ss : ∀ {st' : Fs} {H' : Hd} {s' : Shared}, Fm c (FrA (A.deeper env)) ns env st' ⟨s.heap, H, Wr σ H lo⟩ H' s'.heap → st'.n0 = σ.length → (∃ h' tk', s' = { s with heap := h', toks := tk' }) → (∀ b o, h₁.get? b = some o → ∃ o', s'.heap.get? b = some o') → Nf H₀ { s with heap := h₁, toks := tk } H' s' → Ss A lo σ H s st'.σ (retH ⟨s.heap, H, Wr σ H lo⟩ σ.length H') s' :=
    fun {st' H' s'} F' hn rest lv nf => ret_ss S F' hn hF rest (fun b o e => lv b o (F₁.keep b o e)) ((show Nf H s H₀ { s with heap := h₁, toks := tk } from ⟨kh1.nh, hle, fun z t i e => Nat.lt_of_lt_of_le (z t i (by rw [← te0]; exact e)) hle⟩).trans nf)
  have S1 := SS env eS eF eCo (A.deeper env) { s with heap := h₁, toks := tk } ⟨s.heap, H, Wr σ H lo⟩ _ hm' ⟨l, hA'⟩ F hlen0
  cases hp : fr with
  | ret v σ' =>
    rw [hp] at S1 P
    refine S1 _ _ fun w s' R => ?_
    obtain ⟨st', H', nf, e1, e2, e3, F', r'⟩ := R.back
    subst e1
    exact P w _ s' (ss F' e2 (let ⟨h', t', e⟩ := R.rest; ⟨h', t', e⟩) R.lv nf) r'
  | next st' =>
    rw [hp] at S1 P
    exact S1 _ _ fun H' s' N => P _ _ s' (ss N.fm N.n0 (let ⟨h', t', e⟩ := N.rest; ⟨h', t', e⟩) N.lv N.nf) (by simp [RepW, Rep])
  | exc x st' =>
    rw [hp] at S1 P
    refine S1 _ _ ⟨rfl, fun H' sr e s' N X => ?_⟩
    obtain ⟨ea, a0, rfl, hkp, hdead, _⟩ := id X
    obtain ⟨l', hl', ff2⟩ := ((hm'.nf N.nf).kp hkp).frames
    rw [hA'] at hl'; cases hl'
    show wpAny c.M (A.deeper env) (noteFrame (.ref ea) env >>= fun _ => setFlight (.ref ea) none) _ _ s'
    refine wpAny_bind (note_land X hA' eF ff2 fun s₃ fl => ?_)
    obtain ⟨B, a1, h₃, tk₃, hs₃, hlf, hfl, kh₃, hB, hfr⟩ := fl
    -- the state at the raise, with the frame's slots as they are now
    obtain ⟨mL, oL, esL, epL, eLo, dLo, rLo⟩ := N.fm.ns
    obtain ⟨sl, eL3⟩ := (kh₃ env.locals oL eLo).2
    have fr : ({ oL with slots := sl } : Obj).isFreed = false := by
      have : ({ oL with slots := sl } : Obj).data = .dict esL epL := dLo
      unfold Obj.isFreed
      rw [this]
    have up : (sr.heap.update env.locals fun o => { o with slots := sl }).get? env.locals = some { oL with slots := sl } := Heap.get?_update_self _ eLo fr
    have ot : ∀ b, b ≠ env.locals → (sr.heap.update env.locals fun o => { o with slots := sl }).get? b = sr.heap.get? b := fun b hb => Heap.get?_update_other _ _ (Ne.symm hb)
    have khu : Kh (FrA (A.deeper env)) sr.heap (sr.heap.update env.locals fun o => { o with slots := sl }) := fun b o e => by
      by_cases hb : b = env.locals
      · subst hb
        rw [eLo] at e; cases e
        refine ⟨fun z => ?_, sl, up⟩
        rcases z with z | ⟨fs, z⟩
        · exact absurd hFrL z
        · rw [dLo] at z; cases z
      · exact ⟨fun _ => (ot b hb).trans e, o.slots, (ot b hb).trans e⟩
    have F2 := N.fm.step khu
    obtain ⟨hr', tr', er⟩ := N.rest
    have ss2 := ss (s' := { sr with heap := sr.heap.update env.locals fun o => { o with slots := sl } }) F2 N.n0 ⟨_, tr', by rw [er]⟩ (fun b o e => let ⟨o', e'⟩ := N.lv b o e; let ⟨_, e''⟩ := (khu b o' e').2; ⟨_, e''⟩) (N.nf.trans (Nf.same khu.nh (Nat.le_refl _)))
    refine P.2 _ _ _ _ ss2 ⟨ea, a1, rfl, ⟨h₃, tk₃, by rw [hs₃], hlf, fun b o e => ?_⟩, ?_, .inr (.inl ?_)⟩
    · by_cases hb : b = env.locals
      · subst hb
        have e : (sr.heap.update env.locals fun o => { o with slots := sl }).get? env.locals = some o := e
        rw [up] at e; cases e
        exact ⟨fun _ => eL3, sl, eL3⟩
      · have e : (sr.heap.update env.locals fun o => { o with slots := sl }).get? b = some o := e
        rw [ot b hb] at e
        obtain ⟨q1, q2⟩ := kh₃ b o e
        refine ⟨fun f => q1 (f.imp (fun f z => ?_) id), q2⟩
        rcases frs b z with z | z
        · exact hb z
        · exact f z
    · have : ea ≠ env.locals := fun z => by rw [z, eLo] at hdead; cases hdead
      show (sr.heap.update env.locals fun o => { o with slots := sl }).get? ea = none
      rw [ot ea this]; exact hdead
    · obtain ⟨_, _, _, oe, ws, T, oT, ts, he, hcl, hd, h1', hT, hTe, hoT, hdT, h3'⟩ := hfl
      rw [hs₃]
      refine ⟨oe, ws, T, oT, ts, he, hcl, hd, h1', ?_, hTe, hoT, hdT, h3'⟩
      have hTl : T ≠ env.locals := fun z => by
        have hoT : h₃.get? T = some oT := hoT
        rw [z, eL3] at hoT; cases hoT
        have hdT : oL.data = _ := hdT
        rw [dLo] at hdT; cases hdT
      show (sr.heap.update env.locals fun o => { o with slots := sl }).get? T = none
      rw [ot T hTl]
      cases e : sr.heap.get? T with
      | none => rfl
      | some o' =>
        exfalso
        by_cases hTf : T ∈ (env :: l).filterMap (·.frame)
        · obtain ⟨o2, e3, nf⟩ := hfr T hTf
          have hoT : h₃.get? T = some oT := hoT
          rw [hoT] at e3; cases e3
          exact nf _ hdT
        · have := hB T oT hoT ⟨_, e⟩ hTf
          rw [hT] at this; cases this
  | brk _ => rw [hp] at P; exact P.elim
  | cont _ => rw [hp] at P; exact P.elim
  | stuck => rw [hp] at P; exact P.elim

section
variable {c : Cx} {O : OpsF} (OK : OpsOk c O) {k : Nat} {cal : Cal} {fname : Nat → Str} (CO : CallsOk c k cal fname) {frees : List Str} (hfree : ∀ x ∈ frees, c.mg x = none)
include OK CO hfree

theorem code_of {f : Str} {body : List Stmt} {scope : Scope} {ns : List Str} {np n : Nat} {p : PSs} {args xs : List AV} {σ : Store} {lo : Nat} (hf : FnAt c f body scope ns np n xs) (hok : fnOk frees fname scope ns np p body = true)
    (hargs : args.length = n) (hnp : n + xs.length = np) :
    ∀ {A : Around} {s : Shared} {H : Hd} {vs : List Value} {a : Addr} {Q E : Value → Shared → Prop}, Rm c true (k + 2) A H s → c.h0.StaysIn s.heap → Live H s.heap → Sto σ H s.heap → (∀ n a, H.m n = some a → c.h0.get? a = none) → RepL (vis s.heap H) vs args → c.mg f = some (.ref a) →
      PostE true A lo σ H (fnRes (pxs O cal true (st0 (args ++ xs) ns.length σ lo) p)) s Q E → codeAny c.M A (.call (.ref a) ⟨vs, []⟩) (fun r s' => match r with | .ok (.ret v) => Q v s' | .ok _ => False | .error e => E e s') s := by
  obtain ⟨code, hf⟩ := hf.c
  simp only [fnOk, Bool.and_eq_true] at hok
  obtain ⟨⟨⟨⟨⟨⟨k1, k2⟩, k3⟩, k4⟩, k5⟩, k6⟩, k7⟩ := hok
  exact code_ofC hf (by simp only [fnOkC, Bool.and_eq_true]; exact ⟨⟨⟨⟨⟨k1, k2⟩, k3⟩, k5⟩, k6⟩, k7⟩) hargs hnp fun env eS eF _ => pxs_sound OK CO hfree p k4 (by rw [eS]) eF

theorem calls_of {f : Str} {body : List Stmt} {scope : Scope} {ns : List Str} {np n : Nat} {p : PSs} {args xs : List AV} {σ : Store} {lo : Nat} (hf : FnAt c f body scope ns np n xs) (hok : fnOk frees fname scope ns np p body = true)
    (hargs : args.length = n) (hnp : n + xs.length = np) :
    Calls c (k + 2) f σ lo args (fnRes (pxs O cal true (st0 (args ++ xs) ns.length σ lo) p)) := by
  intro A s H vs a hm hst hL S hm0 hr hmg
  exact fun Q E P => wpAny_call (code_of OK CO hfree hf hok hargs hnp hm hst hL S hm0 hr hmg P)
end
end Mine
end
section
open PySem PySem.W PyProof.Rows
namespace Mine
set_option maxRecDepth 100000


noncomputable def itemsV : AV → Option (List AV)
  | .lst xs => some xs
  | .tup xs => some xs
  | .range a b s => if Builtin.Range.small a b s = true then (if (Builtin.Range.rangeSize a b s).toNat ≤ 1048576 then some (rangeL a b s) else none) else none
  | _ => none

section
variable {c : Cx} {A : Around}
theorem itr_list (hh : A.handled = none) {I l : Addr} {vs : List Value} (hI : l ≠ I) : Itr c A I (fun b => b = I ∨ b = l) (fun i v => vs[i]? = some v) (fun _ => none) vs.length (fun i h => h.IsListIter I l i ∧ h.IsList l vs.toArray) where
  fld := fun i h ⟨⟨o, e, hc, hd⟩, _⟩ => ⟨o, _, e, hd, by rw [hc]; unfold okC; decide +kernel⟩
  nt := fun i h ⟨⟨o, e, hc, hd⟩, _⟩ => ⟨o, _, e, hc, by decide +kernel⟩
  frame := fun i h h' ⟨⟨o, e, hc, hd⟩, ⟨o2, e2, hc2, n, hd2⟩⟩ fr => by
    refine ⟨⟨o, (fr I o (.inl rfl) e).1 ⟨_, hd⟩, hc, hd⟩, ?_⟩
    obtain ⟨sl, e3⟩ := (fr l o2 (.inr rfl) e2).2
    exact ⟨_, e3, hc2, n, hd2⟩
  item := fun i s Q E hi ⟨hit, hl⟩ h => by
    refine wpAny_pyNext_list_item hit hl (x := vs[i]) (by simp [hi]) fun h' hit' sb => ?_
    exact h _ h' s.toks (.inl (by simp [hi])) ⟨hit', hl.extBut (fun b o hb e => (sb.2 b hb).trans e) hI⟩ (fun b o hb e => (sb.2 b hb).trans e) (let ⟨o, e, _⟩ := hit'; ⟨o, e⟩)
  done := fun s Q E ⟨hit, hl⟩ h => wpAny_pyNext_list_end hh hit hl (by simp) fun h' eb => h h' s.toks fun b o hb e => eb b o hb e
  self := fun i s Q E ⟨hit, _⟩ h => wpAny_pyIter_listiter hit h

theorem itr_tup (hh : A.handled = none) {I l : Addr} {vs : List Value} (hI : l ≠ I) : Itr c A I (fun b => b = I ∨ b = l) (fun i v => vs[i]? = some v) (fun _ => none) vs.length (fun i h => h.IsTupleIter I l i ∧ h.IsTuple l vs.toArray) where
  fld := fun i h ⟨⟨o, e, hc, hd⟩, _⟩ => ⟨o, _, e, hd, by rw [hc]; unfold okC; decide +kernel⟩
  nt := fun i h ⟨⟨o, e, hc, hd⟩, _⟩ => ⟨o, _, e, hc, by decide +kernel⟩
  frame := fun i h h' ⟨⟨o, e, hc, hd⟩, ⟨o2, e2, hc2, n, hd2⟩⟩ fr => by
    refine ⟨⟨o, (fr I o (.inl rfl) e).1 ⟨_, hd⟩, hc, hd⟩, ?_⟩
    obtain ⟨sl, e3⟩ := (fr l o2 (.inr rfl) e2).2
    exact ⟨_, e3, hc2, n, hd2⟩
  item := fun i s Q E hi ⟨hit, hl⟩ h => by
    refine wpAny_pyNext_tuple_item hit hl (x := vs[i]) (by simp [hi]) fun h' hit' sb => ?_
    exact h _ h' s.toks (.inl (by simp [hi])) ⟨hit', hl.extBut (fun b o hb e => (sb.2 b hb).trans e) hI⟩ (fun b o hb e => (sb.2 b hb).trans e) (let ⟨o, e, _⟩ := hit'; ⟨o, e⟩)
  done := fun s Q E ⟨hit, hl⟩ h => wpAny_pyNext_tuple_end hh hit hl (by simp) fun h' eb => h h' s.toks fun b o hb e => eb b o hb e
  self := fun i s Q E ⟨hit, _⟩ h => wpAny_pyIter_tupleiter hit h

theorem itr_range (hh : A.handled = none) {I : Addr} {a b st : Int} (hs : 0 ≤ Builtin.Range.rangeSize a b st) : Itr c A I (fun b => b = I) (fun _ _ => False) (fun i => some (a + i * st)) (Builtin.Range.rangeSize a b st).toNat
    (fun i h => IsRangeIter h I (a + i * st) (Builtin.Range.rangeSize a b st - i) st) where
  fld := fun i h hit => ⟨_, _, hit, rfl, by show ¬ okC (.type "range_iterator"); unfold okC; decide +kernel⟩
  nt := fun i h hit => ⟨_, _, hit, rfl, by decide +kernel⟩
  frame := fun i h h' hit fr => (fr I _ rfl hit).1 ⟨_, rfl⟩
  item := fun i s Q E hi hit h => by
    refine wpAny_pyNext_range_item hit (by omega) fun h' hit' sb => ?_
    refine h _ h' (s.toks + 1) (.inr ⟨_, rfl, rfl, Nat.lt_succ_self _⟩) ?_ (fun b o hb e => (sb.2 b hb).trans e) ⟨_, hit'⟩
    have e1 : a + (i : Int) * st + st = a + ((i + 1 : Nat) : Int) * st := by rw [Int.natCast_add, Int.add_mul]; omega
    have e2 : Builtin.Range.rangeSize a b st - (i : Int) - 1 = Builtin.Range.rangeSize a b st - ((i + 1 : Nat) : Int) := by omega
    rw [e1, e2] at hit'
    exact hit'
  done := fun s Q E hit h => wpAny_pyNext_range_end hh hit (by omega) fun h' eb => h h' s.toks fun b o hb e => eb b o hb e
  self := fun i s Q E hit h => wpAny_pyIter_rangeiter hit h

theorem rangeSize_nonneg (a b s : Int) : 0 ≤ Builtin.Range.rangeSize a b s := by
  unfold Builtin.Range.rangeSize
  split
  · split
    · exact Int.add_nonneg (Int.ediv_nonneg (by omega) (by omega)) (by omega)
    · omega
  · split
    · exact Int.add_nonneg (Int.ediv_nonneg (by omega) (by omega)) (by omega)
    · omega

theorem itemsV_ref {a : AV} {xs : List AV} (h : itemsV a = some xs) : (∀ n, a ≠ .ptr n) ∧ (∀ k ys, a ≠ .itr k ys) ∧ a ≠ .any :=
  ⟨by rintro b rfl; simp [itemsV] at h, by rintro k ys rfl; simp [itemsV] at h, by rintro rfl; simp [itemsV] at h⟩

theorem itemsV_ok {q : Bool} {k : Nat} {s : Shared} {H : Hd} {a : AV} {va : Value} {xs : List AV} (hm : Rm c q (k + 1) A H s) (hq : q = true) (r : RepO s.heap H va a) (h : itemsV a = some xs) (Q E : Value → Shared → Prop)
    (K : ∀ I fp P G St h' tk, (∀ b o, s.heap.get? b = some o → h'.get? b = some o) → s.heap.get? I = none → fp I → (∀ b, fp b → ∃ o, h'.get? b = some o) → (∀ b, fp b → b = I ∨ va = .ref b) → xs.length ≤ 1048576 → Itr c A I fp P G xs.length St → St 0 h' →
      (∀ (i : Nat) v x, P i v → xs[i]? = some x → Rep (vis s.heap H) v x) → (∀ (i : Nat) j x, G i = some j → xs[i]? = some x → x = .int j) → Q (.ref I) { s with heap := h', toks := tk }) : wpAny c.M A (pyIter va) Q E s := by
  have hh := hm.hand hq
  cases a <;> simp only [itemsV, reduceCtorEq] at h
  · rename_i a b st
    by_cases hsm : Builtin.Range.small a b st = true
    case neg => rw [if_neg hsm] at h; cases h
    rw [if_pos hsm] at h
    by_cases hsz : (Builtin.Range.rangeSize a b st).toNat ≤ 1048576
    case neg => rw [if_neg hsz] at h; cases h
    rw [if_pos hsz] at h
    cases h
    simp only [RepO, Rep] at r
    obtain ⟨r, ta, tb, ts, rfl, _, o, e, hc, hd, hdi, _, hsl⟩ := r
    have hr : IsRange s.heap r a b st ta tb ts := by
      show s.heap.get? r = _
      rw [e]; obtain ⟨c', d', da', sl'⟩ := o
      simp only at hc hd hdi hsl
      rw [hc, hd, hdi, hsl ⟨_, rfl⟩]
    refine wpAny_pyIter_range hr hsm ?_
    refine K s.heap.objs.size (fun b => b = s.heap.objs.size) (fun _ _ => False) (fun i => some (a + i * st)) (fun i h => IsRangeIter h s.heap.objs.size (a + i * st) (Builtin.Range.rangeSize a b st - i) st) _ s.toks (fun b o e => Heap.get?_push_of_some _ e) (Heap.get?_none_of_le (Nat.le_refl _)) rfl (fun b hb => by subst hb; exact ⟨_, Heap.get?_push_size _ rfl⟩) (fun b hb => .inl hb) (by simpa [rangeL] using hsz)
      (by simp only [rangeL, List.length_map, List.length_range]; exact itr_range hh (rangeSize_nonneg a b st)) ?_ (fun _ _ _ z => z.elim) ?_
    · simp only [Int.natCast_zero, Int.zero_mul, Int.add_zero, Int.sub_zero]
      exact Heap.get?_push_size _ rfl
    · rintro i j x hg hx
      cases hg
      simp only [rangeL, List.getElem?_map, Option.map_eq_some_iff] at hx
      obtain ⟨j, hj, rfl⟩ := hx
      obtain ⟨hj1, hj2⟩ := List.getElem?_eq_some_iff.mp hj
      simp at hj2
      subst hj2
      rfl
  · cases h
    simp only [RepO, Rep] at r
    obtain ⟨hz, l, vs, n, rfl, ⟨_, o, e, hc, hd, _⟩, rl⟩ := r
    have ht : s.heap.IsTuple l vs.toArray := ⟨o, e, hc, n, hd⟩
    have hlt := Heap.lt_size e
    refine wpAny_pyIter_tuple ht ?_
    refine K s.heap.objs.size (fun b => b = s.heap.objs.size ∨ b = l) (fun i v => vs[i]? = some v) (fun _ => none) (fun i h => h.IsTupleIter s.heap.objs.size l i ∧ h.IsTuple l vs.toArray) _ s.toks (fun b o e => Heap.get?_push_of_some _ e) (Heap.get?_none_of_le (Nat.le_refl _)) (.inl rfl) (fun b hb => ?_) (fun b hb => hb.imp id fun x => by rw [x]) hz
      (by rw [← rl.length]; exact itr_tup hh (l := l) (vs := vs) (Nat.ne_of_lt hlt)) ⟨⟨_, Heap.get?_push_size _ rfl, rfl, rfl⟩, ht.push _⟩ ?_ ?_
    · rcases hb with rfl | rfl
      · exact ⟨_, Heap.get?_push_size _ rfl⟩
      · exact ⟨o, Heap.get?_push_of_some _ e⟩
    · intro i v x hv hx
      obtain ⟨v', hv', rv⟩ := rl.get hx
      rw [hv] at hv'; cases hv'; exact rv
    · intro i j x hg; cases hg
  · cases h
    simp only [RepO] at r
    obtain ⟨hz, l, vs, rfl, hl, rl⟩ := r
    obtain ⟨o, n, e, hc, hd, _⟩ := id hl
    have hlt := Heap.lt_size e
    refine wpAny_pyIter_list hl.isList ?_
    refine K s.heap.objs.size (fun b => b = s.heap.objs.size ∨ b = l) (fun i v => vs[i]? = some v) (fun _ => none) (fun i h => h.IsListIter s.heap.objs.size l i ∧ h.IsList l vs.toArray) _ s.toks (fun b o e => Heap.get?_push_of_some _ e) (Heap.get?_none_of_le (Nat.le_refl _)) (.inl rfl) (fun b hb => ?_) (fun b hb => hb.imp id fun x => by rw [x]) hz
      (by rw [← rl.length]; exact itr_list hh (l := l) (vs := vs) (Nat.ne_of_lt hlt)) ⟨⟨_, Heap.get?_push_size _ rfl, rfl, rfl⟩, hl.isList.push _⟩ ?_ ?_
    · rcases hb with rfl | rfl
      · exact ⟨_, Heap.get?_push_size _ rfl⟩
      · exact ⟨o, Heap.get?_push_of_some _ e⟩
    · intro i v x hv hx
      obtain ⟨v', hv', rv⟩ := rl.get hx
      rw [hv] at hv'; cases hv'; exact rv
    · intro i j x hg; cases hg
end

theorem getItem_tupleI {prog : Program} {w : World} {A : Around} {E : Value → Shared → Prop} {s : Shared} {t : Addr} {items : Array Value} {i : Int} {u : Tok} {x : Value} {Q : Value → Shared → Prop} (ht : s.heap.IsTuple t items) (h0 : 0 ≤ i) (hi : i < 1048576) (hx : items[i.toNat]? = some x) (h : Q x s) : wpAny (model prog w) A (getItem (.ref t) (.int i u)) Q E s := by
  have hlt : i.toNat < items.size := by
    rcases Nat.lt_or_ge i.toNat items.size with h | h
    · exact h
    · rw [Array.getElem?_eq_none h] at hx; cases hx
  refine PyProof.Rows.getItem_tuple (j := i.toNat) ht (by omega) (by omega) ?_ hx h
  simp [seqIndex?, h0, hlt]
  omega
/- looks at plain values -/
/- the built-ins' calls -/
theorem repOL1 {h : Heap} {H : Hd} {vs : List Value} {x : AV} (r : RepOL h H vs [x]) : ∃ v, vs = [v] ∧ RepO h H v x := by
  cases vs with
  | nil => exact r.elim
  | cons v vs => cases vs with
    | nil => exact ⟨v, rfl, r.1⟩
    | cons => exact r.2.elim
theorem repOL2 {h : Heap} {H : Hd} {vs : List Value} {x y : AV} (r : RepOL h H vs [x, y]) : ∃ v w, vs = [v, w] ∧ RepO h H v x ∧ RepO h H w y := by
  cases vs with
  | nil => exact r.elim
  | cons v vs =>
    obtain ⟨w, rfl, q⟩ := repOL1 r.2
    exact ⟨v, w, rfl, r.1, q⟩

theorem rep_fresh_range {H : Hd} {s : Shared} {a b st : Int} {t u v : Tok} (hL : Live H s.heap) :
    Rep (vis (s.heap.push { cls := .type "range", data := .fields #[.int a t, .int b u, .int st v] }) H) (.ref s.heap.objs.size) (.range a b st) := by
  simp only [Rep]
  exact ⟨_, t, u, v, rfl, hL.fresh, _, Heap.get?_push_size _ rfl, rfl, rfl, rfl, .inr (.inr (.inl rfl)), fun _ => rfl⟩

section
variable {c : Cx} {q : Bool} {k : Nat} {A : Around} {s : Shared} {H : Hd} {Q E : Value → Shared → Prop}
theorem call_min_ok {l : Addr} {vs : List Value} {xs : List AV} {ns : List Int} {m : Int} (hh : A.handled = none) (hl : IsL s.heap l vs) (rl : RepL (vis s.heap H) vs xs) (hn : ints? xs = some ns) (hx : minI ns = some m) (P : Post q A H (.ok (.int m)) s Q E) :
    wpAny c.M A (PySem.call (.builtin "min") [.ref l]) Q E s := by
  obtain ⟨ps, e1, e2, e4⟩ := ints_items hn rl
  have hl' := hl.isList
  rw [e1] at hl'
  have hne : 0 < ps.length := by
    cases ps with
    | nil => subst e2; cases hx
    | cons => simp
  refine wpAny_up (min_intList hh hl' (by simpa using hne) fun v h' tk hv kp hle => ?_)
  obtain ⟨m', t, rfl, hmem, hm'⟩ := best_min hne hv
  rw [e2, hx] at hm'; cases hm'
  exact Post.old P (Kp.of hle kp) ⟨t, rfl, e4 _ hmem⟩
end

section
variable {c : Cx} {k : Nat} {A : Around} {s : Shared} {H : Hd} {vs : List Value}
noncomputable def b_len : List AV → Res
  | [.lst ys] => .ok (.int ys.length)
  | [.itr _ _] => .exc .te
  | _ => .stuck
theorem b_len_ok {xs : List AV} (hm : Rm c true (k + 1) A H s) (r : RepOL s.heap H vs xs) : Tr c true A H (PySem.call (.builtin "len") vs) (b_len xs) s := by
  unfold b_len
  split
  · rename_i ys
    obtain ⟨v, rfl, hz, l, ws, rfl, hl, rl⟩ := repOL1 r
    exact fun Q E P => PySem.Calls.call_len_list hl.isList (by simp [rl.length]; omega) (by
      have e : ws.toArray.size = ys.length := by simp [rl.length]
      rw [e]
      exact Post.int hm P (Kp.toks (Nat.le_succ_of_le (Nat.le_succ _))) (Nat.le_succ _) (Nat.lt_succ_self _))
  · obtain ⟨v, rfl, l, rfl, hi⟩ := repOL1 r
    exact len_itr hm hi
  · exact Tr.stuck
noncomputable def b_range : List AV → Res
  | [.int n] => .ok (.range 0 n 1)
  | [.int a, .int b] => .ok (.range a b 1)
  | _ => .stuck
theorem b_range_ok {xs : List AV} (hL : Live H s.heap) (r : RepOL s.heap H vs xs) : Tr c true A H (PySem.call (.type "range") vs) (b_range xs) s := by
  unfold b_range
  split
  · obtain ⟨v, rfl, t, rfl, _⟩ := repOL1 r
    exact fun Q E P => call_range_1 (Post.old P (Kp.of (Nat.le_add_right _ 2) fun _ _ e => Heap.get?_push_of_some _ e) (rep_fresh_range hL))
  · obtain ⟨v, w, rfl, ⟨t, rfl, _⟩, u, rfl, _⟩ := repOL2 r
    exact fun Q E P => call_range_2 (Post.old P (Kp.of (Nat.le_succ _) fun _ _ e => Heap.get?_push_of_some _ e) (rep_fresh_range hL))
  · exact Tr.stuck
noncomputable def b_min : List AV → Res
  | [.lst ys] => (match ints? ys with | some ns => (match minI ns with | some m => .ok (.int m) | none => .stuck) | none => .stuck)
  | [.int a, .int b] => .ok (.int (if b < a then b else a))
  | _ => .stuck
theorem b_min_ok {xs : List AV} (hm : Rm c true (k + 1) A H s) (r : RepOL s.heap H vs xs) : Tr c true A H (PySem.call (.builtin "min") vs) (b_min xs) s := by
  unfold b_min
  split
  · obtain ⟨v, rfl, hz, l, ws, rfl, hl, rl⟩ := repOL1 r
    split
    · rename_i ns hn
      split
      · rename_i m hx; exact fun Q E P => call_min_ok (hm.hand rfl) hl rl hn hx P
      · exact Tr.stuck
    · exact Tr.stuck
  · obtain ⟨v, w, rfl, ⟨t, rfl, ht⟩, u, rfl, hu⟩ := repOL2 r
    exact min2_ok ⟨_, rfl, ht⟩ ⟨_, rfl, hu⟩ hm
  · exact Tr.stuck
end
/-- the built-ins' calls -/
noncomputable def callB (f : BI) (xs : List AV) : Res := match f with
  | .len => b_len xs
  | .range => b_range xs
  | .min => b_min xs
  | _ => .stuck
theorem callB_ok {c : Cx} {k : Nat} {A : Around} {s : Shared} {H : Hd} {f : BI} {v : Value} {xs : List AV} {vs : List Value} (hm : Rm c true (k + 1) A H s) (hL : Live H s.heap) (r : RepOL s.heap H vs xs) (hv : bootBuiltins (f.name : Str) = some v) :
    Tr c true A H (PySem.call v vs) (callB f xs) s := by
  have e : v = f.val := by have := BI.boot f; exact Option.some.inj (hv.symm.trans this)
  subst e
  cases f with
  | len => exact b_len_ok hm r
  | range => exact b_range_ok hL r
  | min => exact b_min_ok hm r
  | _ => exact Tr.stuck

/- the words together -/
noncomputable def addV (a b : AV) : Res :=
  two AV.lst? a b (fun a b => if a.length + b.length ≤ 1048576 then .ok (.lst (a ++ b)) else .stuck)
  (two AV.tup? a b (fun a b => if a.length + b.length ≤ 1048576 then .ok (.tup (a ++ b)) else .stuck)
  .stuck)
noncomputable def opBin (op : Operator) (a b : AV) : Res := two AV.int? a b (intBin op) (match op with
  | .Add => addV a b
  | _ => .stuck)
noncomputable def i_add : AV → AV → Res
  | .int a, .int b => .ok (.int (a + b))
  | _, _ => .stuck
noncomputable def opInpl (op : Operator) (x y : AV) : Res := match op with
  | .Add => i_add x y
  | _ => .stuck
noncomputable def opUn (op : UnaryOp) : AV → Res
  | .int a => match op with | .USub => .ok (.int (-a)) | _ => .stuck
  | _ => .stuck
noncomputable def inCmp (op : CmpOp) (a : Int) (ns : List Int) : Option Bool := match op with
  | .In => some (ns.any (· == a))
  | .NotIn => some (!(ns.any (· == a)))
  | _ => none
noncomputable def inV (op : CmpOp) : AV → AV → Option Bool
  | .int a, .lst ys => (match ints? ys with | some ns => inCmp op a ns | none => none)
  | .int a, .tup ys => (match ints? ys with | some ns => inCmp op a ns | none => none)
  | _, _ => none
noncomputable def intA (op : CmpOp) : AV → AV → Option Bool
  | .int a, .int b => intCmp op a b
  | _, _ => none
noncomputable def opCmp (op : CmpOp) (x y : AV) : Option Bool := match op with
  | .Eq => eqCmp .Eq x y
  | .NotEq => eqCmp .NotEq x y
  | .In => inV .In x y
  | .Lt => intA .Lt x y
  | .Gt => intA .Gt x y
  | _ => none
noncomputable def opTruth : AV → Option Bool
  | .bool b => some b
  | .int a => some (a != 0)
  | .none => some false
  | .lst xs => some (!xs.isEmpty)
  | _ => none
noncomputable def opIdx : AV → AV → Res
  | .lst xs, .int i => idxL xs i
  | .tup xs, .int i => if 0 ≤ i then (match xs[i.toNat]? with | some x => .ok x | none => .stuck) else .stuck
  | _, _ => .stuck
noncomputable def opSlice : AV → AV → AV → AV → Res
  | .lst xs, a, b, z => sliceL xs a b z
  | _, _, _, _ => .stuck
noncomputable def noneIs : AV → Option Bool
  | .none => some true
  | .lst _ => some false
  | .int _ => some false
  | _ => none
noncomputable def opIs (a b : AV) : Option Bool := two AV.type? a b (fun x y => some (x == y)) (if b.none? = true then noneIs a else none)
noncomputable def opOmeth (m : OMI) (xs args : List AV) : Option (List AV) := match m, args with
  | .append, [x] => if xs.length < 1000000 then some (xs ++ [x]) else none
  | .remove, [.int x] => (match ints? xs with | some ns => if x ∈ ns then some (xs.eraseIdx (ns.idxOf x)) else none | none => none)
  | _, _ => none

noncomputable def ops : OpsF where
  bin := opBin
  inpl := opInpl
  un := opUn
  cmp := opCmp
  truth := opTruth
  idx := opIdx
  slice := opSlice
  bcall := callB
  items := itemsV
  is_ := opIs
  isEq := isEqV
  ometh := opOmeth
section
variable {c : Cx} {q : Bool} {k : Nat} {A : Around} {s : Shared} {H : Hd}
theorem addV_ok {a b : AV} {va vb : Value} (hL : Live H s.heap) (ra : RepO s.heap H va a) (rb : RepO s.heap H vb b) : Tr c q A H (binaryOp .Add va vb) (addV a b) s := by
  refine two_cases (P := fun r => Tr c q A H (binaryOp .Add va vb) r s) (fun x y ea eb => ?_) (two_cases (P := fun r => Tr c q A H (binaryOp .Add va vb) r s) (fun x y ea eb => ?_) Tr.stuck)
  · rw [lst?_eq ea] at ra; rw [lst?_eq eb] at rb
    obtain ⟨hz, l, vs, rfl, hl, rl⟩ := ra; obtain ⟨hz', l', vs', rfl, hl', rl'⟩ := rb
    split
    · exact lists_add hL hl hl' rl rl' (by assumption)
    · exact Tr.stuck
  · rw [tup?_eq ea] at ra; rw [tup?_eq eb] at rb
    split
    · exact tups_add hL ra rb (by assumption)
    · exact Tr.stuck
theorem opBin_ok {op : Operator} {a b : AV} {va vb : Value} (hm : Rm c q (k + 1) A H s) (hL : Live H s.heap) (ra : RepO s.heap H va a) (rb : RepO s.heap H vb b) : Tr c q A H (binaryOp op va vb) (opBin op a b) s := by
  refine two_cases (P := fun r => Tr c q A H (binaryOp op va vb) r s) (fun x y ea eb => ?_) ?_
  · rw [int?_eq ea] at ra; rw [int?_eq eb] at rb
    obtain ⟨t, rfl, _⟩ := ra; obtain ⟨u, rfl, _⟩ := rb; exact intBin_ok hm
  · cases op with
    | Add => exact addV_ok hL ra rb
    | _ => exact Tr.stuck
theorem i_add_ok {a b : AV} {va vb : Value} (hm : Rm c q (k + 1) A H s) (ra : RepO s.heap H va a) (rb : RepO s.heap H vb b) : Tr c q A H (inplaceOp .Add va vb) (i_add a b) s := by
  unfold i_add
  split
  · obtain ⟨t, rfl, _⟩ := ra; obtain ⟨u, rfl, _⟩ := rb; exact fun Q E P => PySem.P.iadd_int (Post.int1 hm P)
  · exact Tr.stuck
theorem opInpl_ok {op : Operator} {a b : AV} {va vb : Value} (hm : Rm c q (k + 1) A H s) (ra : RepO s.heap H va a) (rb : RepO s.heap H vb b) : Tr c q A H (inplaceOp op va vb) (opInpl op a b) s := by
  cases op with
  | Add => exact i_add_ok hm ra rb
  | _ => exact Tr.stuck
theorem opUn_ok {op : UnaryOp} {a : AV} {va : Value} (hm : Rm c q (k + 1) A H s) (ra : RepO s.heap H va a) : Tr c q A H (unaryOp op va) (opUn op a) s := by
  unfold opUn
  split
  · obtain ⟨t, rfl, _⟩ := ra
    split
    · exact fun Q E P => PySem.P.neg_int (Post.int1 hm P)
    · exact Tr.stuck
  · exact Tr.stuck
theorem type_beq (x y : String) : (Value.type x == Value.type y) = (x == y) := by
  by_cases hxy : x = y
  · subst hxy; simp
  · rw [beq_eq_false_iff_ne.mpr hxy, beq_eq_false_iff_ne.mpr (fun z => hxy (by injection z))]
theorem intA_ok {op : CmpOp} {a b : AV} {va vb : Value} {r : Bool} (ra : RepO s.heap H va a) (rb : RepO s.heap H vb b) (h : intA op a b = some r) : Tr c q A H (compareOp op va vb) (.ok (.bool r)) s := by
  unfold intA at h
  split at h
  · obtain ⟨t, rfl, _⟩ := ra; obtain ⟨u, rfl, _⟩ := rb; exact intCmp_ok h
  · cases h
theorem inV_ok {op : CmpOp} {a b : AV} {va vb : Value} {r : Bool} (ra : RepO s.heap H va a) (rb : RepO s.heap H vb b) (h : inV op a b = some r) : Tr c q A H (compareOp op va vb) (.ok (.bool r)) s := by
  unfold inV at h
  split at h
  · split at h
    · rename_i ns hn
      obtain ⟨t, rfl, _⟩ := ra
      obtain ⟨hz, l, vs, rfl, hl, rl⟩ := rb
      intro Q E P
      cases op <;> simp only [inCmp, Option.some.injEq, reduceCtorEq] at h <;> subst h
      · exact PyProof.Rows.in_list_ints hl.isList (ints_are hn rl) (post_bool P (Nat.le_refl _))
      · exact PyProof.Rows.notin_list_ints hl.isList (ints_are hn rl) (post_bool P (Nat.le_refl _))
    · cases h
  · split at h
    · rename_i ns hn
      obtain ⟨t, rfl, _⟩ := ra
      obtain ⟨l, vs, n, sl, rfl, ho, rl, _⟩ := rep_tup_is rb
      intro Q E P
      cases op <;> simp only [inCmp, Option.some.injEq, reduceCtorEq] at h <;> subst h
      · exact PyProof.Rows.in_tuple_ints ⟨_, ho, rfl, n, rfl⟩ (ints_are hn rl) (post_bool P (Nat.le_refl _))
      · exact PyProof.Rows.notin_tuple_ints ⟨_, ho, rfl, n, rfl⟩ (ints_are hn rl) (post_bool P (Nat.le_refl _))
    · cases h
  · cases h
theorem opCmp_ok {op : CmpOp} {a b : AV} {va vb : Value} {r : Bool} (hm : Rm c q (k + 1) A H s) (ra : RepO s.heap H va a) (rb : RepO s.heap H vb b) (h : opCmp op a b = some r) : Tr c q A H (compareOp op va vb) (.ok (.bool r)) s := by
  cases op with
  | Eq => exact eqCmp_ok hm h ra rb
  | NotEq => exact eqCmp_ok hm h ra rb
  | In => exact inV_ok ra rb h
  | Lt => exact intA_ok ra rb h
  | Gt => exact intA_ok ra rb h
  | _ => cases h
theorem opTruth_ok {a : AV} {va : Value} {r : Bool} (ra : RepO s.heap H va a) (h : opTruth a = some r) : TrB c A (truthy va) r s := by
  unfold opTruth at h
  split at h
  · cases h; cases ra; exact fun Q E P => wpAny_truthy_bool (P _ (Kp.refl _ _))
  · cases h; obtain ⟨t, rfl, _⟩ := ra; exact fun Q E P => PySem.P.truthy_int (P _ (Kp.refl _ _))
  · cases h; cases ra; exact fun Q E P => truthy_none (P _ (Kp.refl _ _))
  · cases h; obtain ⟨hz, l, vs, rfl, hl, rl⟩ := ra; exact truthL_ok hl hz rl
  · cases h
theorem opIdx_ok {a b : AV} {va vb : Value} (ra : RepO s.heap H va a) (rb : RepO s.heap H vb b) : Tr c q A H (getItem va vb) (opIdx a b) s := by
  unfold opIdx
  split
  · obtain ⟨hz, l, vs, rfl, hl, rl⟩ := ra; obtain ⟨u, rfl, _⟩ := rb
    exact idxL_ok hl hz rl
  · rename_i xs i
    have ra : Rep (vis s.heap H) va (.tup xs) := ra
    simp only [Rep] at ra
    obtain ⟨hz, l, vs, n, rfl, ⟨_, ⟨oc, od, odt, os⟩, e, hc, hd, hdi, _⟩, rl⟩ := ra
    obtain ⟨u, rfl, _⟩ := rb
    split
    · rename_i h0
      split
      · rename_i x hx
        intro Q E P
        obtain ⟨v, hv, rv⟩ := rl.get hx
        have hlt : i.toNat < xs.length := by obtain ⟨h, _⟩ := List.getElem?_eq_some_iff.mp hx; exact h
        have hsz : vs.toArray.size = xs.length := by rw [List.size_toArray, rl.length]
        exact getItem_tupleI ⟨_, e, hc, n, hd⟩ h0 (by omega) (by simpa using hv) (Post.old P (Kp.refl _ _) rv)
      · exact Tr.stuck
    · exact Tr.stuck
  · exact Tr.stuck
theorem opIdx_ty {a b : AV} {va : Value} (ra : RepO s.heap H va a) (h : opIdx a b ≠ .stuck) : ∃ T id, s.TypeIs va T ∧ typeLookup (.type T) "__getitem__" = pure (some (.builtin id)) := by
  unfold opIdx at h
  split at h
  · obtain ⟨hz, l, vs, rfl, hl, rl⟩ := ra
    exact ⟨"list", _, hl.typeIs, list_getitem_lookup⟩
  · rename_i xs i
    have ra : Rep (vis s.heap H) va (.tup xs) := ra
    simp only [Rep] at ra
    obtain ⟨hz, l, vs, n, rfl, ⟨_, o, e, hc, _⟩, rl⟩ := ra
    exact ⟨"tuple", _, ⟨o, e, hc⟩, F.slot_tuple_getitem.lookup⟩
  · exact absurd rfl h
theorem opSlice_ok {a x y z : AV} {va : Value} {r : Addr} {ux uy uz : Value} (hL : Live H s.heap) (ra : RepO s.heap H va a) (h1 : Rep (vis s.heap H) ux x) (h2 : Rep (vis s.heap H) uy y) (h3 : Rep (vis s.heap H) uz z)
    (hr : s.heap.get? r = some { cls := .type "slice", data := .fields #[ux, uy, uz] }) : Tr c q A H (getItem va (.ref r)) (opSlice a x y z) s := by
  unfold opSlice
  split
  · obtain ⟨hz, l, vs, rfl, hl, rl⟩ := ra
    exact sliceL_ok hL hl hz rl h1 h2 h3 hr
  · exact Tr.stuck
theorem opSlice_ty {a x y z : AV} {va : Value} (ra : RepO s.heap H va a) (h : opSlice a x y z ≠ .stuck) : ∃ T id, s.TypeIs va T ∧ typeLookup (.type T) "__getitem__" = pure (some (.builtin id)) := by
  unfold opSlice at h
  split at h
  · obtain ⟨hz, l, vs, rfl, hl, rl⟩ := ra
    exact ⟨"list", _, hl.typeIs, list_getitem_lookup⟩
  · exact absurd rfl h
theorem opIs_ok {op : CmpOp} {a b : AV} {va vb : Value} {r : Bool} (ra : Rep (vis s.heap H) va a) (rb : Rep (vis s.heap H) vb b) (h : opIs a b = some r) (hop : op = .Is ∨ op = .IsNot) : Tr c q A H (compareOp op va vb) (.ok (.bool (if op = .Is then r else !r))) s := by
  revert h
  refine two_cases (P := fun o => o = some r → Tr c q A H (compareOp op va vb) (.ok (.bool (if op = .Is then r else !r))) s) (fun x y ea eb h => ?_) fun h => ?_
  · rw [type?_eq ea] at ra; rw [type?_eq eb] at rb
    cases h
    simp only [Rep] at ra rb
    subst ra; subst rb
    rcases hop with rfl | rfl
    · rw [if_pos rfl]
      refine plainCmp_ok rfl ?_
      rw [type_beq]; rfl
    · rw [if_neg (by decide)]
      refine plainCmp_ok rfl ?_
      rw [type_beq]; rfl
  · split at h
    · rename_i hb
      rw [none?_eq hb] at rb
      simp only [Rep] at rb
      subst rb
      cases a with
      | none => cases h; cases ra; exact is_of (b := true) (fun Q' hq => wpAny_of_eq (rfl : isSame .none .none = pure true) hq) hop
      | lst xs =>
        cases h
        simp only [Rep] at ra
        obtain ⟨_, l, vs, n, rfl, _⟩ := ra
        exact is_of (b := false) (fun Q' hq => wpAny_of_eq (rfl : isSame (.ref l) .none = pure false) hq) hop
      | int i => cases h; obtain ⟨t, rfl, _⟩ := ra; exact is_of (b := false) (fun Q' hq => wpAny_of_eq (rfl : isSame (.int _ t) .none = pure false) hq) hop
      | _ => cases h
    · cases h
theorem RepL.take {R : Vw} : ∀ {xs : List AV} {vs : List Value} (n : Nat), RepL R vs xs → RepL R (vs.take n) (xs.take n)
  | _, _, 0, _ => by simp [RepL]
  | [], [], _ + 1, _ => by simp [RepL]
  | [], _ :: _, _, r => by simp [RepL] at r
  | _ :: _, [], _, r => by simp [RepL] at r
  | x :: xs, v :: vs, n + 1, r => by
    simp only [RepL] at r
    simp only [List.take_succ_cons, RepL]
    exact ⟨r.1, RepL.take n r.2⟩
theorem RepL.eraseIdx {R : Vw} : ∀ {xs : List AV} {vs : List Value} (n : Nat), RepL R vs xs → RepL R (vs.eraseIdx n) (xs.eraseIdx n)
  | [], [], _, _ => by simp [RepL]
  | [], _ :: _, _, r => by simp [RepL] at r
  | _ :: _, [], _, r => by simp [RepL] at r
  | x :: xs, v :: vs, 0, r => by simp only [RepL] at r; simpa using r.2
  | x :: xs, v :: vs, n + 1, r => by
    simp only [RepL] at r
    simp only [List.eraseIdx_cons_succ, RepL]
    exact ⟨r.1, RepL.eraseIdx n r.2⟩
theorem opOmeth_ok {m : OMI} {D : Addr} {vs : List Value} {xs : List AV} {ws : List Value} {args xs' : List AV} (hl : IsL s.heap D vs) (hz : xs.length ≤ 1048576) (r : RepL (vis s.heap H) vs xs) (ra : RepL (vis s.heap H) ws args) (h : opOmeth m xs args = some xs') (Q E : Value → Shared → Prop)
    (K : ∀ h' vs' tk, IsL h' D vs' → xs'.length ≤ 1048576 → RepL (vis s.heap H) vs' xs' → Heap.SameBut D s.heap h' → Q .none { s with heap := h', toks := tk }) : wpAny c.M A (PySem.call (.builtin ("list." ++ m.name)) (.ref D :: ws)) Q E s := by
  unfold opOmeth at h
  split at h
  · rename_i x
    split at h
    · rename_i hlt
      cases h
      obtain ⟨w, rfl, rw⟩ : ∃ w, ws = [w] ∧ Rep (vis s.heap H) w x := by
        rcases ws with _ | ⟨w, _ | ⟨w', ws⟩⟩
        · simp [RepL] at ra
        · simp only [RepL] at ra; exact ⟨w, rfl, ra.1⟩
        · simp [RepL] at ra
      exact list_appendL (by rw [List.size_toArray, r.length]; exact line_ok (by omega)) hl fun h' l' sb => K h' _ s.toks l' (by simp; omega) (r.append (by simp only [RepL]; exact ⟨rw, trivial⟩)) sb
    · cases h
  · rename_i x
    split at h
    case h_2 => cases h
    rename_i ns hn
    split at h
    case isFalse => cases h
    rename_i hx
    cases h
    obtain ⟨w, rfl, rw⟩ : ∃ w, ws = [w] ∧ Rep (vis s.heap H) w (.int x) := by
      rcases ws with _ | ⟨w, _ | ⟨w', ws⟩⟩
      · simp [RepL] at ra
      · simp only [RepL] at ra; exact ⟨w, rfl, ra.1⟩
      · simp [RepL] at ra
    obtain ⟨u, rfl, _⟩ := rw
    exact list_removeI (by rw [r.length]; exact hz) hl (ints_are hn r) hx fun h' l' sb => K h' _ s.toks l' (Nat.le_trans (List.length_eraseIdx_le ..) hz) (RepL.eraseIdx _ r) sb
  · cases h
end
theorem ops_ok (c : Cx) : OpsOk c ops where
  bin := fun hm hL ra rb => opBin_ok hm hL ra rb
  inpl := fun hm _ ra rb => opInpl_ok hm ra rb
  un := fun hm _ ra => opUn_ok hm ra
  cmp := fun hm _ ra rb h => opCmp_ok hm ra rb h
  truth := fun _ _ ra h => opTruth_ok ra h
  idx := fun _ _ ra rb => opIdx_ok ra rb
  idxT := fun ra h => opIdx_ty ra h
  slice := fun _ hL ra h1 h2 h3 hr => opSlice_ok hL ra h1 h2 h3 hr
  sliceT := fun ra h => opSlice_ty ra h
  bcall := fun hq hm _ hL r hv => by subst hq; exact callB_ok hm hL r hv
  itemsR := fun h => itemsV_ref h
  items := fun hm hq _ ra h Q E K => itemsV_ok hm hq ra h Q E K
  ometh := fun _ _ _ hl hz r ra h Q E K => opOmeth_ok hl hz r ra h Q E K
  isEq := fun hm _ hL ra rb h => isEqV_ok hm hL ra rb h
  is_ := fun _ _ ra rb h hop => opIs_ok ra rb h hop
end Mine
end
section
open PySem PySem.W PyProof.Rows
namespace Mine
set_option maxRecDepth 100000
/-- a def's plain names are bound to what is given -/
noncomputable def BindOk (xs : List Str) : Prop := ∀ (f : Str) (body : List Stmt) (scope : Scope) (pm code doc : Value) (as : List Arg) (vs : List Value), as.map (·.arg) = xs → vs.length = xs.length → bindArgs (PySem.Calls.docDef f ⟨[], as, none, [], [], none, []⟩ body scope pm code doc) ⟨vs, []⟩ = pure (xs.zip vs)
theorem args_nil {as : List Arg} (h : as.map (·.arg) = []) : as = [] := by cases as with | nil => rfl | cons _ _ => cases h
theorem args_cons {as : List Arg} {x : Str} {xs : List Str} (h : as.map (·.arg) = x :: xs) : ∃ a p r, as = ⟨x, a, p⟩ :: r ∧ r.map (·.arg) = xs := by
  cases as with
  | nil => cases h
  | cons y r =>
    obtain ⟨h1, h2⟩ := List.cons.inj h
    cases y with
    | mk n a p => exact ⟨a, p, r, by rw [show n = x from h1], h2⟩
theorem len_cons {vs : List Value} {n : Nat} (h : vs.length = n + 1) : ∃ v r, vs = v :: r ∧ r.length = n := by
  cases vs with
  | nil => cases h
  | cons v r => exact ⟨v, r, rfl, Nat.succ.inj h⟩
theorem bindOk1 {x : Str} (h : ∀ f body scope pm code doc a p v, bindArgs (PySem.Calls.docDef f ⟨[], [⟨x, a, p⟩], none, [], [], none, []⟩ body scope pm code doc) ⟨[v], []⟩ = pure [(x, v)]) : BindOk [x] := fun f body scope pm code doc as vs ha hv => by
  obtain ⟨a, p, r0, rfl, ha1⟩ := args_cons ha
  obtain ⟨v, ws0, rfl, hv1⟩ := len_cons hv
  rw [args_nil ha1, List.length_eq_zero_iff.mp hv1]
  exact h ..
theorem bindOk2 {x y : Str} (h : ∀ f body scope pm code doc a p b q v w, bindArgs (PySem.Calls.docDef f ⟨[], [⟨x, a, p⟩, ⟨y, b, q⟩], none, [], [], none, []⟩ body scope pm code doc) ⟨[v, w], []⟩ = pure [(x, v), (y, w)]) : BindOk [x, y] := fun f body scope pm code doc as vs ha hv => by
  obtain ⟨a, p, r0, rfl, ha1⟩ := args_cons ha
  obtain ⟨b, q, r1, rfl, ha2⟩ := args_cons ha1
  obtain ⟨v, ws0, rfl, hv1⟩ := len_cons hv
  obtain ⟨w, ws1, rfl, hv2⟩ := len_cons hv1
  rw [args_nil ha2, List.length_eq_zero_iff.mp hv2]
  exact h ..
theorem bindOk3 {x y z : Str} (h : ∀ f body scope pm code doc a p b q c r v w u, bindArgs (PySem.Calls.docDef f ⟨[], [⟨x, a, p⟩, ⟨y, b, q⟩, ⟨z, c, r⟩], none, [], [], none, []⟩ body scope pm code doc) ⟨[v, w, u], []⟩ = pure [(x, v), (y, w), (z, u)]) : BindOk [x, y, z] := fun f body scope pm code doc as vs ha hv => by
  obtain ⟨a, p, r0, rfl, ha1⟩ := args_cons ha
  obtain ⟨b, q, r1, rfl, ha2⟩ := args_cons ha1
  obtain ⟨c, t, r2, rfl, ha3⟩ := args_cons ha2
  obtain ⟨v, ws0, rfl, hv1⟩ := len_cons hv
  obtain ⟨w, ws1, rfl, hv2⟩ := len_cons hv1
  obtain ⟨u, ws2, rfl, hv3⟩ := len_cons hv2
  rw [args_nil ha3, List.length_eq_zero_iff.mp hv3]
  exact h ..

noncomputable def plainParams (a : Arguments) (xs : List Str) : Bool := a.posonlyargs.isEmpty && a.vararg.isNone && a.kwonlyargs.isEmpty && a.kw_defaults.isEmpty && a.kwarg.isNone && a.defaults.isEmpty && a.args.map (·.arg) == xs
/-- a def of the text, looked at -/
noncomputable def defOk (p : Program) (frees : List Str) (fname : Nat → Str) (f : Str) (ns : List Str) (np : Nat) (q : PSs) : Bool := match (recsOf p).find? (fun d => d.name == f) with
  | some d => fnOk frees fname d.scope ns np q d.body && plainParams d.params (ns.take np)
  | none => false
noncomputable def freesOk (p : Program) (loose : List Str) (frees : List Str) : Bool := frees.all fun x => !startupNames.contains x && !loose.contains x && !((recsOf p).map (·.name)).contains x && !((litsOf p).map (·.1)).contains x && !((clssOf p loose).map (·.name)).contains x

theorem frees_of {p : Program} {loose : List Str} {mean : ExcName → Option Value} {mg mb : Str → Option Value} {h : Heap} (T : Top p loose mean mg mb h) {frees : List Str} (hf : freesOk p loose frees = true) : ∀ x ∈ frees, mg x = none := fun x hx => by
  have := List.all_eq_true.mp hf x hx
  simp only [Bool.and_eq_true, Bool.not_eq_true'] at this
  obtain ⟨⟨⟨⟨h1, h2⟩, h3⟩, h4⟩, h5⟩ := this
  exact T.free x (fun z => by rw [List.contains_iff_mem.mpr z] at h1; cases h1) (fun z => by rw [List.contains_iff_mem.mpr z] at h2; cases h2) (fun z => by rw [List.contains_iff_mem.mpr z] at h3; cases h3)
    (fun z => by rw [List.contains_iff_mem.mpr z] at h4; cases h4) (fun z => by rw [List.contains_iff_mem.mpr z] at h5; cases h5)

/-- what a def's text says, ready for calls_of; the last xs may be left out -/
structure DefAt (c : Cx) (frees : List Str) (fname : Nat → Str) (f : Str) (ns : List Str) (np n : Nat) (xs : List AV) (q : PSs) : Prop where
  all : ∃ body scope, FnAt c f body scope ns np n xs ∧ fnOk frees fname scope ns np q body = true
  len : n + xs.length = np
abbrev DefIs (c : Cx) (frees : List Str) (fname : Nat → Str) (f : Str) (ns : List Str) (np : Nat) (q : PSs) : Prop := DefAt c frees fname f ns np np [] q

section
variable {c : Cx} {O : OpsF} (OK : OpsOk c O) {k : Nat} {cal : Cal} {fname : Nat → Str} (CO : CallsOk c k cal fname) {frees : List Str} (hfree : ∀ x ∈ frees, c.mg x = none)
include OK CO hfree
theorem DefAt.calls {f : Str} {ns : List Str} {np n : Nat} {p : PSs} {args xs : List AV} {σ : Store} {lo : Nat} (D : DefAt c frees fname f ns np n xs p) (hargs : args.length = n) : Calls c (k + 2) f σ lo args (fnRes (pxs O cal true (st0 (args ++ xs) ns.length σ lo) p)) := by
  obtain ⟨body, scope, h1, h2⟩ := D.all
  exact calls_of OK CO hfree h1 h2 hargs D.len
theorem DefAt.calls0 {f : Str} {ns : List Str} {np : Nat} {p : PSs} {args : List AV} {σ : Store} {lo : Nat} (D : DefIs c frees fname f ns np p) (hargs : args.length = np) : Calls c (k + 2) f σ lo args (fnRes (pxs O cal true (st0 args ns.length σ lo) p)) := by
  have := DefAt.calls OK CO hfree (σ := σ) (lo := lo) D hargs
  rwa [List.append_nil] at this
theorem DefAt.code {f : Str} {ns : List Str} {np : Nat} {p : PSs} {args : List AV} {σ : Store} {lo : Nat} (D : DefIs c frees fname f ns np p) (hargs : args.length = np)
    {A : Around} {s : Shared} {H : Hd} {vs : List Value} {a : Addr} {Q E : Value → Shared → Prop} (hm : Rm c true (k + 2) A H s) (hst : c.h0.StaysIn s.heap) (hL : Live H s.heap) (S : Sto σ H s.heap) (hm0 : ∀ n a, H.m n = some a → c.h0.get? a = none) (hr : RepL (vis s.heap H) vs args) (hmg : c.mg f = some (.ref a))
    (P : PostE true A lo σ H (fnRes (pxs O cal true (st0 args ns.length σ lo) p)) s Q E) : codeAny c.M A (.call (.ref a) ⟨vs, []⟩) (fun r s' => match r with | .ok (.ret v) => Q v s' | .ok _ => False | .error e => E e s') s := by
  obtain ⟨body, scope, h1, h2⟩ := D.all
  exact code_of OK CO hfree h1 h2 hargs rfl hm hst hL S hm0 hr hmg (by rw [List.append_nil]; exact P)
end
theorem DefAt.obj {c : Cx} {frees : List Str} {fname : Nat → Str} {f : Str} {ns : List Str} {np n : Nat} {xs : List AV} {q : PSs} (D : DefAt c frees fname f ns np n xs q) : FnObj c f := by
  obtain ⟨body, scope, h1, h2⟩ := D.all
  exact h1.obj

theorem Calls.mono {c : Cx} {k k' : Nat} {f : Str} {σ : Store} {lo : Nat} {args : List AV} {r : ER} (h : Calls c k f σ lo args r) (hk : k ≤ k') : Calls c k' f σ lo args r := fun A s H vs a hm => h A s H vs a ⟨by have := hm.depth; omega, by have := hm.units; omega, hm.hand, hm.frames, hm.tok, hm.td⟩

/-- one more def may be called -/
noncomputable def ext (O : OpsF) (cal : Cal) (i np : Nat) (ns : List Str) (p : PSs) : Cal := fun σ lo f args => if f = i then (if args.length = np then fnRes (pxs O cal true (st0 args ns.length σ lo) p) else .stuck) else cal σ lo f args
theorem ext_hit {O : OpsF} {cal : Cal} {i np : Nat} {ns : List Str} {p : PSs} {σ : Store} {lo : Nat} {args : List AV} (h : args.length = np) : ext O cal i np ns p σ lo i args = fnRes (pxs O cal true (st0 args ns.length σ lo) p) := by
  unfold ext; rw [if_pos rfl, if_pos h]
theorem ext_ne {O : OpsF} {cal : Cal} {i np : Nat} {ns : List Str} {p : PSs} {σ : Store} {lo f : Nat} {args : List AV} (h : f ≠ i) : ext O cal i np ns p σ lo f args = cal σ lo f args := by
  unfold ext; rw [if_neg h]
theorem ext_ok {c : Cx} {O : OpsF} (OK : OpsOk c O) {k : Nat} {cal : Cal} {fname : Nat → Str} (CO : CallsOk c k cal fname) {frees : List Str} (hfree : ∀ x ∈ frees, c.mg x = none) {i np : Nat} {ns : List Str} {p : PSs} (D : DefIs c frees fname (fname i) ns np p) : CallsOk c (k + 2) (ext O cal i np ns p) fname := ⟨fun σ lo f args h => by
  by_cases hf : f = i
  · subst hf
    by_cases hl : args.length = np
    · rw [ext_hit hl]
      exact ⟨DefAt.calls0 OK CO hfree D hl, D.obj⟩
    · exact absurd (by unfold ext; rw [if_pos rfl, if_neg hl]) h
  · rw [ext_ne hf] at h ⊢
    obtain ⟨a, b⟩ := CO.ok σ lo f args h
    exact ⟨a.mono (by omega), b⟩⟩

/- what leaves no thing of the store behind -/
/-- nothing is hidden -/
noncomputable def H0 (T : Tok → Option Int) : Hd := ⟨fun _ => False, fun _ => none, fun _ => none, T⟩
/-- ints that bear their marks -/
noncomputable def Marked (T : Tok → Option Int) (vs : List Value) : Prop := ∀ v ∈ vs, ∀ i t, v = .int i t → t ≠ 0 ∧ T t = some i
/-- the script as a value -/
theorem script_rep {h : Heap} {T : Tok → Option Int} {l : Addr} {vs : List Value} {ns : List Int} (hl : IsL h l vs) (hI : IntsAre vs ns) (hM : Marked T vs) (hz : ns.length ≤ 1048576) : RepL (vis h (H0 T)) [.ref l] [.lst (ns.map .int)] := by
  obtain ⟨o, n, e, hc, hd, hdi⟩ := hl
  have : ∀ {vs : List Value} {ns : List Int}, IntsAre vs ns → Marked T vs → RepL (vis h (H0 T)) vs (ns.map .int) := by
    intro vs ns hI
    induction hI with
    | nil => intro _; simp [RepL]
    | cons n t _ ih =>
      intro hM
      simp only [List.map_cons, RepL, Rep]
      exact ⟨⟨t, rfl, hM _ (List.mem_cons_self ..) n t rfl⟩, ih fun v hv => hM v (List.mem_cons_of_mem _ hv)⟩
  simp only [RepL, Rep, and_true]
  exact ⟨by simpa using hz, l, vs, n, rfl, ⟨(fun z => z : ¬ (H0 T).p l), o, e, hc, hd, hdi, .inl rfl, fun ⟨fs, z⟩ => by cases z⟩, this hI hM⟩

theorem isL_of_well {P : Params} {h : Heap} {l : Addr} {vs : List Value} {ys : List WData} {d : WData} (hL : h.IsList l vs.toArray) (w : Well P h (.ref l) d) (e : d = .list ys) : IsL h l vs := by
  cases w <;> try (cases e)
  rename_i vs' e _
  obtain ⟨o', e', hc', n', hd'⟩ := hL
  rw [e] at e'; cases e'
  exact ⟨_, _, e, rfl, hd', rfl⟩
end Mine
end
section
open PySem PySem.W PyProof.Rows
namespace Mine
set_option maxRecDepth 100000
section
variable {O : OpsF} {cal : Cal} {q : Bool} {st : Fs}
theorem pe_const {v : AV} : pe O cal q st (.const v) = .of O.truth st.ρ (.ok (.av v) st.σ) := rfl
theorem pe_name {i : Nat} : pe O cal q st (.name i) = .of O.truth st.ρ (slotV st i) := rfl
theorem pe_glob {b : BI} : pe O cal q st (.glob b) = .of O.truth st.ρ (.ok (.av (.type b.name)) st.σ) := rfl
theorem pe_bin {op : Operator} {l r : PE} : pe O cal q st (.bin op l r) = .of O.truth st.ρ ((pe O cal q st l).v.bind fun a σ₁ => (pe O cal q (st.at σ₁) r).v.bind fun b σ₂ => ofRes (O.bin op (derefS st.ρ σ₂ a) (derefS st.ρ σ₂ b)) σ₂) := rfl
theorem pe_not {x : PE} : pe O cal q st (.un .Not x) = ⟨(pe O cal q st x).v.bind fun a σ₁ => ofRes (O.un .Not (derefS st.ρ σ₁ a)) σ₁, (pe O cal q st x).t.map fun p => (!p.1, p.2)⟩ := rfl
theorem pe_neg {x : PE} : pe O cal q st (.un .USub x) = .of O.truth st.ρ ((pe O cal q st x).v.bind fun a σ₁ => ofRes (O.un .USub (derefS st.ρ σ₁ a)) σ₁) := rfl
theorem pe_is {l r : PE} : pe O cal q st (.cmp .Is l r) = .of O.truth st.ρ ((pe O cal q st l).v.bindA fun a σ₁ => (pe O cal q (st.at σ₁) r).v.bindA fun b σ₂ => ofB (O.is_ a b) σ₂) := rfl
theorem pe_isnot {l r : PE} : pe O cal q st (.cmp .IsNot l r) = .of O.truth st.ρ ((pe O cal q st l).v.bindA fun a σ₁ => (pe O cal q (st.at σ₁) r).v.bindA fun b σ₂ => ofB ((O.is_ a b).map (!·)) σ₂) := rfl
noncomputable def isIs : CmpOp → Bool
  | .Is => true
  | .IsNot => true
  | _ => false
theorem pe_cmp {op : CmpOp} {l r : PE} (h : isIs op = false) : pe O cal q st (.cmp op l r) = .of O.truth st.ρ ((pe O cal q st l).v.bind fun a σ₁ => (pe O cal q (st.at σ₁) r).v.bind fun b σ₂ => ofB (O.cmp op (derefS st.ρ σ₂ a) (derefS st.ρ σ₂ b)) σ₂) := by
  cases op <;> first | (cases h; done) | rfl
theorem pe_eq {l r : PE} : pe O cal q st (.cmp .Eq l r) = .of O.truth st.ρ ((pe O cal q st l).v.bind fun a σ₁ => (pe O cal q (st.at σ₁) r).v.bind fun b σ₂ => ofB (O.cmp .Eq (derefS st.ρ σ₂ a) (derefS st.ρ σ₂ b)) σ₂) := pe_cmp rfl
theorem pe_ne {l r : PE} : pe O cal q st (.cmp .NotEq l r) = .of O.truth st.ρ ((pe O cal q st l).v.bind fun a σ₁ => (pe O cal q (st.at σ₁) r).v.bind fun b σ₂ => ofB (O.cmp .NotEq (derefS st.ρ σ₂ a) (derefS st.ρ σ₂ b)) σ₂) := pe_cmp rfl
theorem pe_lt {l r : PE} : pe O cal q st (.cmp .Lt l r) = .of O.truth st.ρ ((pe O cal q st l).v.bind fun a σ₁ => (pe O cal q (st.at σ₁) r).v.bind fun b σ₂ => ofB (O.cmp .Lt (derefS st.ρ σ₂ a) (derefS st.ρ σ₂ b)) σ₂) := pe_cmp rfl
theorem pe_le {l r : PE} : pe O cal q st (.cmp .LtE l r) = .of O.truth st.ρ ((pe O cal q st l).v.bind fun a σ₁ => (pe O cal q (st.at σ₁) r).v.bind fun b σ₂ => ofB (O.cmp .LtE (derefS st.ρ σ₂ a) (derefS st.ρ σ₂ b)) σ₂) := pe_cmp rfl
theorem pe_gt {l r : PE} : pe O cal q st (.cmp .Gt l r) = .of O.truth st.ρ ((pe O cal q st l).v.bind fun a σ₁ => (pe O cal q (st.at σ₁) r).v.bind fun b σ₂ => ofB (O.cmp .Gt (derefS st.ρ σ₂ a) (derefS st.ρ σ₂ b)) σ₂) := pe_cmp rfl
theorem pe_ge {l r : PE} : pe O cal q st (.cmp .GtE l r) = .of O.truth st.ρ ((pe O cal q st l).v.bind fun a σ₁ => (pe O cal q (st.at σ₁) r).v.bind fun b σ₂ => ofB (O.cmp .GtE (derefS st.ρ σ₂ a) (derefS st.ρ σ₂ b)) σ₂) := pe_cmp rfl
theorem pe_in {l r : PE} : pe O cal q st (.cmp .In l r) = .of O.truth st.ρ ((pe O cal q st l).v.bind fun a σ₁ => (pe O cal q (st.at σ₁) r).v.bind fun b σ₂ => ofB (O.cmp .In (derefS st.ρ σ₂ a) (derefS st.ρ σ₂ b)) σ₂) := pe_cmp rfl
theorem pe_notin {l r : PE} : pe O cal q st (.cmp .NotIn l r) = .of O.truth st.ρ ((pe O cal q st l).v.bind fun a σ₁ => (pe O cal q (st.at σ₁) r).v.bind fun b σ₂ => ofB (O.cmp .NotIn (derefS st.ρ σ₂ a) (derefS st.ρ σ₂ b)) σ₂) := pe_cmp rfl
theorem pe_bop {op : BoolOp} {xs : PEs} : pe O cal q st (.bop op xs) = ⟨pbop O cal q st op xs, pall O cal q st op xs⟩ := rfl
theorem pe_ife {t a b : PE} : pe O cal q st (.ife t a b) = match (pe O cal q st t).t with
    | some (true, σ₁) => pe O cal q (st.at σ₁) a
    | some (false, σ₁) => pe O cal q (st.at σ₁) b
    | none => ⟨.stuck, none⟩ := rfl
theorem pe_list {xs : PEs} : pe O cal q st (.list xs) = .of O.truth st.ρ (onP (pes O cal q st xs) fun l σ₁ => if l.length ≤ 100 then .ok (.av (.lst l)) σ₁ else .stuck) := rfl
theorem pe_tup {xs : PEs} : pe O cal q st (.tup xs) = .of O.truth st.ρ (onP (pes O cal q st xs) fun l σ₁ => if l.length ≤ 100 then .ok (.av (.tup l)) σ₁ else .stuck) := rfl
theorem pe_sub {o i : PE} : pe O cal q st (.sub o i) = .of O.truth st.ρ ((pe O cal q st o).v.bind fun a σ₁ => (pe O cal q (st.at σ₁) i).v.bind fun b σ₂ => ofRes (O.idx (derefS st.ρ σ₂ a) (derefS st.ρ σ₂ b)) σ₂) := rfl
theorem pe_slice {o a b s : PE} : pe O cal q st (.slice o a b s) = .of O.truth st.ρ ((pe O cal q st o).v.bind fun v σ₁ => (pe O cal q (st.at σ₁) a).v.bindA fun x σ₂ => (pe O cal q (st.at σ₂) b).v.bindA fun y σ₃ => (pe O cal q (st.at σ₃) s).v.bindA fun z σ₄ => ofRes (O.slice (derefS st.ρ σ₄ v) x y z) σ₄) := rfl
theorem pe_call {f : Nat} {xs : PEs} : pe O cal true st (.call f xs) = .of O.truth st.ρ (onP (pes O cal true st xs) fun l σ₁ => cal σ₁ st.lo f l) := rfl
theorem pe_bcall {f : BI} {xs : PEs} : pe O cal true st (.bcall f xs) = .of O.truth st.ρ (onL (pes O cal true st xs) fun l σ₁ => ofRes (O.bcall f (l.map (derefS st.ρ σ₁))) σ₁) := rfl
theorem pes_nil' : pes O cal q st .nil = some ([], st.σ) := rfl
theorem pes_cons {e : PE} {es : PEs} : pes O cal q st (.cons e es) = match (pe O cal q st e).v with
    | .ok v σ₁ => (match pes O cal q (st.at σ₁) es with
      | some (l, σ₂) => some (v :: l, σ₂)
      | none => none)
    | _ => none := rfl
theorem pr_v {tr : AV → Option Bool} {ρ : List (Option Ent)} {r : ER} : (PR.of tr ρ r).v = r := rfl
theorem pr_t {tr : AV → Option Bool} {ρ : List (Option Ent)} {r : ER} : (PR.of tr ρ r).t = r.truth tr ρ := rfl
theorem bind_ok {v : OV} {σ : Store} {f : OV → Store → ER} : (ER.ok v σ).bind f = f v σ := rfl
theorem bindA_ok {v : AV} {σ : Store} {f : AV → Store → ER} : (ER.ok (.av v) σ).bindA f = f v σ := rfl
theorem truth_ok {tr : AV → Option Bool} {ρ : List (Option Ent)} {v : OV} {σ : Store} : (ER.ok v σ).truth tr ρ = (tr (derefS ρ σ v)).map fun b => (b, σ) := rfl
theorem ofB_some {b : Bool} {σ : Store} : ofB (some b) σ = .ok (.av (.bool b)) σ := rfl
theorem ofRes_ok {v : AV} {σ : Store} : ofRes (.ok v) σ = .ok (.av v) σ := rfl
theorem ofRes_exc {v : EX} {σ : Store} : ofRes (.exc v) σ = .exc v σ := rfl
theorem onL_some {l : List OV} {σ : Store} {f : List OV → Store → ER} : onL (some (l, σ)) f = f l σ := rfl
theorem onP_some {l : List OV} {σ : Store} {f : List AV → Store → ER} : onP (some (l, σ)) f = match plains l with | some l => f l σ | none => .stuck := rfl
theorem plains_nil : plains [] = some [] := rfl
theorem plains_cons {x : AV} {r : List OV} : plains (.av x :: r) = (plains r).map (x :: ·) := rfl
theorem pall_and_nil : pall O cal q st .And .nil = some (true, st.σ) := by rw [pall]; rfl
theorem pall_or_nil : pall O cal q st .Or .nil = some (false, st.σ) := by rw [pall]; rfl
theorem pall_and_cons {e : PE} {es : PEs} : pall O cal q st .And (.cons e es) = match (pe O cal q st e).t with | some (false, σ₁) => some (false, σ₁) | some (true, σ₁) => pall O cal q (st.at σ₁) .And es | none => none := by
  rw [pall.eq_def]
  dsimp only
  cases (pe O cal q st e).t with
  | none => rfl
  | some p => obtain ⟨b, σ⟩ := p; cases b <;> rfl
theorem pall_or_cons {e : PE} {es : PEs} : pall O cal q st .Or (.cons e es) = match (pe O cal q st e).t with | some (true, σ₁) => some (true, σ₁) | some (false, σ₁) => pall O cal q (st.at σ₁) .Or es | none => none := by
  rw [pall.eq_def]
  dsimp only
  cases (pe O cal q st e).t with
  | none => rfl
  | some p => obtain ⟨b, σ⟩ := p; cases b <;> rfl
theorem pbop_one {op : BoolOp} {e : PE} : pbop O cal q st op (.cons e .nil) = (pe O cal q st e).v := by rw [pbop]
theorem pbop_and {e e' : PE} {es : PEs} : pbop O cal q st .And (.cons e (.cons e' es)) = (pe O cal q st e).v.bind fun v σ₁ => match O.truth (derefS st.ρ σ₁ v) with | some false => .ok v σ₁ | some true => pbop O cal q (st.at σ₁) .And (.cons e' es) | none => .stuck := by
  rw [pbop]
  congr 1
  funext v σ₁
  cases O.truth (derefS st.ρ σ₁ v) with
  | none => rfl
  | some b => cases b <;> rfl
theorem pbop_or {e e' : PE} {es : PEs} : pbop O cal q st .Or (.cons e (.cons e' es)) = (pe O cal q st e).v.bind fun v σ₁ => match O.truth (derefS st.ρ σ₁ v) with | some true => .ok v σ₁ | some false => pbop O cal q (st.at σ₁) .Or (.cons e' es) | none => .stuck := by
  rw [pbop]
  congr 1
  funext v σ₁
  cases O.truth (derefS st.ρ σ₁ v) with
  | none => rfl
  | some b => cases b <;> rfl
theorem pe_comp {caps : List Nat} {elt src : PE} {conds : PEs} {a : OV} {σ₁ : Store} {l ys : List AV} (h1 : (pe O cal true st src).v = .ok a σ₁) (h2 : O.items (derefS st.ρ σ₁ a) = some l)
    (h3 : mapF (fun x => compF σ₁.length (pall O cal true ((st.at σ₁).inner caps x) .And conds) (pe O cal true ((st.at σ₁).inner caps x) elt).v) l = some ys) : pe O cal true st (.comp caps elt src conds) = .of O.truth st.ρ (.ok (.av (.lst ys)) σ₁) := by
  rw [qe_comp, h1]
  simp only [ER.bind, h2, onItems, h3]
end
theorem mapF_gen {α : Type} {f : AV → Option (Option AV)} {g : α → AV} {h : α → Option AV} : ∀ {l : List α}, (∀ j ∈ l, f (g j) = some (h j)) → mapF f (l.map g) = some (l.filterMap h)
  | [], _ => rfl
  | a :: l, k => by
    have ih := mapF_gen (f := f) (g := g) (h := h) (l := l) fun j hj => k j (List.mem_cons_of_mem _ hj)
    simp only [List.map_cons, mapF, k a (List.mem_cons_self ..), List.filterMap_cons]
    cases h a with
    | none => exact ih
    | some y => simp only [ih, Option.map_some]
theorem mapF_map {α : Type} {f : AV → Option (Option AV)} {g h : α → AV} {l : List α} (k : ∀ j ∈ l, f (g j) = some (some (h j))) : mapF f (l.map g) = some (l.map h) := by
  rw [mapF_gen (h := fun j => some (h j)) k]
  congr 1
  rw [← List.filterMap_eq_map]; rfl
theorem mapF_filter {α : Type} {f : AV → Option (Option AV)} {g h : α → AV} {p : α → Bool} {l : List α} (k : ∀ j ∈ l, f (g j) = some (if p j = true then some (h j) else none)) : mapF f (l.map g) = some ((l.filter p).map h) := by
  rw [mapF_gen (h := fun j => if p j = true then some (h j) else none) k]
  congr 1
  induction l with
  | nil => rfl
  | cons a l ih =>
    have ih := ih fun j hj => k j (List.mem_cons_of_mem _ hj)
    simp only [List.filterMap_cons, List.filter_cons]
    cases p a <;> simp [ih]
theorem compF_t {n : Nat} {σ : Store} {e : ER} {v : AV} {σ' : Store} (h : e = .ok (.av v) σ') (hn : σ'.length = n) : compF n (some (true, σ)) e = some (some v) := by
  subst h
  simp [compF, elemF, hn]
/- what holds of the end of a row of statements -/
section
variable {O : OpsF} {cal : Cal} {q : Bool} {st : Fs} {K : FR → Prop} {r : PSs}
noncomputable def thenK (O : OpsF) (cal : Cal) (q : Bool) (r : PSs) (K : FR → Prop) : FR → Prop
  | .next st' => K (pxs O cal q st' r)
  | f => K f
theorem pk_cons {s : PS} (h : thenK O cal q r K (px O cal q st s)) : K (pxs O cal q st (.cons s r)) := by
  rw [qxs_cons]
  revert h
  cases px O cal q st s <;> exact fun h => h
theorem pk_step {s : PS} {st' : Fs} (h : px O cal q st s = .next st') (k : K (pxs O cal q st' r)) : K (pxs O cal q st (.cons s r)) := by
  rw [qxs_cons, h]; exact k
theorem pk_nil (h : K (.next st)) : K (pxs O cal q st .nil) := by rw [qxs_nil]; exact h
theorem pk_assign {i : Nat} {e : PE} {v : AV} {σ : Store} (h : (pe O cal q st e).v = .ok (.av v) σ) (k : K (pxs O cal q ((st.at σ).set i (.val v)) r)) : K (pxs O cal q st (.cons (.assign i e) r)) := by
  refine pk_step ?_ k
  rw [qx_assign, h]; rfl
theorem pk_own {i : Nat} {xs : PEs} {ol : List OV} {ys : List AV} {σ : Store} (h : pes O cal q st xs = some (ol, σ)) (hp : plains ol = some ys) (hl : ys.length ≤ 100) (k : K (pxs O cal q ((st.at σ).set i (.own ys)) r)) : K (pxs O cal q st (.cons (.ownl i xs) r)) := by
  refine pk_step ?_ k
  rw [qx_ownl]; simp only [h, hp, hl, if_true]
theorem pk_unpack2 {i j : Nat} {a b : PE} {x y : AV} {σ₁ σ : Store} (h1 : (pe O cal true st a).v = .ok (.av x) σ₁) (h2 : (pe O cal true (st.at σ₁) b).v = .ok (.av y) σ) (k : K (pxs O cal true (((st.at σ).set i (.val x)).set j (.val y)) r)) : K (pxs O cal true st (.cons (.unpack2 i j a b) r)) := by
  refine pk_step ?_ k
  have e : (pe O cal true st (.tup (.cons a (.cons b .nil)))).v = .ok (.av (.tup [x, y])) σ := by
    rw [pe_tup, pr_v, pes_cons, h1]
    simp only [pes_cons, h2, pes_nil', onP_some, plains, Option.map_some]
    rfl
  rw [qx_unpack2, e]; rfl
theorem pk_aug {i : Nat} {op : Operator} {e : PE} {a v : AV} {b : OV} {σ' σ : Store} (ha : slotV st i = .ok (.av a) σ') (hb : (pe O cal q st e).v = .ok b σ) (h : O.inpl op (deref σ a) (derefS st.ρ σ b) = .ok v) (k : K (pxs O cal q ((st.at σ).set i (.val v)) r)) : K (pxs O cal q st (.cons (.aug i op e) r)) := by
  refine pk_step ?_ k
  rw [qx_aug, ha, hb]; simp only [h]; rfl
theorem pk_ometh {i : Nat} {m : OMI} {es : PEs} {xs xs' l : List AV} {ol : List OV} {σ : Store} (hi : ownOf st i = some xs) (h : pes O cal true st es = some (ol, σ)) (hp : plains ol = some l) (hm : O.ometh m xs l = some xs') (k : K (pxs O cal true ((st.at σ).set i (.own xs')) r)) : K (pxs O cal true st (.cons (.ometh i m es none) r)) := by
  refine pk_step ?_ k
  rw [qx_ometh]; simp only [omethF, h, hp, hi, hm]
theorem pk_if {t : PE} {a b : PSs} {c : Bool} {σ : Store} (h : (pe O cal q st t).t = some (c, σ)) (k : if c = true then thenK O cal q r K (pxs O cal q (st.at σ) a) else thenK O cal q r K (pxs O cal q (st.at σ) b)) : K (pxs O cal q st (.cons (.ite t a b) r)) := by
  refine pk_cons ?_
  rw [qx_ite, h]
  cases c <;> simpa using k
theorem pk_if_t {t : PE} {a b : PSs} {σ : Store} (h : (pe O cal q st t).t = some (true, σ)) (k : thenK O cal q r K (pxs O cal q (st.at σ) a)) : K (pxs O cal q st (.cons (.ite t a b) r)) := pk_if h (by simpa using k)
theorem pk_if_f {t : PE} {a b : PSs} {σ : Store} (h : (pe O cal q st t).t = some (false, σ)) (k : thenK O cal q r K (pxs O cal q (st.at σ) b)) : K (pxs O cal q st (.cons (.ite t a b) r)) := pk_if h (by simpa using k)
/-- an if that is passed by -/
theorem pk_skip {t : PE} {a : PSs} {σ : Store} (h : (pe O cal q st t).t = some (false, σ)) (k : K (pxs O cal q (st.at σ) r)) : K (pxs O cal q st (.cons (.ite t a .nil) r)) := pk_if_f h (by rw [qxs_nil]; exact k)
theorem pk_ret {e : PE} {v : AV} {σ : Store} (h : (pe O cal q st e).v = .ok (.av v) σ) (k : K (.ret v σ)) : K (pxs O cal q st (.cons (.ret e) r)) := by
  refine pk_cons ?_
  rw [qx_ret, h]; exact k
/-- what holds of a turn's end -/
noncomputable def loopK (I : Fs → Prop) (K : FR → Prop) : FR → Prop
  | .next st' => I st'
  | .cont st' => I st'
  | .brk st' => K (.next st')
  | .ret v σ => K (.ret v σ)
  | _ => False
theorem forF_inv {f : AV → Fs → FR} (I : Nat → Fs → Prop) : ∀ (l : List AV) (n : Nat) (st : Fs), I n st → (∀ j x st, l[j]? = some x → I (n + j) st → loopK (I (n + j + 1)) K (f x st)) → (∀ st, I (n + l.length) st → K (.next st)) → K (forF f l st)
  | [], n, st, h0, _, hd => hd st (by simpa using h0)
  | x :: l, n, st, h0, hs, hd => by
    have h1 := hs 0 x st (by simp) (by simpa using h0)
    have go : ∀ st', I (n + 0 + 1) st' → K (forF f l st') := fun st' h' => by
      refine forF_inv I l (n + 1) st' (by simpa using h') (fun j y st hj hI => ?_) (fun st hI => hd st ?_)
      · have := hs (j + 1) y st (by simpa using hj) (by rw [show n + (j + 1) = n + 1 + j by omega]; exact hI)
        rw [show n + (j + 1) + 1 = n + 1 + j + 1 by omega] at this
        exact this
      · rw [List.length_cons, show n + (l.length + 1) = n + 1 + l.length by omega]; exact hI
    rw [forF]
    revert h1
    cases f x st with
    | next st' => exact fun h => go st' h
    | cont st' => exact fun h => go st' h
    | brk st' => exact fun h => h
    | ret v σ => exact fun h => h
    | exc _ _ => exact fun h => h.elim
    | stuck => exact fun h => h.elim
theorem pk_for {i : Nat} {src : PE} {body : PSs} {v : AV} {σ : Store} {l : List AV} (I : Nat → Fs → Prop) (h : (pe O cal true st src).v = .ok (.av v) σ) (hi : O.items v = some l) (h0 : I 0 (st.at σ))
    (hs : ∀ j x st, l[j]? = some x → I j st → loopK (I (j + 1)) (thenK O cal true r K) (pxs O cal true (st.set i (.val x)) body)) (hd : ∀ st, I l.length st → K (pxs O cal true st r)) : K (pxs O cal true st (.cons (.for_ i src body) r)) := by
  refine pk_cons ?_
  have e : px O cal true st (.for_ i src body) = forF (fun x st => pxs O cal true (st.set i (.val x)) body) l (st.at σ) := by
    rw [qx_for_]
    simp only [h, hi]
  rw [e]
  refine forF_inv (K := thenK O cal true r K) I l 0 _ h0 (fun j x st hj hI => ?_) fun st hI => hd st (by simpa using hI)
  simp only [Nat.zero_add] at hI ⊢
  exact hs j x st hj hI
/-- a def's result -/
noncomputable def Ends (v : ER) (fr : FR) : Prop := fnRes fr = v
theorem fn_ret {p : PSs} {v : ER} (h : Ends v (pxs O cal q st p)) : fnRes (pxs O cal q st p) = v := h
theorem ends_ret {v : AV} {σ : Store} : Ends (.ok (.av v) σ) (.ret v σ) := rfl
end
section
variable {σ : Store} {ρ : List (Option Ent)}
theorem dS_av {x : AV} : derefS ρ σ (.av x) = deref σ x := rfl
theorem dr_none : deref σ .none = .none := rfl
theorem dr_bool {x : Bool} : deref σ (.bool x) = .bool x := rfl
theorem dr_int {x : Int} : deref σ (.int x) = .int x := rfl
theorem dr_str {x : Str} : deref σ (.str x) = .str x := rfl
theorem dr_type {x : String} : deref σ (.type x) = .type x := rfl
theorem dr_range {a b c : Int} : deref σ (.range a b c) = .range a b c := rfl
theorem dr_tup {x : List AV} : deref σ (.tup x) = .tup x := rfl
theorem dr_lst {x : List AV} : deref σ (.lst x) = .lst x := rfl
theorem dr_set {b : Bool} {x : List Int} : deref σ (.set b x) = .set b x := rfl
end
/- numbers -/
theorem idxL_nat {xs : List AV} {i : Int} {x : AV} (h0 : 0 ≤ i) (h : xs[i.toNat]? = some x) : idxL xs i = .ok x := by
  unfold idxL; rw [if_pos h0, h]
theorem ints_map (l : List Int) : ints? (l.map .int) = some l := by
  induction l with
  | nil => rfl
  | cons a l ih => simp [ints?, ih]
noncomputable def pickI (xs : List Int) (lo hi st : Option Int) : List Int :=
  (sliceRange (sliceBounds lo hi st xs.length).1 (sliceBounds lo hi st xs.length).2.1 (sliceBounds lo hi st xs.length).2.2).filterMap (xs[·]?)
theorem pickL_ints (ns : List Int) (lo hi st : Option Int) : pickL (ns.map .int) lo hi st = (pickI ns lo hi st).map .int := by
  unfold pickL pickI
  rw [List.length_map, List.map_filterMap]
  congr 1
  funext i
  rw [List.getElem?_map]
theorem range2_items (a : Int) (n : Nat) (h : n ≤ 1000) (h1 : -1000000 ≤ a) (h2 : a ≤ 1000000) : itemsV (.range a (a + n) 1) = some ((List.range n).map fun (i : Nat) => .int (a + i)) := by
  have hs : Builtin.Range.small a (a + n) 1 = true := small_one (by omega) (by omega) (by omega) (by omega)
  have hz : Builtin.Range.rangeSize a (a + n) 1 = n := by rw [rangeSize_one]; split <;> omega
  unfold itemsV
  simp only [hs, if_true, hz, Int.toNat_natCast]
  rw [if_pos (by omega)]
  unfold rangeL
  rw [hz]
  simp only [Int.toNat_natCast, Int.mul_one]
theorem range_items (n : Nat) (h : n ≤ 1000) : itemsV (.range 0 n 1) = some ((List.range n).map fun (i : Nat) => .int i) := by
  have := range2_items 0 n h (by omega) (by omega)
  simpa using this
theorem range_get {n j : Nat} {x : AV} (h : ((List.range n).map fun (i : Nat) => AV.int i)[j]? = some x) : j < n ∧ x = .int j := by
  rw [List.getElem?_map] at h
  by_cases hj : j < n
  · rw [List.getElem?_range hj] at h
    simp at h
    exact ⟨hj, h.symm⟩
  · rw [List.getElem?_eq_none (by simpa using hj)] at h
    cases h
end Mine
end
section
open PySem PySem.W PyProof.Rows
namespace Mine
set_option linter.unusedVariables false
/- the key: a list from k on, and what stands ahead behind it -/
section
variable {c : Cx} {O : OpsF} {q : Bool} {k : Nat} {A : Around} {s : Shared} {H : Hd}
theorem none_rep (R : Vw) : Rep R Value.none AV.none := by simp [Rep]
/-- a part of a list that a name of the surroundings says -/
theorem lam_part (OK : OpsOk c O) {env : Env} {vn : Str} {wv va vb : Value} {xs ys : List AV} {av bv : AV} {lo up : Option Expr} {p1 p2 pos : Pos} {cc : Addr} (hm : Rm c q (k + 1) A H s) (hL : Live H s.heap) (hk : env.scope.kind = .function) (k2 : env.kindOf vn = some .free) (hcl : env.cells.lookup vn = some cc) (hcc : s.heap.IsCell cc (some wv)) (hn : (vn == ("__classdict__" : Str)) = false) (hd : (vn == ("__debug__" : Str)) = false)
    (rw_ : Rep (vis s.heap H) wv (.lst xs)) (ra : Rep (vis s.heap H) va av) (rb : Rep (vis s.heap H) vb bv)
    (ea : ∀ (Q E : Value → Shared → Prop), Q va s → wpAny c.M A (evalPart lo env) Q E s) (eb : ∀ (Q E : Value → Shared → Prop), Q vb s → wpAny c.M A (evalPart up env) Q E s)
    (h : O.slice (.lst xs) av bv .none = .ok (.lst ys)) : Tr c q A H (eval (.Subscript (.Name vn p1) (.Slice lo up none p2) pos) env) (.ok (.lst ys)) s := fun Q E P => by
  refine Subscript_ (wpAny_Name (wpAny_loadName_free hk k2 hcl hcc ?_ hn) hd)
  refine wpAny_Slice (ea _ _ (eb _ _ (wpAny_evalPart_none ?_)))
  have k5 : Kp A s { s with heap := s.heap.push { cls := .type "slice", data := .fields #[va, vb, .none] } } := Kp.push _
  have ro : RepO (s.heap.push { cls := .type "slice", data := .fields #[va, vb, .none] }) H wv (.lst xs) := by
    have := rw_.mono (k5.kh.vis (H := H))
    exact RepO.of this
  have hne : O.slice (.lst xs) av bv .none ≠ .stuck := by rw [h]; exact fun z => by cases z
  obtain ⟨T, id, hT, hid⟩ := OK.sliceT (s := { s with heap := s.heap.push { cls := .type "slice", data := .fields #[va, vb, .none] } }) ro hne
  refine tail_any (ops := [.ref s.heap.objs.size, wv]) hT hid (OK.slice (hm.kp k5) (hL.kp k5) ro (Rep.mono k5.kh.vis ra) (Rep.mono k5.kh.vis rb) (none_rep _) (Heap.get?_push_size _ rfl) _ _ ?_) rfl
  rw [h]
  exact fun v s' H' kt r => P v s' H' ((Kt.of k5).trans kt) r
theorem lam_body (OK : OpsOk c O) {env : Env} {vn x : Str} {wv v : Value} {xs ys ys' zs : List AV} {i : Int} {p1 p2 p3 p4 p5 p6 p7 p8 p9 : Pos} {cc : Addr} {m : Str → Option Value} (hm : Rm c q (k + 1) A H s) (hL : Live H s.heap) (hk : env.scope.kind = .function) (k1 : env.kindOf x = some .local) (k2 : env.kindOf vn = some .free) (hcl : env.cells.lookup vn = some cc) (hcc : s.heap.IsCell cc (some wv)) (hns : s.heap.Ns env.locals m) (hx : m x = some v) (hn : (vn == ("__classdict__" : Str)) = false) (hd : (vn == ("__debug__" : Str)) = false) (hd2 : (x == ("__debug__" : Str)) = false)
    (rw_ : Rep (vis s.heap H) wv (.lst xs)) (rv : Rep (vis s.heap H) v (.int i)) (h1 : O.slice (.lst xs) (.int i) .none .none = .ok (.lst ys)) (h2 : O.slice (.lst xs) .none (.int i) .none = .ok (.lst ys')) (h3 : O.bin .Add (.lst ys) (.lst ys') = .ok (.lst zs)) :
    Tr c q A H (eval (.BinOp (.Subscript (.Name vn p1) (.Slice (some (.Name x p2)) none none p3) p4) .Add (.Subscript (.Name vn p5) (.Slice none (some (.Name x p6)) none p7) p8) p9) env) (.ok (.lst zs)) s := fun Q E P => by
  refine wpAny_BinOp (lam_part OK hm hL hk k2 hcl hcc hn hd rw_ rv (none_rep _) (fun Q E h => wpAny_evalPart_some (wpAny_Name (wpAny_loadName_local hk k1 hns hx h) hd2)) (fun Q E h => wpAny_evalPart_none h) h1 _ _ fun a s₁ H₁ kt ra => ?_)
  have hns₁ := kt.kp.kh.ns hns
  have hcc₁ := kt.kp.kh.cell hcc
  have hm₁ := hm.nf kt.nf
  have hL₁ := hL.kt kt
  refine lam_part OK hm₁ hL₁ hk k2 hcl hcc₁ hn hd (rw_.kt kt) (none_rep _) (rv.kt kt) (fun Q E h => wpAny_evalPart_none h) (fun Q E h => wpAny_evalPart_some (wpAny_Name (wpAny_loadName_local hk k1 hns₁ hx h) hd2)) h2 _ _ fun b s₂ H₂ kt₂ rb => ?_
  refine OK.bin (hm₁.nf kt₂.nf) (hL₁.kt kt₂) (RepO.of (ra.kt kt₂)) (RepO.of rb) _ _ ?_
  rw [h3]
  exact fun v s' H' kt₃ r => P v s' H' ((kt.trans kt₂).trans kt₃) r
abbrev lamE (vn x : Str) (p1 p2 p3 p4 p5 p6 p7 p8 p9 : Pos) : Expr := .BinOp (.Subscript (.Name vn p1) (.Slice (some (.Name x p2)) none none p3) p4) .Add (.Subscript (.Name vn p5) (.Slice none (some (.Name x p6)) none p7) p8) p9
/-- the key is asked for -/
theorem lam_call (OK : OpsOk c O) {vn x : Str} {wv v : Value} {xs ys ys' zs : List AV} {i : Int} {p1 p2 p3 p4 p5 p6 p7 p8 p9 : Pos} {cc fa c' : Addr} {name qual : Str} {params : Arguments} {scope : Scope} {clos : List (Str × Addr)} {pm ctv : Value} (hm : Rm c true (k + 2) A H s) (hst : c.h0.StaysIn s.heap) (hL : Live H s.heap)
    (ho : s.heap.get? fa = some (kla_obj name qual params (lamE vn x p1 p2 p3 p4 p5 p6 p7 p8 p9) scope clos pm c' ctv)) (hcr : s.heap.CodeRec (.ref c') qual) (hbind : ∀ v, bindArgs (kla_fn name qual params (lamE vn x p1 p2 p3 p4 p5 p6 p7 p8 p9) scope clos pm (.ref c') ctv) ⟨[v], []⟩ = pure [(x, v)])
    (hk : scope.kind = .function) (hco : scope.isCoroutine = false) (hgen : scope.isGenerator = false) (hcell : ∀ y ∈ scope.names, y.2 ≠ .cell) (k1 : scope.names.lookup x = some .local) (k2 : scope.names.lookup vn = some .free) (hcl : clos.lookup vn = some cc) (hcc : s.heap.IsCell cc (some wv)) (hn : (vn == ("__classdict__" : Str)) = false) (hd : (vn == ("__debug__" : Str)) = false) (hd2 : (x == ("__debug__" : Str)) = false)
    (rw_ : Rep (vis s.heap H) wv (.lst xs)) (rv : Rep (vis s.heap H) v (.int i)) (h1 : O.slice (.lst xs) (.int i) .none .none = .ok (.lst ys)) (h2 : O.slice (.lst xs) .none (.int i) .none = .ok (.lst ys')) (h3 : O.bin .Add (.lst ys) (.lst ys') = .ok (.lst zs)) :
    Tr c true A H (call (.ref fa) [v]) (.ok (.lst zs)) s := fun Q E P => by
  refine wpAny_call (kla_callFunE (by have := hm.depth; omega) ho rfl hco hgen rfl hcr ?_)
  rw [hbind]
  refine wpAny_pure (wpAny_newFunctionEnv hcell (fun y hy => by rw [List.mem_singleton.mp hy]; exact k1) (fun h₁ hns hsb => ⟨(c.nolimit.keeps hst).fresh _ hsb, ?_⟩) hk)
  have hk₁ : ∀ b o, s.heap.get? b = some o → h₁.get? b = some o := fun b o e => hsb.extBut b o (Nat.ne_of_lt (Heap.lt_size e)) (Heap.get?_push_of_some _ e)
  have dead : s.heap.get? s.heap.objs.size = none := Heap.get?_none_of_le (Nat.le_refl _)
  generalize hEnv : newEnv scope s.heap.objs.size mainGlobals clos (qual ++ ".<locals>.") (some fa) (.ref c') none builtinsNs = lenv
  have eL : lenv.locals = s.heap.objs.size := by rw [← hEnv]; rfl
  have eS : lenv.scope = scope := by rw [← hEnv]; rfl
  have eC : lenv.cells = clos := by rw [← hEnv]; rfl
  have eF : lenv.frame = some lenv.locals := by rw [← hEnv]; rfl
  have eK : ∀ x, lenv.kindOf x = scope.names.lookup x := fun x => by show lenv.scope.names.lookup x = _; rw [eS]
  rw [← eL] at hns dead
  obtain ⟨l, hl, ff⟩ := hm.frames
  have h0L : c.h0.get? lenv.locals = none := by
    cases e : c.h0.get? lenv.locals with
    | none => rfl
    | some o' => have := hst _ _ e; rw [dead] at this; cases this
  have hA' : (A.deeper lenv).frames = some (lenv :: l) := by show A.frames.map (lenv :: ·) = _; rw [hl]; rfl
  have kh1 : Kh (FrA (A.deeper lenv)) s.heap h₁ := Kh.of_keeps hk₁
  have ff' : h₁.FunFrames c.h0 (lenv :: l) := by
    refine ⟨by rw [eS, hk]; decide, ?_, kh1.nh.frames ff⟩
    obtain ⟨oL, es, ep, e, d, _⟩ := hns
    exact ⟨lenv.locals, oL, eF, h0L, e, fun vs z => by rw [d] at z; cases z⟩
  have hm' : Rm c true (k + 1) (A.deeper lenv) H { s with heap := h₁, toks := s.toks + 1 } := ⟨by have := hm.depth; show A.depth + 1 + (k + 1) < _; omega, by have := hm.units; show A.units + 3 + 8 * (k + 1) < _; omega, fun h => hm.hand h, ⟨_, hA', ff'⟩, Nat.lt_succ_of_lt hm.tok, fun t i e => Nat.lt_succ_of_lt (hm.td t i e)⟩
  have hL' : Live H h₁ := fun b z => let ⟨o, e⟩ := hL b z; ⟨o, hk₁ b o e⟩
  have khv : Kh (fun _ => False) s.heap h₁ := Kh.of_keeps hk₁
  refine kla_codeExpr ?_
  refine lam_body OK (env := lenv) (m := fun y => [(x, v)].reverse.lookup y) hm' hL' (by rw [eS]; exact hk) (by rw [eK]; exact k1) (by rw [eK]; exact k2) (by rw [eC]; exact hcl) (khv.cell hcc) hns (by simp) hn hd hd2 (rw_.mono khv.vis) (rv.mono khv.vis) h1 h2 h3 _ _ fun w s' H' kt r => ?_
  obtain ⟨⟨h₂, tk₂, rfl, hle, kh⟩, e, te, td⟩ := kt
  have frs : ∀ b o, s.heap.get? b = some o → FrA (A.deeper lenv) b → FrA A b := fun b o e ⟨l', e1, e2⟩ => by
    rw [hA'] at e1; cases e1
    rw [List.filterMap_cons, eF] at e2
    rcases List.mem_cons.mp e2 with e2 | e2
    · rw [e2, dead] at e; cases e
    · exact ⟨l, hl, e2⟩
  refine P w _ H' ⟨⟨h₂, tk₂, rfl, Nat.le_trans (Nat.le_succ _) hle, (kh1.trans kh).weaken frs⟩, e, te, fun z => td (z.le (Nat.le_succ _))⟩ r
end
end Mine
end
section
open PySem PySem.W PyProof.Rows
namespace Mine
set_option linter.unusedVariables false
/- the sort of up to 63 things by keys that are all unlike, as a tree of questions -/
noncomputable def KOk {α : Type} (N : Nat) (b : Nat → Nat → Bool) : KasT α → (α → Prop) → Prop
  | .ret a, Q => Q a
  | .ask i j k, Q => i < N ∧ j < N ∧ KOk N b (k (b i j)) Q
theorem KOk.mono {α : Type} {N : Nat} {b : Nat → Nat → Bool} {Q Q' : α → Prop} (h : ∀ a, Q a → Q' a) : ∀ {t : KasT α}, KOk N b t Q → KOk N b t Q'
  | .ret a, x => h a x
  | .ask _ _ _, ⟨x, y, z⟩ => ⟨x, y, KOk.mono h z⟩
theorem KOk.bind {α β : Type} {N : Nat} {b : Nat → Nat → Bool} {f : α → KasT β} {Q : β → Prop} : ∀ {t : KasT α}, KOk N b t (fun a => KOk N b (f a) Q) → KOk N b (t.bind f) Q
  | .ret _, x => x
  | .ask _ _ _, ⟨x, y, z⟩ => ⟨x, y, KOk.bind z⟩
theorem KOk.wp {α : Type} {N : Nat} {b : Nat → Nat → Bool} {cmp : Nat → Nat → (Bool → Shared → Prop) → Shared → Prop} {s : Shared} (hc : ∀ i j C, i < N → j < N → C (b i j) s → cmp i j C s) {Q : α → Prop} {Q' : α → Shared → Prop} (hq : ∀ a, Q a → Q' a s) : ∀ {t : KasT α}, KOk N b t Q → t.kasWp cmp Q' s
  | .ret a, x => hq a x
  | .ask i j k, ⟨x, y, z⟩ => hc i j _ x y (KOk.wp hc hq z)

section
variable (O : KeyOrd) (key : Nat → O.α) (N : Nat)
noncomputable def kAt (p : Array Nat) (i : Nat) : O.α := key ((p[i]?).getD 0)
abbrev kB (i j : Nat) : Bool := O.blt (key i) (key j)
noncomputable def SrtK (p : Array Nat) (k : Nat) : Prop := ∀ i j, i ≤ j → j < k → O.kle (kAt O key p i) (kAt O key p j)
noncomputable def NonK (p : Array Nat) (k : Nat) : Prop := ∀ i j, i ≤ j → j < k → O.kle (kAt O key p j) (kAt O key p i)
variable {O key N}
variable {p : Array Nat}
theorem getD_some (p : Array Nat) (i : Nat) : p.getD i 0 = (p[i]?).getD 0 := by simp [Array.getD]; split <;> simp_all
theorem kAt_congr {p q : Array Nat} {i j : Nat} (h : p[i]? = q[j]?) : kAt O key p i = kAt O key q j := by unfold kAt; rw [h]
theorem perm_size (hp : p.Perm (List.toArray (List.range N))) : p.size = N := by rw [hp.size_eq]; simp
theorem perm_lt (hp : p.Perm (List.toArray (List.range N))) {i : Nat} (h : i < N) : p.getD i 0 < N := by
  have hs := perm_size hp
  have e : p.getD i 0 = p[i]'(by omega) := by simp [Array.getD, hs, h]
  rw [e]
  have : p[i]'(by omega) ∈ p.toList := by simp
  exact List.mem_range.mp ((Array.perm_iff_toList_perm.mp hp).mem_iff.mp this)
theorem perm_ne (hp : p.Perm (List.toArray (List.range N))) (inj : ∀ i j, i < N → j < N → key i = key j → i = j) {i j : Nat} (hi : i < N) (hj : j < N) (h : kAt O key p i = kAt O key p j) : i = j := by
  have hs := perm_size hp
  unfold kAt at h
  rw [← getD_some, ← getD_some] at h
  have h2 := inj _ _ (perm_lt hp hi) (perm_lt hp hj) h
  have e : ∀ k, (hk : k < N) → p.getD k 0 = p.toList[k]'(by simp; omega) := fun k hk => by simp [Array.getD, hs, hk]
  rw [e i hi, e j hj] at h2
  have nd : p.toList.Nodup := (Array.perm_iff_toList_perm.mp hp).nodup_iff.mpr List.nodup_range
  exact (List.getElem_inj nd).mp h2
/-- one question -/
theorem kask_ok {α : Type} {Q : α → Prop} {k : Bool → KasT α} (hp : p.Perm (List.toArray (List.range N))) {i j : Nat} (hi : i < N) (hj : j < N)
    (h1 : O.klt (kAt O key p i) (kAt O key p j) → KOk N (kB O key) (k true) Q) (h0 : O.kle (kAt O key p j) (kAt O key p i) → KOk N (kB O key) (k false) Q) : KOk N (kB O key) (.ask (p.getD i 0) (p.getD j 0) k) Q := by
  refine ⟨perm_lt hp hi, perm_lt hp hj, ?_⟩
  have e : kB O key (p.getD i 0) (p.getD j 0) = O.blt (kAt O key p i) (kAt O key p j) := by unfold kAt; rw [← getD_some, ← getD_some]
  rw [e]
  cases h : O.blt (kAt O key p i) (kAt O key p j) with
  | true => exact h1 h
  | false => exact h0 h
theorem kasc_ok (hp : p.Perm (List.toArray (List.range N))) : ∀ (f n : Nat), 1 ≤ n → n + f ≤ N → SrtK O key p n →
    KOk N (kB O key) (kas_asc p f n) fun m => n ≤ m ∧ m ≤ n + f ∧ SrtK O key p m ∧ (m = n + f ∨ O.klt (kAt O key p m) (kAt O key p (m - 1)))
  | 0, n, h1, h2, hs => ⟨Nat.le_refl _, Nat.le_refl _, hs, .inl rfl⟩
  | f + 1, n, h1, h2, hs => by
    refine kask_ok hp (by omega) (by omega) (fun h => ?_) fun h => ?_
    · exact ⟨Nat.le_refl _, by omega, hs, .inr h⟩
    · refine (kasc_ok hp f (n + 1) (by omega) (by omega) fun i j hij hj => ?_).mono fun m ⟨a, b, c, d⟩ => ⟨by omega, by omega, c, d.imp (fun z => by omega) id⟩
      by_cases hjn : j < n
      · exact hs i j hij hjn
      · obtain rfl : j = n := by omega
        by_cases hi : i = j
        · subst hi; exact KeyOrd.kle_refl _
        · exact KeyOrd.kle_trans (hs i (j - 1) (by omega) (by omega)) h
theorem kdesc_ok (hp : p.Perm (List.toArray (List.range N))) (inj : ∀ i j, i < N → j < N → key i = key j → i = j) : ∀ (f n : Nat), 1 ≤ n → n + f ≤ N → NonK O key p n →
    KOk N (kB O key) (kas_desc f p n 0) fun r => r.1 = p ∧ r.2.2 = 0 ∧ n ≤ r.2.1 ∧ r.2.1 ≤ n + f ∧ NonK O key p r.2.1
  | 0, n, h1, h2, hs => ⟨rfl, rfl, Nat.le_refl _, Nat.le_refl _, hs⟩
  | f + 1, n, h1, h2, hs => by
    refine kask_ok hp (by omega) (by omega) (fun h => ?_) fun h => ?_
    · show KOk N (kB O key) (kas_desc f p (n + 1) 0) _
      refine (kdesc_ok hp inj f (n + 1) (by omega) (by omega) fun i j hij hj => ?_).mono fun m ⟨a, b, c, d, e⟩ => ⟨a, b, by omega, by omega, e⟩
      by_cases hjn : j < n
      · exact hs i j hij hjn
      · obtain rfl : j = n := by omega
        by_cases hi : i = j
        · subst hi; exact KeyOrd.kle_refl _
        · exact KeyOrd.kle_trans (KeyOrd.kle_of_klt h) (hs i (j - 1) (by omega) (by omega))
    · refine kask_ok hp (by omega) (by omega) (fun _ => ⟨rfl, rfl, Nat.le_refl _, (show n ≤ n + (f + 1) by omega), hs⟩) fun h' => ?_
      have := perm_ne hp inj (by omega) (by omega) (KeyOrd.kle_antisymm h h')
      omega
noncomputable def CntOk (O : KeyOrd) (key : Nat → O.α) (N : Nat) (r : Nat × Array Nat) : Prop := r.2.Perm (List.toArray (List.range N)) ∧ 1 ≤ r.1 ∧ r.1 ≤ N ∧ SrtK O key r.2 r.1
theorem rev_perm (hp : p.Perm (List.toArray (List.range N))) (i j : Nat) : (kas_rev p i j).Perm (List.toArray (List.range N)) := (mirror_perm _ _ _ _).trans hp
theorem tail3_ok (hp : p.Perm (List.toArray (List.range N))) {n : Nat} (h1 : 1 ≤ n) (h2 : n ≤ N) (hs : NonK O key p n) : KOk N (kB O key) (kas_tail3 n N p) (CntOk O key N) := by
  have hsz := perm_size hp
  have hp2 := rev_perm hp 0 n
  refine KOk.bind ((kasc_ok hp2 (N - n) n h1 (by omega) fun i j hij hj => ?_).mono fun m ⟨a, b, c, _⟩ => ⟨hp2, by omega, by show m ≤ N; omega, c⟩)
  have e : ∀ k, k < n → kAt O key (kas_rev p 0 n) k = kAt O key p (n - 1 - k) := fun k hk => kAt_congr (by
    unfold kas_rev
    rw [getElem?_mirror_all (by omega), if_pos (by omega), Nat.zero_add])
  rw [e i (by omega), e j hj]
  exact hs _ _ (by omega) (by omega)
theorem descPart_ok (hp : p.Perm (List.toArray (List.range N))) (inj : ∀ i j, i < N → j < N → key i = key j → i = j) {n : Nat} (h2 : n + 1 ≤ N) (hs : NonK O key p (n + 1)) : KOk N (kB O key) (kas_descPart n N p) (CntOk O key N) := by
  refine KOk.bind ((kdesc_ok hp inj (N - (n + 1)) (n + 1) (by omega) (by omega) hs).mono fun r ⟨a, b, c, d, e⟩ => ?_)
  rw [a, b]
  exact tail3_ok hp (by omega) (by omega) e
theorem kcount_ok (hp : p.Perm (List.toArray (List.range N))) (inj : ∀ i j, i < N → j < N → key i = key j → i = j) (h1 : 1 ≤ N) : KOk N (kB O key) (kas_count N p) (CntOk O key N) := by
  refine KOk.bind ((kasc_ok hp (N - 1) 1 (Nat.le_refl _) (by omega) fun i j hij hj => ?_).mono fun n ⟨a, b, c, d⟩ => ?_)
  · obtain rfl : i = j := by omega
    exact KeyOrd.kle_refl _
  · by_cases hn : n = N
    · rw [if_pos (by simpa using hn)]
      exact ⟨hp, a, by show n ≤ N; omega, c⟩
    · rw [if_neg (by simpa using hn)]
      have hlt : O.klt (kAt O key p n) (kAt O key p (n - 1)) := d.resolve_left (by omega)
      by_cases hg : n > 1
      · rw [if_pos hg]
        refine kask_ok hp (by omega) (by omega) (fun _ => ⟨hp, a, by show n ≤ N; omega, c⟩) fun h => ?_
        have := perm_ne hp inj (by omega) (by omega) (KeyOrd.kle_antisymm h (c 0 (n - 1) (by omega) (by omega)))
        omega
      · rw [if_neg hg]
        obtain rfl : n = 1 := by omega
        refine descPart_ok hp inj (by omega) fun i j hij hj => ?_
        by_cases hi : i = j
        · subst hi; exact KeyOrd.kle_refl _
        · obtain rfl : i = 0 := by omega
          obtain rfl : j = 1 := by omega
          exact KeyOrd.kle_of_klt hlt
theorem kplace_ok (hp : p.Perm (List.toArray (List.range N))) {k : Nat} (hk : k < N) (hs : SrtK O key p k) : ∀ (f l r : Nat), l ≤ r → r ≤ k → r - l ≤ f →
    (∀ i, i < l → O.kle (kAt O key p i) (kAt O key p k)) → (∀ i, r ≤ i → i < k → O.klt (kAt O key p k) (kAt O key p i)) →
    KOk N (kB O key) (kas_place p k f l r) fun m => m ≤ k ∧ (∀ i, i < m → O.kle (kAt O key p i) (kAt O key p k)) ∧ (∀ i, m ≤ i → i < k → O.klt (kAt O key p k) (kAt O key p i))
  | 0, l, r, h1, h2, h3, lo, hi => by
    obtain rfl : l = r := by omega
    exact ⟨h2, lo, hi⟩
  | f + 1, l, r, h1, h2, h3, lo, hi => by
    unfold kas_place
    by_cases hlr : l ≥ r
    · rw [if_pos hlr]
      obtain rfl : l = r := by omega
      exact ⟨h2, lo, hi⟩
    · rw [if_neg hlr]
      refine kask_ok hp hk (by omega) (fun h => ?_) fun h => ?_
      · exact kplace_ok hp hk hs f l ((l + r) / 2) (by omega) (by omega) (by omega) lo fun i a b => KeyOrd.klt_of_klt_of_kle h (hs _ _ a b)
      · exact kplace_ok hp hk hs f ((l + r) / 2 + 1) r (by omega) (by omega) (by omega) (fun i a => KeyOrd.kle_trans (hs i ((l + r) / 2) (by omega) (by omega)) h) hi
theorem kbin_ok : ∀ (f k : Nat) (p : Array Nat), p.Perm (List.toArray (List.range N)) → k + f = N → SrtK O key p k →
    KOk N (kB O key) (kas_bin f p k) fun q => q.Perm (List.toArray (List.range N)) ∧ SrtK O key q N
  | 0, k, p, hp, hk, hs => ⟨hp, by rw [← hk]; exact hs⟩
  | f + 1, k, p, hp, hk, hs => by
    have hsz := perm_size hp
    refine KOk.bind ((kplace_ok hp (by omega) hs k 0 k (by omega) (Nat.le_refl _) (by omega) (fun i h => by omega) fun i a b => by omega).mono fun l ⟨hl, lo, hi⟩ => ?_)
    refine kbin_ok f (k + 1) _ ((bubble_perm _ _ _).trans hp) (by omega) fun i j hij hj => ?_
    have e : ∀ x, kAt O key (bubble p k (k - l)) x = if x = l then kAt O key p k else if l < x ∧ x ≤ k then kAt O key p (x - 1) else kAt O key p x := fun x => by
      have g := getElem?_bubble (xs := p) (src := k) (by omega) (k - l) (by omega) x
      rw [show k - (k - l) = l by omega] at g
      by_cases h1 : x = l
      · rw [if_pos h1] at g ⊢; exact kAt_congr g
      · rw [if_neg h1] at g ⊢
        by_cases h2 : l < x ∧ x ≤ k
        · rw [if_pos h2] at g ⊢; exact kAt_congr g
        · rw [if_neg h2] at g ⊢; exact kAt_congr g
    rw [e, e]
    repeat' split
    all_goals first
      | (exfalso; omega)
      | exact KeyOrd.kle_refl _
      | exact lo _ (by omega)
      | exact KeyOrd.kle_of_klt (hi _ (by omega) (by omega))
      | exact hs _ _ (by omega) (by omega)
theorem sort_ok (inj : ∀ i j, i < N → j < N → key i = key j → i = j) (h1 : 1 ≤ N) : KOk N (kB O key) (kas_sort N) fun q => q.Perm (List.toArray (List.range N)) ∧ SrtK O key q N := by
  refine KOk.bind ((kcount_ok (Array.Perm.refl _) inj h1).mono fun r ⟨a, b, c, d⟩ => ?_)
  by_cases h : r.1 < N
  · rw [if_pos h, show max r.1 1 = r.1 by omega]
    exact kbin_ok _ _ _ a (by omega) d
  · rw [if_neg h]
    obtain e : r.1 = N := by omega
    exact ⟨a, by rw [← e]; exact d⟩
end
end Mine
end
section
open PySem PySem.W PyProof.Rows
namespace Mine
set_option linter.unusedVariables false
set_option maxRecDepth 100000
/- keys that are lists of ints -/
noncomputable def ltI (a b : List Int) : Bool := lexI a b == .lt
theorem lexI_lt : ∀ (a b : List Int), ordB .Lt (lexI a b) = ltI a b := fun a b => by
  unfold ltI; cases lexI a b <;> rfl
theorem lexI_refl : ∀ a : List Int, lexI a a = .eq
  | [] => rfl
  | x :: a => by rw [lexI_step (beq_self_eq_true x)]; exact lexI_refl a
/-- the order as words -/
theorem ltI_cons {x y : Int} {a b : List Int} : ltI (x :: a) (y :: b) = (decide (x < y) || (x == y && ltI a b)) := by
  unfold ltI
  cases hb : x == y with
  | true => rw [lexI_step hb, eq_of_beq hb]; simp
  | false =>
    rw [lexI_ne hb]
    by_cases h : x < y
    · rw [if_pos h]; simp [h]
    · rw [if_neg h]; simp [h]
theorem ltI_nil (b : List Int) : ltI [] b = !b.isEmpty := by cases b <;> rfl
theorem ltI_nil' (a : List Int) : ltI a [] = false := by cases a <;> rfl
theorem ltI_irrefl (a : List Int) : ltI a a = false := by unfold ltI; rw [lexI_refl]; rfl
theorem ltI_trans : ∀ a b c : List Int, ltI a b = true → ltI b c = true → ltI a c = true
  | _, _, [], _, h => by rw [ltI_nil'] at h; cases h
  | _, [], _ :: _, h, _ => by rw [ltI_nil'] at h; cases h
  | [], _ :: _, _ :: _, _, _ => rfl
  | x :: a, y :: b, z :: c, h1, h2 => by
    rw [ltI_cons] at *
    simp only [Bool.or_eq_true, decide_eq_true_eq, Bool.and_eq_true, beq_iff_eq] at *
    rcases h1 with h1 | ⟨rfl, h1⟩ <;> rcases h2 with h2 | ⟨rfl, h2⟩
    · exact .inl (Int.lt_trans h1 h2)
    · exact .inl h1
    · exact .inl h2
    · exact .inr ⟨rfl, ltI_trans a b c h1 h2⟩
theorem ltI_neg : ∀ a b c : List Int, ltI a c = true → ltI a b = true ∨ ltI b c = true
  | _, _, [], h => by rw [ltI_nil'] at h; cases h
  | [], [], _ :: _, _ => .inr rfl
  | [], _ :: _, _ :: _, _ => .inl rfl
  | _ :: _, [], _ :: _, _ => .inr rfl
  | x :: a, y :: b, z :: c, h => by
    rw [ltI_cons] at *
    rw [ltI_cons]
    simp only [Bool.or_eq_true, decide_eq_true_eq, Bool.and_eq_true, beq_iff_eq] at *
    rcases Int.lt_trichotomy x y with q | rfl | q
    · exact .inl (.inl q)
    · rcases h with h | ⟨rfl, h⟩
      · exact .inr (.inl h)
      · exact (ltI_neg a b c h).imp (fun z => .inr ⟨rfl, z⟩) fun z => .inr ⟨rfl, z⟩
    · rcases h with h | ⟨rfl, h⟩
      · exact .inr (.inl (by omega))
      · exact .inr (.inl q)
theorem ltI_total : ∀ a b : List Int, ltI a b = false → ltI b a = false → a = b
  | [], [], _, _ => rfl
  | [], _ :: _, h, _ => by rw [ltI_nil] at h; cases h
  | _ :: _, [], _, h => by rw [ltI_nil] at h; cases h
  | x :: a, y :: b, h1, h2 => by
    rw [ltI_cons] at *
    simp only [Bool.or_eq_false_iff, decide_eq_false_iff_not, Bool.and_eq_false_iff] at *
    obtain rfl : x = y := by omega
    simp only [beq_self_eq_true, Bool.true_eq_false, false_or] at *
    rw [ltI_total a b h1.2 h2.2]
noncomputable def ordIs : KeyOrd := ⟨List Int, ltI, ltI_irrefl, ltI_trans, ltI_neg, ltI_total⟩
section
variable {prog : Program} {w : World} {A : Around} {E : Value → Shared → Prop} {s : Shared}
theorem ask_lists {x y : Addr} {vs ws : List Value} {ns ms : List Int} (hu : A.units + 1 < cLine) (hx : IsL s.heap x vs) (hy : IsL s.heap y ws) (hi : IntsAre vs ns) (hj : IntsAre ws ms) {Q : Bool → Shared → Prop} (h : Q (ltI ns ms) s) :
    wpAny (model prog w) A (keyLt' oneType' (.ref x) (.ref y)) Q E s := by
  obtain ⟨⟨cls, dd, data, sl⟩, n, ho, hc, hd, _⟩ := hx
  obtain ⟨⟨cls2, dd2, data2, sl2⟩, n2, ho2, hc2, hd2, _⟩ := hy
  simp only at hc hd hc2 hd2
  subst hc hd hc2 hd2
  rw [keyLt'_oneType, oneLt'_eq]
  simp only [if_true]
  refine wpAny_bind (wpAny_cRoomFor (by omega) ?_)
  refine wpAny_bind (wpAny_callSpecialIfBound?_slot ⟨_, ho, rfl⟩ F.slot_list_lt (call_meets F.slot_list_lt ⟨_, ho, rfl⟩ F.entry_list_lt (F.args_list_lt_2 _ _) (list_lt x y vs ws ns ms n n2 dd dd2 sl sl2 hi hj) ⟨ho, ho2, ?_⟩))
  rw [lexI_lt]
  show wpAny (model prog w) A (truthOfDropped (.bool (ltI ns ms))) Q E s
  exact wpAny_truthy_bool h
end
end Mine
end
section
open PySem PySem.W PyProof.Rows PySem.Calls PySem.MeetsSeq
namespace Mine
set_option maxRecDepth 100000
set_option linter.unusedVariables false
set_option linter.unusedSectionVars false
section
variable {prog : Program} {w : World} {A : Around} {E : Value → Shared → Prop} {s : Shared} {R : Result → Shared → Prop}
/-- a range's ints, drawn -/
theorem collectR {r : Addr} {a b st : Int} {t u v : Tok} {n : Nat} {Q : List Value → Shared → Prop} (hh : A.handled = none) (hr : IsRange s.heap r a b st t u v) (hsmall : Builtin.Range.small a b st = true) (hn : Builtin.Range.rangeSize a b st = n) (hlen : n ≤ 1048576)
    (hQ : ∀ h' t₀, s.toks ≤ t₀ → (∀ b o, s.heap.get? b = some o → h'.get? b = some o) → Q (accR a st t₀ n) { s with heap := h', toks := t₀ + n }) :
    wpAny (model prog w) A (collect (.ref r)) Q E s := by
  unfold collect
  refine wpAny_bind (wpAny_runValue (codeAny_builtin F.entry_proto_collect ?_))
  rw [Around.under_plainId F.plain_proto_collect _]
  show wpAny _ A.in1 (newList [] >>= fun l => again (.builtin "list.__iadd__" ⟨[l, .ref r], []⟩)) _ _ s
  refine wpAny_bind (wpAny_newObj_type ?_)
  refine wpAny_pure ⟨plainId_quiet F.plain_list_iadd _, codeAny_builtin F.entry_list_iadd ?_⟩
  rw [Around.under_plainId F.plain_list_iadd _]
  generalize hSs : s.heap.objs.size = S
  show wpAny _ A.in1 (Builtin.List.listExtendWith (.ref S) (.ref r) (.ref S)) _ _ _
  have hS : (s.heap.push { cls := .type "list", data := .seq ([] : List Value).toArray }).get? S = some { cls := .type "list", data := .seq #[] } := by rw [← hSs]; exact Heap.get?_push_size _ rfl
  have hSr : S ≠ r := fun e => by
    have := Heap.lt_size hr
    rw [hSs, e] at this; exact Nat.lt_irrefl _ this
  have old : ∀ b o, s.heap.get? b = some o → (s.heap.push { cls := .type "list", data := .seq ([] : List Value).toArray }).get? b = some o := fun b o e => Heap.get?_push_of_some _ e
  have hr₂ : IsRange (s.heap.push { cls := .type "list", data := .seq ([] : List Value).toArray }) r a b st t u v := Heap.get?_push_of_some _ hr
  have hne : ∀ b o, s.heap.get? b = some o → b ≠ S := fun b o e z => by have := Heap.lt_size e; rw [hSs, z] at this; exact Nat.lt_irrefl _ this
  generalize hH2 : s.heap.push { cls := .type "list", data := .seq ([] : List Value).toArray } = H2 at hS hr₂ old ⊢
  have hSI : S ≠ H2.objs.size := Nat.ne_of_lt (Heap.lt_size hS)
  unfold Builtin.List.listExtendWith
  refine wpAny_bind (wpAny_typeOf (T := "range") ⟨_, hr₂, rfl⟩ ?_)
  have g1 : Builtin.List.listSameRef (.ref S) (.ref r) = false := by simp [Builtin.List.listSameRef, hSr]
  have g2 : (Value.type "range" == Value.type "list") = false := by decide
  have g3 : (Value.type "range" == Value.type "tuple") = false := by decide
  simp only [g1, g2, g3, Bool.or_false, Bool.false_eq_true, if_false]
  refine wpAny_bind (wpAny_pyIter_range hr₂ hsmall ?_)
  refine wpAny_bind (wpAny_holding (wpAny_hint_range (n := n) (Heap.get?_push_of_some _ hr₂) hn (by omega) ?_))
  have hit₁ : IsRangeIter (H2.push { cls := .type "range_iterator", data := .fields #[rawInt a, rawInt (Builtin.Range.rangeSize a b st), rawInt st] }) H2.objs.size (a + ((0 : Nat) : Int) * st) ((n : Int) - ((0 : Nat) : Int)) st := by
    show IsRangeIter _ _ _ _ _; rw [hn]; simpa using Heap.get?_push_size _ rfl
  have hS₁ := Heap.get?_push_of_some { cls := .type "range_iterator", data := .fields #[rawInt a, rawInt (Builtin.Range.rangeSize a b st), rawInt st] } hS
  have key : ∀ (R : Result → Shared → Prop) (h : Heap) (c₁ tk : Nat), s.toks ≤ tk → IsRangeIter h H2.objs.size (a + ((0 : Nat) : Int) * st) ((n : Int) - ((0 : Nat) : Int)) st → (∀ b o, b ≠ S → H2.get? b = some o → h.get? b = some o) →
      h.get? S = some { cls := .type "list", data := .seq #[] c₁ } → (∀ h' t₀ c', s.toks ≤ t₀ → (∀ b o, s.heap.get? b = some o → h'.get? b = some o) → h'.get? S = some { cls := .type "list", dict := none, data := .seq (accR a st t₀ n).toArray c', slots := #[] } → R (.ok (.ret (.ref S))) { s with heap := h', toks := t₀ + n }) → codeAny (model prog w) A (.builtin "list.extend.loop" ⟨[.ref S, .ref H2.objs.size, .ref S], []⟩) R { s with heap := h, toks := tk } := by
    intro R h c₁ tk hle hit hk hS₁ hR
    refine fillR (A := A) (t₀ := tk) hh hSI hlen (.ref S) n 0 h c₁ rfl (Nat.zero_le _) hit hS₁ fun h' c' hk' hS' => ?_
    refine hR h' tk c' hle (fun b o e => ?_) hS'
    have hb2 : b ≠ H2.objs.size := Nat.ne_of_lt (Heap.lt_size (old b o e))
    exact hk' b o (hne b o e) hb2 (hk b o (hne b o e) (old b o e))
  have quiet := plainId_quiet F.plain_extend_loop
  have fin : ∀ h' t₀ c', s.toks ≤ t₀ → (∀ b o, s.heap.get? b = some o → h'.get? b = some o) → h'.get? S = some { cls := .type "list", dict := none, data := .seq (accR a st t₀ n).toArray c', slots := #[] } → wpAny (model prog w) A (load S >>= fun o => match o.data with
          | Data.seq xs _ => pure xs.toList
          | _ => unsupported "internal:collect") Q E { s with heap := h', toks := t₀ + n } := fun h' t₀ c' hle hk hS' => wpAny_bind (wpAny_load hS' (wpAny_pure (hQ h' t₀ hle hk)))
  refine wpAny_ite_split (fun _ => ?_) (fun _ => wpAny_pure ⟨quiet _, key _ _ _ _ (by show s.toks ≤ s.toks + 1 + 1; omega) hit₁ (fun b o _ e => Heap.get?_push_of_some _ e) hS₁ fin⟩)
  refine wpAny_bind (wpAny_rule ?_)
  refine wpAny_bind ?_
  show wpAny _ _ (updateSeq S (·.push .none) >>= fun _ => updateSeq S (·.pop)) _ _ _
  refine wpAny_bind (wpAny_updateSeq hS₁ rfl ?_)
  have hS₃ := Heap.get?_update_self (Obj.mapSeq (·.push Value.none)) hS₁ rfl
  refine wpAny_updateSeq (hz := by seq_fits) hS₃ rfl ?_
  have hS₄ := Heap.get?_update_self (Obj.mapSeq (·.pop)) hS₃ rfl
  refine wpAny_pure ⟨quiet _, key _ _ _ _ (by show s.toks ≤ s.toks + 1 + 1; omega) ?_ (fun b o hb e => ?_) hS₄ fin⟩
  · exact (Heap.get?_update_other _ _ hSI).trans ((Heap.get?_update_other _ _ hSI).trans hit₁)
  · exact (Heap.get?_update_other _ _ (Ne.symm hb)).trans ((Heap.get?_update_other _ _ (Ne.symm hb)).trans (Heap.get?_push_of_some _ e))
end
/- the sort with a key -/
theorem ints_of {R : Vw} : ∀ {ns : List Int} {vs : List Value}, RepL R vs (ns.map .int) → IntsAre vs ns
  | [], [], _ => .nil
  | [], _ :: _, r => by simp [RepL] at r
  | _ :: _, [], r => by simp [RepL] at r
  | n :: ns, v :: vs, r => by
    simp only [List.map_cons, RepL] at r
    obtain ⟨⟨t, rfl, _⟩, r2⟩ := r
    exact .cons n t (ints_of r2)
theorem key_lst {h : Heap} {H : Hd} {v : Value} {k : List Int} (r : Rep (vis h H) v (.lst (k.map .int))) : ∃ a vs, v = .ref a ∧ IsL h a vs ∧ IntsAre vs k := by
  simp only [Rep] at r
  obtain ⟨z, a, vs, n, e, ⟨_, o, q, kc, d, f, _⟩, l⟩ := r
  exact ⟨a, vs, e, ⟨o, n, q, kc, d, f⟩, ints_of l⟩
section
variable {prog : Program} {w : World} {A : Around} {E : Value → Shared → Prop} {s : Shared}
/-- the sort itself: nothing turns -/
theorem runs_lists {N : Nat} {key : Nat → List Int} {ks vs : List Value} {Q : SortSt → Shared → Prop} (hu : A.units + 1 < cLine) (hks : ks.length = N) (hvs : vs.length = N) (hk : ∀ i v, ks[i]? = some v → ∃ a xs, v = .ref a ∧ IsL s.heap a xs ∧ IntsAre xs (key i))
    (inj : ∀ i j, i < N → j < N → key i = key j → i = j) (h2 : 2 ≤ N) (h64 : N < 64)
    (h : ∀ q st, q.Perm (List.toArray (List.range N)) → SrtK ordIs key q N → arrOf st = q.map (kas_item (ks.toArray.zip vs.toArray)) → failedOf st = none → Q st s) :
    wpAny (model prog w) A ((sortRuns').run (SortSt.mk' oneType' (ks.toArray.zip vs.toArray) #[] 7 none)) (fun r s' => Q r.2 s') E s := by
  refine kat_run (G := fun p s' => s' = s ∧ p.Perm (List.toArray (List.range N)) ∧ SrtK ordIs key p N) (by omega) (by omega) (by omega) (fun p st' s' _ a1 a2 ⟨e, g1, g2⟩ => by subst e; exact h p st' g1 g2 a1 a2) ?_
  rw [hvs]
  refine KOk.wp (b := kB ordIs key) (N := N) (fun i j C hi hj hC => ?_) (fun a x => ⟨rfl, x.1, x.2⟩) (sort_ok (O := ordIs) inj (by omega))
  obtain ⟨vi, ei⟩ : ∃ v, ks[i]? = some v := ⟨_, List.getElem?_eq_getElem (by omega)⟩
  obtain ⟨vj, ej⟩ : ∃ v, ks[j]? = some v := ⟨_, List.getElem?_eq_getElem (by omega)⟩
  obtain ⟨a, xs, rfl, l1, l2⟩ := hk i vi ei
  obtain ⟨b, ys, rfl, l3, l4⟩ := hk j vj ej
  unfold kas_ask
  rw [List.getD_eq_getElem?_getD, List.getD_eq_getElem?_getD, ei, ej]
  exact ask_lists hu l1 l3 l2 l4 hC
theorem kind_lists {ks : List Value} {Q : SortKind → Shared → Prop} (h2 : 2 ≤ ks.length) (hk : ∀ v ∈ ks, ∃ a xs, v = .ref a ∧ IsL s.heap a xs) (h : Q oneType' s) : wpAny (model prog w) A (keyKind' ks.toArray) Q E s := by
  refine kas_kind (T := .type "list") h2 (fun v hv => ?_) (by decide) (by decide) h
  obtain ⟨a, xs, rfl, o, n, e, hc, _⟩ := hk v hv
  rw [← hc]
  exact (show Looks (model prog w) s.heap (typeOf (.ref a)) o.cls from (Looks.ld e).andThen .now)
end
section
variable {c : Cx} {A : Around} {E : Value → Shared → Prop} {s : Shared} {F : Addr → Prop} {hb : Heap} {H : Hd} {t1 : Nat} {L kS : Addr} {vs : List Value} {key : Nat → List Int} {e1 : Nat}
/-- how the sort's ground stands: what was there stays, the marks rise -/
structure Gd (F : Addr → Prop) (hb : Heap) (t1 : Nat) (H : Hd) (s : Shared) (T : Tok → Option Int) : Prop where
  kh : Kh F hb s.heap
  tk : t1 ≤ s.toks
  te : ∀ n i, H.t n = some i → T n = some i
  td : Td (H.wt T) s
theorem Gd.upd {T : Tok → Option Int} {h' : Heap} {a : Addr} (g : Gd F hb t1 H s T) (ha : hb.get? a = none) (hs : Heap.SameBut a s.heap h') : Gd F hb t1 H { s with heap := h' } T where
  kh := fun b o e => by
    have hba : b ≠ a := fun z => by rw [z, ha] at e; cases e
    obtain ⟨p, sl, q⟩ := g.kh b o e
    exact ⟨fun f => (hs.2 b hba).trans (p f), sl, (hs.2 b hba).trans q⟩
  tk := g.tk
  te := g.te
  td := g.td
theorem Gd.push {T : Tok → Option Int} {o : Obj} (g : Gd F hb t1 H s T) : Gd F hb t1 H { s with heap := s.heap.push o } T :=
  ⟨g.kh.trans (Kh.of_keeps fun b o' e => Heap.get?_push_of_some _ e), g.tk, g.te, g.td⟩
/-- the end of the sort -/
theorem sort_tail {st : SortSt} {keys : Array Value} {e : Nat} {T : Tok → Option Int} {P : PySem.Fin → Shared → Prop} {out : List Value} (g : Gd F hb t1 H s T) (hkS : hb.get? kS = none) (hL : hb.get? L = none) (hne : kS ≠ L) (ek : s.heap.get? kS = some (seqObj "list" keys e)) (eL : s.heap.get? L = some (seqObj "list" #[] e1)) (hkz : keys.size ≤ sizeLine) (hf : failedOf st = none) (ho : (arrOf st).map (·.2) = out.toArray) (hoz : out.length ≤ sizeLine)
    (h : ∀ h' c', Gd F hb t1 H { s with heap := h' } T → h'.get? L = some (seqObj "list" out.toArray c') → P (.done (.ret .none)) { s with heap := h' }) :
    wpAny c.M A (ksk_tail L false e1 (.ref kS) st) P E s := by
  have s1 := Heap.SameBut.update s.heap kS (Obj.mapSeq fun _ => (#[] : Array Value))
  have eL1 : (s.heap.update kS (Obj.mapSeq fun _ => (#[] : Array Value))).get? L = some (seqObj "list" #[] e1) := (s1.2 L hne.symm).trans eL
  have s2 := Heap.SameBut.update (s.heap.update kS (Obj.mapSeq fun _ => (#[] : Array Value))) L (Obj.mapSeq fun _ => out.toArray)
  obtain ⟨c2, hc2⟩ : ∃ c2, ((s.heap.update kS (Obj.mapSeq fun _ => (#[] : Array Value))).update L (Obj.mapSeq fun _ => out.toArray)).get? L = some (seqObj "list" out.toArray c2) := ⟨_, get?_update_seq eL1 fun _ => out.toArray⟩
  unfold ksk_tail
  dsimp only
  rw [ho]
  refine wpAny_bind (listUpdate_at ek rfl ?_ hkz (Nat.zero_le _))
  refine wpAny_bind (wpAny_letGo ?_)
  refine wpAny_bind (seqEpoch_at eL1 rfl ?_)
  refine wpAny_bind (listUpdate_at eL1 rfl ?_ (Nat.zero_le _) (by show out.toArray.size ≤ _; rw [List.size_toArray]; omega))
  rw [hf]
  simp only [bne_self_eq_false, Bool.false_eq_true, if_false]
  exact wpAny_pure (h _ c2 ((g.upd hkS s1).upd hL s2) hc2)
theorem sort_end {keys : Array Value} {e : Nat} {T : Tok → Option Int} {P : PySem.Fin → Shared → Prop} (hu : A.units + 1 < cLine) (g : Gd F hb t1 H s T) (hkS : hb.get? kS = none) (hL : hb.get? L = none) (hne : kS ≠ L) (ek : s.heap.get? kS = some (seqObj "list" keys e)) (eL : s.heap.get? L = some (seqObj "list" #[] e1)) (hz : keys.size = vs.length) (h1 : 1 ≤ vs.length) (h64 : vs.length < 64)
    (hk : ∀ i v, keys.toList[i]? = some v → Rep (vis s.heap (H.wt T)) v (.lst ((key i).map .int))) (inj : ∀ i j, i < vs.length → j < vs.length → key i = key j → i = j)
    (h : ∀ h' q c', Gd F hb t1 H { s with heap := h' } T → q.Perm (List.toArray (List.range vs.length)) → SrtK ordIs key q vs.length → h'.get? L = some (seqObj "list" (q.toList.map fun i => vs.getD i Value.none).toArray c') → P (.done (.ret .none)) { s with heap := h' }) :
    wpAny c.M A (ksk_end L false vs.toArray e1 (.ref kS) keys) P E s := by
  have hln : keys.toList.length = vs.length := by simpa using hz
  have key_of : ∀ i v, keys.toList[i]? = some v → ∃ a xs, v = .ref a ∧ IsL s.heap a xs ∧ IntsAre xs (key i) := fun i v e => key_lst (hk i v e)
  have hkz : keys.size ≤ sizeLine := by rw [hz, sizeLine_eq]; omega
  unfold ksk_end
  dsimp only
  simp only [Bool.false_eq_true, if_false]
  by_cases h2 : vs.toArray.size < 2
  · rw [if_pos h2, if_pos h2]
    refine wpAny_bind (wpAny_pure ?_)
    rw [StateT.run_pure]
    refine wpAny_bind (wpAny_pure ?_)
    dsimp only
    rw [List.size_toArray] at h2
    have hv1 : vs.length = 1 := by omega
    obtain ⟨v0, rfl⟩ : ∃ v, vs = [v] := by
      match vs, hv1 with
      | [v], _ => exact ⟨v, rfl⟩
    obtain ⟨k0, hk0⟩ : ∃ k, keys = #[k] := by
      obtain ⟨l⟩ := keys
      match l, hln with
      | [k], _ => exact ⟨k, rfl⟩
    subst hk0
    refine sort_tail (out := [v0]) g hkS hL hne ek eL hkz rfl (show ((#[k0] : Array Value).zip #[v0]).map (·.2) = [v0].toArray by simp) (by rw [sizeLine_eq]; exact Nat.le_of_ble_eq_true rfl) fun h' c' g' hl => h h' #[0] c' g' (Array.Perm.refl _) (fun i j hij hj => ?_) hl
    have hj : j < 1 := hj
    obtain rfl : i = j := by omega
    exact KeyOrd.kle_refl _
  · rw [if_neg h2, if_neg h2]
    rw [List.size_toArray] at h2
    refine wpAny_bind ?_
    have e0 : keys = keys.toList.toArray := by simp
    rw [e0]
    refine kind_lists (by omega) (fun v hv => ?_) ?_
    · obtain ⟨i, hi⟩ := List.getElem?_of_mem hv
      obtain ⟨a, xs, e, l, _⟩ := key_of i v hi
      exact ⟨a, xs, e, l⟩
    · refine wpAny_bind (runs_lists (prog := c.prog) (w := c.w) (Q := fun st s' => wpAny c.M A (ksk_tail L false e1 (.ref kS) st) P E s') (N := vs.length) hu hln rfl key_of inj (by omega) h64 fun q st hq hs ha hf => ?_)
      have ek' : s.heap.get? kS = some (seqObj "list" keys.toList.toArray e) := by rw [← e0]; exact ek
      have hqs := perm_size hq
      exact sort_tail (out := q.toList.map fun i => vs.getD i Value.none) g hkS hL hne ek' eL (by rw [← e0]; exact hkz) hf (kat_snds hln ha) (by rw [List.length_map, Array.length_toList, hqs, sizeLine_eq]; omega) fun h' c' g' hl => h h' q c' g' hq hs hl
/-- the keys are asked for, one by one -/
theorem sort_rest {f : Value} {P : PySem.Fin → Shared → Prop} {T : Tok → Option Int} (hu : A.units + 1 < cLine) (hF : ∀ b, F b → ∃ o, hb.get? b = some o) (hFA : FrA A = F) (g : Gd F hb t1 H s T) (hpk : H.p kS) (hkS : hb.get? kS = none) (hL : hb.get? L = none) (hne : kS ≠ L) (ek : s.heap.get? kS = some (seqObj "list" #[] 0)) (eL : s.heap.get? L = some (seqObj "list" #[] e1)) (h1 : 1 ≤ vs.length) (h64 : vs.length < 64)
    (inj : ∀ i j, i < vs.length → j < vs.length → key i = key j → i = j)
    (turn : ∀ (i : Nat) (v : Value) (h' : Heap) (tk : Nat) (T' : Tok → Option Int), vs[i]? = some v → (∃ o, h'.get? kS = some o) → (∃ o, h'.get? L = some o) → Gd F hb t1 H { s with heap := h', toks := tk } T' → (∀ n i, T n = some i → T' n = some i) → Tr c true A (H.wt T') (call f [v]) (.ok (.lst ((key i).map .int))) { s with heap := h', toks := tk })
    (h : ∀ h' tk T' q c', Gd F hb t1 H { s with heap := h', toks := tk } T' → (∀ n i, T n = some i → T' n = some i) → q.Perm (List.toArray (List.range vs.length)) → SrtK ordIs key q vs.length → h'.get? L = some (seqObj "list" (q.toList.map fun i => vs.getD i Value.none).toArray c') → P (.done (.ret .none)) { s with heap := h', toks := tk }) :
    wpAny c.M A (ksk_rest L f false vs.toArray e1 (.ref kS)) P E s := by
  unfold ksk_rest
  refine wpAny_bind (wpAny_rule ?_)
  first
    | rw [List.forIn_toArray]
    | (rw [← Array.forIn_toList]; simp only [List.toList_toArray])
    | rw [← Array.forIn_toList]
  refine wpAny_bind (ksk_fold (fun j s' => ∃ h' tk T' kA e, s' = { s with heap := h', toks := tk } ∧ Gd F hb t1 H { s with heap := h', toks := tk } T' ∧ (∀ n i, T n = some i → T' n = some i) ∧ h'.get? kS = some (seqObj "list" kA e) ∧ h'.get? L = some (seqObj "list" #[] e1) ∧ kA.size = j ∧
      ∀ i v, kA.toList[i]? = some v → Rep (vis h' (H.wt T')) v (.lst ((key i).map .int))) vs 0 s
    ⟨s.heap, s.toks, T, #[], 0, rfl, g, fun _ _ e => e, ek, eL, rfl, fun i v e => by simp at e⟩ ?step ?done)
  case step =>
    rintro j x s' hx ⟨h', tk, T', kA, e, rfl, g', tt, ek', eL', hz, hk⟩
    simp only [Nat.zero_add] at hz ⊢
    have hj : j < vs.length := (List.getElem?_eq_some_iff.mp hx).1
    refine wpAny_bind (wpAny_attempt (turn j x h' tk T' hx ⟨_, ek'⟩ ⟨_, eL'⟩ g' tt _ _ fun kv s₂ H₂ kt rk => ?_))
    obtain ⟨T₂, rfl⟩ : ∃ T₂, H₂ = H.wt T₂ := ⟨H₂.t, kt.e⟩
    obtain ⟨⟨h₂, tk₂, rfl, hle, kh⟩, -, te₂, td₂⟩ := kt
    have nF : ∀ a, hb.get? a = none → ¬ FrA A a := fun a ha z => by
      rw [hFA] at z
      obtain ⟨o, e⟩ := hF a z; rw [ha] at e; cases e
    have g₂ : Gd F hb t1 H { s with heap := h₂, toks := tk₂ } T₂ := ⟨g'.kh.trans (hFA ▸ kh), Nat.le_trans g'.tk hle, fun n i e => te₂ n i (g'.te n i e), td₂ g'.td⟩
    have ek₂ : h₂.get? kS = some (seqObj "list" kA e) := (kh _ _ ek').1 (.inl (nF _ hkS))
    have eL₂ : h₂.get? L = some (seqObj "list" #[] e1) := (kh _ _ eL').1 (.inl (nF _ hL))
    have s1 := Heap.SameBut.update h₂ kS (Obj.mapSeq (·.push kv))
    obtain ⟨c2, hc2⟩ : ∃ c2, (h₂.update kS (Obj.mapSeq (·.push kv))).get? kS = some (seqObj "list" (kA.push kv) c2) := ⟨_, get?_update_seq ek₂ (·.push kv)⟩
    dsimp only
    refine wpAny_bind (listUpdate_at ek₂ rfl ?_ (by rw [sizeLine_eq]; omega) (Nat.le_trans (Nat.le_of_eq (Array.size_push ..)) (by rw [sizeLine_eq]; omega)))
    have gu : Gd F hb t1 H { s with heap := h₂.update kS (Obj.mapSeq (·.push kv)), toks := tk₂ } T₂ := g₂.upd hkS s1
    refine wpAny_pure ⟨rfl, _, _, T₂, kA.push kv, c2, rfl, gu, fun n i e => te₂ n i (tt n i e), hc2, (s1.2 L hne.symm).trans eL₂, by rw [Array.size_push, hz], fun i v e => ?_⟩
    have le1 : (vis h₂ (H.wt T₂)).Le (vis (h₂.update kS (Obj.mapSeq (·.push kv))) (H.wt T₂)) := (Kv.of_sameBut (F := fun _ => False) (W := fun b => b = kS) s1 rfl).vis fun b (z : b = kS) => by rw [z]; exact hpk
    have le2 : (vis h' (H.wt T')).Le (vis h₂ (H.wt T₂)) := kh.vis.trans (vis_wt rfl rfl te₂)
    have e : (kA.toList ++ [kv])[i]? = some v := by simpa using e
    by_cases hi : i < kA.toList.length
    · rw [List.getElem?_append_left hi] at e
      exact Rep.mono (le2.trans le1) (hk i v e)
    · have hi2 : kA.toList.length = j := by simpa using hz
      rw [List.getElem?_append_right (by omega)] at e
      have : i - kA.toList.length = 0 := by
        cases q : i - kA.toList.length with
        | zero => rfl
        | succ n => rw [q] at e; simp at e
      obtain rfl : i = j := by omega
      rw [this] at e
      simp only [List.getElem?_cons_zero, Option.some.injEq] at e
      rw [← e]
      exact Rep.mono le1 rk
  case done =>
    rintro s' ⟨h', tk, T', kA, e, rfl, g', tt, ek', eL', hz, hk⟩
    refine wpAny_bind (listItems_at ek' rfl ?_)
    exact sort_end hu g' hkS hL hne ek' eL' (by omega) h1 h64 hk inj fun h3 q c' g3 hq hs hl => h h3 tk T' q c' g3 tt hq hs hl
end
end Mine
end
section
open PySem PySem.W PyProof.Rows PySem.Calls PySem.MeetsSeq
namespace Mine
set_option maxRecDepth 100000
set_option linter.unusedVariables false
set_option linter.unusedSectionVars false
theorem accR_get {a st : Int} {t₀ n i : Nat} (h : i < n) : (accR a st t₀ n)[i]? = some (.int (a + (i : Int) * st) (t₀ + i)) := by
  unfold accR
  rw [List.getElem?_map, List.getElem?_range h]; rfl
section
variable {c : Cx} {A : Around} {s : Shared} {H : Hd} {k : Nat}
theorem sorted_key {r fa : Addr} {N : Nat} {key : Nat → List Int} {tu tv tw : Tok} (hm : Rm c true (k + 1) A H s) (hL : Live H s.heap) (hr : IsRange s.heap r 0 N 1 tu tv tw) (hsm : Builtin.Range.small 0 N 1 = true) (hsz : Builtin.Range.rangeSize 0 N 1 = N) (h1 : 1 ≤ N) (h64 : N < 64)
    (inj : ∀ i j, i < N → j < N → key i = key j → i = j)
    (turn : ∀ (kS L : Addr) (i : Nat) (v : Value) (h' : Heap) (tk : Nat) (T' : Tok → Option Int), s.heap.get? kS = none → s.heap.get? L = none → i < N → (∃ t, v = .int i t ∧ t ≠ 0 ∧ T' t = some (i : Int)) → (∃ o, h'.get? kS = some o) → (∃ o, h'.get? L = some o) → Gd (FrA A) s.heap s.toks (H.add fun b => b = kS ∨ b = L) { s with heap := h', toks := tk } T' →
      Tr c true A.in1.in1 ((H.add fun b => b = kS ∨ b = L).wt T') (call (.ref fa) [v]) (.ok (.lst ((key i).map .int))) { s with heap := h', toks := tk })
    {Q E : Value → Shared → Prop}
    (hQ : ∀ v s' H' (q : List Nat), Kt A H s H' s' → q.Perm (List.range N) → q.Pairwise (fun i j => ltI (key j) (key i) = false) → Rep (vis s'.heap H') v (.lst (q.map fun (i : Nat) => .int i)) → Q v s') :
    wpAny c.M A (call (.builtin "sorted") [.ref r] [(Str.ofString "key", .ref fa)]) Q E s := by
  have hu := hm.units
  have hdead : ∀ {a : Addr} {h : Heap}, (∀ b o, s.heap.get? b = some o → h.get? b = some o) → h.get? a = none → s.heap.get? a = none := fun {a h} k e => by
    cases q : s.heap.get? a with
    | none => rfl
    | some o => have := k a o q; rw [e] at this; cases this
  refine call_function_entry_kw kind_sorted plain_sorted entry_sorted (ksk_s1 _ _) ?_
  unfold Builtin.«sorted»
  refine wpAny_bind (m := checkCount "sorted" 1 1 _) (wpAny_pure ?_)
  refine wpAny_bind (collectR (A := A.in1) (hm.hand rfl) hr hsm hsz (by omega) fun h₁ t₀ hle hk₁ => ?_)
  refine wpAny_bind (wpAny_newList ?_ (by show (accR 0 1 t₀ N).toArray.size ≤ _; rw [List.size_toArray, accR_len, sizeLine_eq]; omega))
  generalize hvs : accR 0 1 t₀ N = vs
  have hvl : vs.length = N := by rw [← hvs, accR_len]
  show wpAny _ _ _ _ _ { s with heap := h₁.push (seqObj "list" vs.toArray 0), toks := t₀ + N }
  generalize hLe : h₁.objs.size = L
  have hL1 : h₁.get? L = none := Heap.get?_none_of_le (Nat.le_of_eq hLe)
  have hL0 := hdead hk₁ hL1
  have ho : (h₁.push (seqObj "list" vs.toArray 0)).get? L = some (seqObj "list" vs.toArray 0) := by rw [← hLe]; exact Heap.get?_push_size _ rfl
  have hk₂ : ∀ b o, s.heap.get? b = some o → (h₁.push (seqObj "list" vs.toArray 0)).get? b = some o := fun b o e => Heap.get?_push_of_some _ (hk₁ b o e)
  generalize h₁.push (seqObj "list" vs.toArray 0) = h₂ at ho hk₂ ⊢
  refine wpAny_bind (wpAny_holding (wpAny_call_entry_kw slot_list_sort ⟨_, ho, rfl⟩ entry_list_sort ?_ (ksk_l1 _ _)))
  show wpAny c.M A.in1.in1 (Builtin.«list.sort» ⟨[.ref L], [(Str.ofString "key", .ref fa)]⟩) _ _ _
  rw [ksk_t1]
  have s1 := Heap.SameBut.update h₂ L (Obj.mapSeq fun _ => (#[] : Array Value))
  obtain ⟨e1, ho1⟩ : ∃ e1, (h₂.update L (Obj.mapSeq fun _ => (#[] : Array Value))).get? L = some (seqObj "list" #[] e1) := ⟨_, get?_update_seq ho fun _ => #[]⟩
  unfold ksk_tree
  refine wpAny_bind (listItems_at ho rfl ?_)
  refine wpAny_bind (listUpdate_at ho rfl ?_ (by rw [List.size_toArray, sizeLine_eq]; omega) (Nat.zero_le _))
  refine wpAny_bind (seqEpoch_at ho1 rfl ?_)
  refine wpAny_bind (wpAny_newTuple ?_ (by show vs.length ≤ _; rw [sizeLine_eq]; omega))
  refine wpAny_bind (wpAny_newList ?_ (Nat.zero_le _))
  refine wpAny_holding ?_
  have hk₃ : ∀ b o, s.heap.get? b = some o → (h₂.update L (Obj.mapSeq fun _ => (#[] : Array Value))).get? b = some o := fun b o e => (s1.2 b (fun z => by rw [z, hL0] at e; cases e)).trans (hk₂ b o e)
  show wpAny c.M A.in1.in1 _ _ _ { s with heap := ((h₂.update L (Obj.mapSeq fun _ => (#[] : Array Value))).push (seqObj "tuple" vs.toArray 0)).push (seqObj "list" #[] 0), toks := t₀ + N }
  generalize h₂.update L (Obj.mapSeq fun _ => (#[] : Array Value)) = h₃ at ho1 hk₃ ⊢
  have ho2 := Heap.get?_push_of_some (seqObj "tuple" vs.toArray 0) ho1
  have hk₄ : ∀ b o, s.heap.get? b = some o → (h₃.push (seqObj "tuple" vs.toArray 0)).get? b = some o := fun b o e => Heap.get?_push_of_some _ (hk₃ b o e)
  show wpAny c.M A.in1.in1 (ksk_rest L (.ref fa) false vs.toArray e1 (.ref (h₃.push (seqObj "tuple" vs.toArray 0)).objs.size)) _ _ { s with heap := (h₃.push (seqObj "tuple" vs.toArray 0)).push (seqObj "list" #[] 0), toks := t₀ + N }
  generalize h₃.push (seqObj "tuple" vs.toArray 0) = h₄ at ho2 hk₄ ⊢
  generalize hkSe : h₄.objs.size = kS
  have hkS4 : h₄.get? kS = none := Heap.get?_none_of_le (Nat.le_of_eq hkSe)
  have hkS0 := hdead hk₄ hkS4
  have hne : kS ≠ L := fun z => by rw [z, ho2] at hkS4; cases hkS4
  have ek : (h₄.push (seqObj "list" #[] 0)).get? kS = some (seqObj "list" #[] 0) := by rw [← hkSe]; exact Heap.get?_push_size _ rfl
  have eL := Heap.get?_push_of_some (seqObj "list" #[] 0) ho2
  have hk₅ : ∀ b o, s.heap.get? b = some o → (h₄.push (seqObj "list" #[] 0)).get? b = some o := fun b o e => Heap.get?_push_of_some _ (hk₄ b o e)
  generalize h₄.push (seqObj "list" #[] 0) = h₅ at ek eL hk₅ ⊢
  -- the marks of the range's ints
  have hT0 : ∃ T : Tok → Option Int, (∀ n i, H.t n = some i → T n = some i) ∧ (∀ n i, T n = some i → n < t₀ + N) ∧ ∀ i, i < N → T (t₀ + i) = some (i : Int) := by
    refine ⟨fun n => if t₀ ≤ n ∧ n < t₀ + N then some ((n - t₀ : Nat) : Int) else H.t n, fun n i e => ?_, fun n i e => ?_, fun i hi => ?_⟩
    · have : n < s.toks := hm.td n i e
      have hle : s.toks ≤ t₀ := hle
      show (if t₀ ≤ n ∧ n < t₀ + N then some ((n - t₀ : Nat) : Int) else H.t n) = some i
      rw [if_neg (fun z => absurd (Nat.lt_of_lt_of_le this hle) (Nat.not_lt.mpr z.1))]; exact e
    · dsimp only at e
      split at e
      · rename_i z; exact z.2
      · have : n < s.toks := hm.td n i e
        exact Nat.lt_of_lt_of_le (Nat.lt_of_lt_of_le this hle) (Nat.le_add_right _ _)
    · show (if t₀ ≤ t₀ + i ∧ t₀ + i < t₀ + N then some ((t₀ + i - t₀ : Nat) : Int) else H.t (t₀ + i)) = _
      rw [if_pos ⟨Nat.le_add_right _ _, Nat.add_lt_add_left hi _⟩, Nat.add_sub_cancel_left]
  obtain ⟨T, te, td, ti⟩ := hT0
  have hle : s.toks ≤ t₀ := hle
  have hit : ∀ (i : Nat) v, vs[i]? = some v → i < N ∧ v = .int (i : Int) (t₀ + i) := fun i v e => by
    have hi : i < N := by rw [← hvl]; exact (List.getElem?_eq_some_iff.mp e).1
    rw [← hvs, accR_get hi] at e
    cases e
    exact ⟨hi, by simp⟩
  have g0 : Gd (FrA A) s.heap s.toks (H.add fun b => b = kS ∨ b = L) { s with heap := h₅, toks := t₀ + N } T := ⟨Kh.of_keeps hk₅, Nat.le_trans hle (Nat.le_add_right _ _), te, td⟩
  have ht0 : 0 < t₀ := Nat.lt_of_lt_of_le hm.tok hle
  refine sort_rest (c := c) (A := A.in1.in1) (s := { s with heap := h₅, toks := t₀ + N }) (F := FrA A) (hb := s.heap) (t1 := s.toks) (H := H.add fun b => b = kS ∨ b = L) (vs := vs) (key := key) (T := T) (by show A.units + 1 + 1 + 1 < cLine; omega) (fun b hb => ?_) rfl g0 (.inr (.inl rfl)) hkS0 hL0 hne ek eL (by omega) (by omega) (by rw [hvl]; exact inj) (fun i v h' tk T' hv hlk hll g' tt => ?_) fun h' tk T' q c' g' tt hq hs hl => ?_
  · obtain ⟨l, hl, ff⟩ := hm.frames
    obtain ⟨l', e1, e2⟩ := hb
    rw [hl] at e1; cases e1
    obtain ⟨_, o, e, _⟩ := ff.mem e2
    exact ⟨o, e⟩
  · obtain ⟨hi, rfl⟩ := hit i v hv
    exact turn kS L i _ h' tk T' hkS0 hL0 hi ⟨_, rfl, Nat.ne_of_gt (Nat.lt_of_lt_of_le ht0 (Nat.le_add_right _ _)), tt _ _ (ti i hi)⟩ hlk hll g'
  · refine ⟨_, rfl, wpAny_pure ⟨_, rfl, hQ _ _ (H.wt T') q.toList ⟨⟨h', tk, rfl, g'.tk, g'.kh⟩, rfl, g'.te, fun _ => g'.td⟩ ?_ ?_ ?_⟩⟩
    · have := Array.perm_iff_toList_perm.mp hq
      rw [hvl] at this
      simpa using this
    · rw [List.pairwise_iff_getElem]
      intro i j hi hj hij
      have := hs i j (Nat.le_of_lt hij) (by rw [← perm_size hq]; simpa using hj)
      unfold KeyOrd.kle kAt at this
      have ei : q[i]? = some q.toList[i] := by simp at hi; simp [hi]
      have ej : q[j]? = some q.toList[j] := by simp at hj; simp [hj]
      rw [ei, ej] at this
      exact this
    · have hql : q.toList.length = N := by rw [Array.length_toList, perm_size hq, hvl]
      simp only [Rep]
      refine ⟨by rw [List.length_map, hql]; omega, L, _, c', rfl, ⟨fun z => ?_, _, hl, rfl, rfl, rfl, .inl rfl, fun ⟨_, z⟩ => by cases z⟩, ?_⟩
      · obtain ⟨o, e⟩ := hL L z
        rw [hL0] at e; cases e
      · refine RepL.of_get (by simp) fun i x v ex ev => ?_
        rw [List.getElem?_map] at ex ev
        cases eq : q.toList[i]? with
        | none => rw [eq] at ex; cases ex
        | some n =>
          rw [eq] at ex ev
          simp only [Option.map_some, Option.some.injEq] at ex ev
          subst ex
          have hn : n < N := by
            have := (Array.perm_iff_toList_perm.mp hq).mem_iff.mp (List.mem_of_getElem? eq)
            rw [hvl] at this
            simpa using this
          obtain ⟨v', hv'⟩ : ∃ v', vs[n]? = some v' := ⟨_, List.getElem?_eq_getElem (by omega)⟩
          obtain ⟨_, hv2⟩ := hit n v' hv'
          rw [List.getD_eq_getElem?_getD, hv', hv2] at ev
          rw [← ev]
          exact ⟨t₀ + n, rfl, Nat.ne_of_gt (Nat.lt_of_lt_of_le ht0 (Nat.le_add_right _ _)), tt _ _ (ti n hn)⟩
end
end Mine
end
section
open PySem PySem.W PyProof.Rows PySem.Calls
namespace Mine
set_option maxRecDepth 100000
set_option linter.unusedVariables false
set_option linter.unusedSectionVars false
section
variable {c : Cx} {O : OpsF} (OK : OpsOk c O) {k : Nat} {cal : Cal} {fname : Nat → Str} (CO : CallsOk c (k + 2) cal fname) {frees : List Str} (hfree : ∀ x ∈ frees, c.mg x = none)
include OK CO hfree
/-- sorted(range(..), key = lambda x: vn[x:] + vn[:x]) -/
theorem sortk_ev {A : Around} {s : Shared} {H : Hd} {fe : FE} {env : Env} {ns : List Str} {st : Fs} {pit : PE} {itE : Expr} {N : Nat} {vn x : Str} {xs : List AV} {iv n : Nat} {P cd : Addr} {key : Nat → List Int} {params : Arguments} {scope : Scope} {p1 p2 p3 p4 p5 p6 p7 p8 p9 pn pl pc pk : Pos} {q : List Nat}
    (hm : Rm c true (k + 2 + 1) A H s) (F : Fm c (FrA A) ns env st fe H s.heap) (hlen : st.ρ.length = ns.length) (he : encE frees fname env.scope.names ns pit itE = true) (hg : isGlob env.scope.names (Str.ofString "sorted") = true) (hfr : Str.ofString "sorted" ∈ frees)
    (hit : (pe O cal true st pit).v = .ok (.av (.range 0 N 1)) st.σ) (hsm : Builtin.Range.small 0 N 1 = true) (hsz : Builtin.Range.rangeSize 0 N 1 = N) (h1 : 1 ≤ N) (h64 : N < 64)
    (hi : ns[iv]? = some vn) (hρ : st.ρ[iv]? = some (some (.val (.lst xs)))) (hkd : env.kindOf vn = some .cell) (hσ : st.σ[n]? = some (some (.tab P true))) (hlo : st.lo ≤ n) (hcode : env.code = .ref cd) (hC : CodeHd c.h0 cd P) (hB : c.h0.BuiltinsAt c.mg P) (hgP : mainGlobals ≠ P)
    (hdef : defaultsOf params env = ([], [])) (hbind : ∀ qual clos pm c' ctv v, bindArgs (kla_fn "<lambda>" qual params (lamE vn x p1 p2 p3 p4 p5 p6 p7 p8 p9) scope clos pm (.ref c') ctv) ⟨[v], []⟩ = pure [(x, v)])
    (hk : scope.kind = .function) (hco : scope.isCoroutine = false) (hgen : scope.isGenerator = false) (hcell : ∀ y ∈ scope.names, y.2 ≠ .cell) (hfree2 : ∀ y, (y, NameKind.free) ∈ scope.names → y = vn) (k1 : scope.names.lookup x = some .local) (k2 : scope.names.lookup vn = some .free) (hn : (vn == ("__classdict__" : Str)) = false) (hd : (vn == ("__debug__" : Str)) = false) (hd2 : (x == ("__debug__" : Str)) = false)
    (inj : ∀ i j, i < N → j < N → key i = key j → i = j)
    (hkey : ∀ i, i < N → ∃ ys ys', O.slice (.lst xs) (.int (i : Nat)) .none .none = .ok (.lst ys) ∧ O.slice (.lst xs) .none (.int (i : Nat)) .none = .ok (.lst ys') ∧ O.bin .Add (.lst ys) (.lst ys') = .ok (.lst ((key i).map .int)))
    (hq : ∀ q' : List Nat, q'.Perm (List.range N) → q'.Pairwise (fun i j => ltI (key j) (key i) = false) → q' = q) :
    Ev c true A st.lo st.σ H (eval (.Call (.Name (Str.ofString "sorted") pn) [itE] [⟨some (Str.ofString "key"), .Lambda params (lamE vn x p1 p2 p3 p4 p5 p6 p7 p8 p9) scope pl, pk⟩] pc) env) (.ok (.av (.lst (q.map fun (i : Nat) => .int i))) (st.σ.set n (some (.tab P false)))) s := fun Q E Pq => by
  obtain ⟨g1, g2, g3⟩ := isGlob_of rfl hg
  have hnst := encE_notStar he
  have hst1 : starEach [itE] env = [(false, eval itE env)] := by rw [starEach_cons hnst]; rfl
  refine wpAny_Call_Name_kw (ld_boot F g1 g2 g3 (hfree _ hfr) (BI.boot .sorted) ?_)
  have hbt : backTo pc (starEach [itE] env) = [(false, eval itE env)] := by rw [hst1]; rfl
  show wpAny c.M A (callWith pc (.builtin "sorted") [] (backTo pc (starEach [itE] env)) _) Q E s
  refine callWith_builtin_kwB (by rw [hbt]; rfl) rfl ?_
  rw [hbt]
  refine evalArgs_kwB rfl (Calls.spliced_cons ?_)
  refine (pe_sound OK CO hfree pit he rfl hm F hlen).v _ _ ?_
  rw [hit]
  intro w H₁ s₁ x₁ r₁
  have F₁ := F.ss x₁
  have hm₁ := hm.nf x₁.nf
  have r₁ : Rep (vis s₁.heap H₁) w (.range 0 N 1) := r₁
  simp only [Rep] at r₁
  obtain ⟨r, ta, tb, ts, rfl, hrv⟩ := r₁
  refine Calls.spliced_nil (kws_cons (kla_eval hdef ?_))
  -- the lambda is made
  obtain ⟨clos, hclos, hcl1, hcl2, hcl3⟩ := closureFor_ok3 (env := env) (scope := scope) fun y hy => by
    rw [hfree2 y hy]
    obtain ⟨cc, _, e, _⟩ := F.cl vn hkd
    rw [e]; rfl
  obtain ⟨a0, hm0, ea0, ps0, hP0, ht0, hps0⟩ := F₁.sto.at' n _ hσ
  subst ea0
  obtain rfl : ps0 = #[] := hps0 rfl
  have base := F₁.base'
  refine wpAny_up (kla_makeFunction (mg := c.mg) hclos F.glob (stays_ns base c.g) hcode (hC.keeps base) hP0 trivial rfl hgP (hB.keeps base) fun c' ctv h₂ tk₂ hext hc1 hc2 hrec htab hle => ?_)
  have hle : s₁.toks ≤ tk₂ := hle
  generalize hfo : kla_obj "<lambda>" (env.qual ++ "<lambda>") params (lamE vn x p1 p2 p3 p4 p5 p6 p7 p8 p9) scope clos ((c.mg "__name__").getD .none) c' ctv = fo
  generalize hfa : h₂.objs.size = fa
  have hsz1 : s₁.heap.objs.size ≤ fa := by omega
  have hfa0 : s₁.heap.get? fa = none := Heap.get?_none_of_le hsz1
  have efa : (h₂.push fo).get? fa = some fo := by rw [← hfa]; exact Heap.get?_push_size _ (by rw [← hfo]; rfl)
  have ext2 : ∀ b o, b ≠ a0 → s₁.heap.get? b = some o → (h₂.push fo).get? b = some o := fun b o hb e => Heap.get?_push_of_some _ (hext b o hb e)
  have etab : (h₂.push fo).get? a0 = some { cls := .none, data := .fields #[rawInt pl.line, rawInt pl.col, .ref c'] } := Heap.get?_push_of_some _ htab
  have erec : (h₂.push fo).CodeRec (.ref c') (env.qual ++ "<lambda>") := hrec.push _
  generalize h₂.push fo = h₃ at efa ext2 etab erec
  have x₂ : Ss A st.lo st.σ H₁ s₁ (st.σ.set n (some (.tab a0 false))) H₁ { s₁ with heap := h₃, toks := tk₂ } := write_ssX F₁.sto F₁.hlt hσ hm0 hlo ext2 ⟨rfl, _, etab, trivial, fun z => by cases z⟩ rfl hle
  have F₂ := F₁.ss x₂
  have hm₂ := hm₁.nf x₂.nf
  refine kws_nil ?_
  show wpAny c.M A (call (.builtin "sorted") ([] ++ [.ref r]) [(Str.ofString "key", .ref fa)]) Q E { s₁ with heap := h₃, toks := tk₂ }
  rw [List.nil_append]
  have hrange : IsRange h₃ r 0 N 1 ta tb ts := by
    obtain ⟨nh, ⟨oc, od, odt, os⟩, e, c1, d1, f1, _, sl⟩ := hrv
    simp only at c1 d1 f1 sl
    subst c1 d1 f1
    have sl := sl ⟨_, rfl⟩
    subst sl
    exact ext2 r _ (fun z => nh (by rw [z]; exact F₁.sto.hidden hm0)) e
  obtain ⟨l, hlf, ff⟩ := hm₁.frames
  have nFfa : ¬ FrA A fa := fun ⟨l', e1, e2⟩ => by
    rw [hlf] at e1; cases e1
    obtain ⟨_, o, e, _⟩ := ff.mem e2
    rw [hfa0] at e; cases e
  obtain ⟨wv, nv, rwv⟩ := F₂.vals iv vn _ hi hρ
  rcases nv with ⟨q1, _⟩ | ⟨_, cc, ecc, hcc⟩
  · rw [hkd] at q1; cases q1
  have hclv : clos.lookup vn = some cc := (hcl2 vn (mem_of_lookup k2)).trans ecc
  refine sorted_key (c := c) (A := A) (s := { s₁ with heap := h₃, toks := tk₂ }) (H := H₁) (k := k + 2) (key := key) hm₂ F₂.hlt hrange hsm hsz h1 h64 inj (fun kS L i v h' tk T' hkS hL hiN hv hlk hll g => ?_) fun v s' H' q' kt hp hpw hrep => ?_
  · obtain ⟨ys, ys', e1, e2, e3⟩ := hkey i hiN
    obtain ⟨t, rfl, t0, ht⟩ := hv
    have H3p : ∀ b, (H₁.add fun b => b = kS ∨ b = L).p b → H₁.p b ∨ h₃.get? b = none := fun b z => z.imp id fun z => by
      rcases z with rfl | rfl
      · exact hkS
      · exact hL
    have le3 : (vis h₃ H₁).Le (vis h' ((H₁.add fun b => b = kS ∨ b = L).wt T')) := vis_new (H₃ := (H₁.add fun b => b = kS ∨ b = L).wt T') g.kh H3p g.te fun n a e => e
    refine lam_call OK (k := k) (x := x) (vn := vn) (wv := wv) (xs := xs) (cc := cc) (c' := c') (name := "<lambda>") (qual := env.qual ++ "<lambda>") (params := params) (scope := scope) (clos := clos) (pm := (c.mg "__name__").getD .none) (ctv := ctv) ?_ ?_ ?_ ?_ ?_ (fun v => hbind _ _ _ _ _ v) hk hco hgen hcell k1 k2 hclv (g.kh.cell hcc) hn hd hd2 (Rep.mono le3 rwv) ⟨t, rfl, t0, ht⟩ e1 e2 e3
    · have hm4 : Rm c true (k + 2 + 1) A ((H₁.add fun b => b = kS ∨ b = L).wt T') { s₁ with heap := h', toks := tk } := hm₂.nf ⟨g.kh.nh, g.tk, fun _ => g.td⟩
      exact ⟨by have := hm4.depth; show A.depth + (k + 2) < _; omega, by have := hm4.units; show A.units + 1 + 1 + 8 * (k + 2) < _; omega, hm4.hand, hm4.frames, hm4.tok, hm4.td⟩
    · exact (F₂.step g.kh).base'
    · intro b z
      rcases z with z | z | z
      · obtain ⟨o, e⟩ := F₂.hlt b z
        obtain ⟨sl, e'⟩ := (g.kh b o e).2
        exact ⟨_, e'⟩
      · exact z ▸ hlk
      · exact z ▸ hll
    · rw [hfo]; exact (g.kh fa fo efa).1 (.inl nFfa)
    · obtain ⟨c2, oc, vs2, tq, ec, hoc, hdc, hq2⟩ := erec
      exact ⟨c2, oc, vs2, tq, ec, (g.kh c2 oc hoc).1 (.inr ⟨_, hdc⟩), hdc, hq2⟩
  · rw [hq q' hp hpw] at hrep
    exact Pq v H' s' ((x₁.trans x₂).trans (.of_kt kt F₂.sto F₂.hlt)) hrep
end
end Mine
end
section
open PySem PySem.W PyProof.Rows PySem.Calls
namespace Mine
set_option maxRecDepth 100000
set_option linter.unusedVariables false
/- the words of 08: ints that are one or equal, of any size; a range that falls -/
noncomputable def isEqB (a b : AV) : Option Bool := two AV.int? a b (fun x y => some (x == y)) none
section
variable {c : Cx} {q : Bool} {k : Nat} {A : Around} {s : Shared} {H : Hd}
theorem isSame_big {x : Int} {t u : Tok} (hb : NoneBooked s.heap) (ht : t ≠ 0) (hu : u ≠ 0) (hs : smallInt x = false) : ∃ b : Bool, ∀ (Q : Bool → Shared → Prop) (E : Value → Shared → Prop), Q b s → wpAny c.M A (isSame (.int x t) (.int x u)) Q E s := by
  have z : (t == 0 || u == 0) = false := by simp [ht, hu]
  by_cases htu : (t == u) = true
  · refine ⟨true, fun Q E hQ => ?_⟩
    show wpAny _ A (if (x == x && smallInt x) = true then isSame.cachedInt t u else isSame.created (x == x) t u) _ _ _
    rw [if_neg (by simp [hs])]
    unfold isSame.created
    rw [beq_self_eq_true, z, htu]
    exact wpAny_pure hQ
  · refine ⟨c.w.params.mergeTok t == c.w.params.mergeTok u, fun Q E hQ => ?_⟩
    show wpAny _ A (if (x == x && smallInt x) = true then isSame.cachedInt t u else isSame.created (x == x) t u) _ _ _
    rw [if_neg (by simp [hs])]
    have htu : (t == u) = false := by simpa using htu
    unfold isSame.created
    rw [beq_self_eq_true, z, htu]
    refine wpAny_bind (wpAny_sharingNotTold_none hb ?_)
    first | rw [if_neg Bool.false_ne_true] | simp only [Bool.false_eq_true, if_false]
    refine wpAny_bind (wpAny_sharingNotTold_none hb ?_)
    first | rw [if_neg Bool.false_ne_true] | simp only [Bool.false_eq_true, if_false]
    exact wpAny_bind (wpAny_rule (wpAny_bind (wpAny_askSetting (wpAny_pure hQ))))
theorem isEqB_ok {a b : AV} {va vb : Value} {r : Bool} (hn : NoneBooked s.heap) (hm : Rm c q (k + 1) A H s) (hL : Live H s.heap) (ra : RepO s.heap H va a) (rb : RepO s.heap H vb b) (h : isEqB a b = some r) :
    ∃ i, Tr c q A H (compareOp .Is va vb) (.ok (.bool i)) s ∧ (i = true → r = true) ∧ ∀ s', Kp A s s' → Tr c q A H (compareOp .Eq va vb) (.ok (.bool r)) s' := by
  revert h
  refine two_cases (P := fun o => o = some r → _) (fun x y ea eb h => ?_) nofun
  cases h
  have hc : eqCmp .Eq a b = some (x == y) := by rw [int?_eq ea, int?_eq eb]; rfl
  have T2 : ∀ s', Kp A s s' → Tr c q A H (compareOp .Eq va vb) (.ok (.bool (x == y))) s' := fun s' k' => eqCmp_ok (hm.kp k') hc (ra.kp k') (rb.kp k')
  rw [int?_eq ea] at ra
  rw [int?_eq eb] at rb
  obtain ⟨t, rfl, t0, hta⟩ := id ra
  obtain ⟨u, rfl, u0, htb⟩ := id rb
  by_cases hxy : x = y ∧ smallInt x = false
  · obtain ⟨rfl, hs⟩ := hxy
    obtain ⟨b0, hb0⟩ := isSame_big (c := c) (A := A) hn t0 u0 hs
    exact ⟨b0, by simpa using is_of (c := c) (q := q) (H := H) (op := .Is) (b := b0) (fun Q' hq => hb0 Q' _ hq) (.inl rfl), fun _ => beq_self_eq_true x, T2⟩
  · exact ⟨x == y, by simpa using is_of (c := c) (q := q) (H := H) (op := .Is) (b := x == y) (fun Q' hq => isSame_ints ra rb hxy Q' hq) (.inl rfl), id, T2⟩
end
theorem repOL3 {h : Heap} {H : Hd} {vs : List Value} {x y z : AV} (r : RepOL h H vs [x, y, z]) : ∃ v w u, vs = [v, w, u] ∧ RepO h H v x ∧ RepO h H w y ∧ RepO h H u z := by
  match vs, r with
  | [v, w, u], ⟨a, b, d, _⟩ => exact ⟨v, w, u, rfl, a, b, d⟩
noncomputable def range3 : List AV → Res
  | [.int a, .int b, .int z] => if z = 0 then .stuck else if Builtin.divisionGoesByPylong (b - a) z = true then .stuck else .ok (.range a b z)
  | xs => b_range xs
theorem range3_ok {c : Cx} {A : Around} {s : Shared} {H : Hd} {xs : List AV} {vs : List Value} (hL : Live H s.heap) (r : RepOL s.heap H vs xs) : Tr c true A H (PySem.call (.type "range") vs) (range3 xs) s := by
  unfold range3
  split
  · obtain ⟨v, w, u, rfl, ⟨t, rfl, _⟩, ⟨t2, rfl, _⟩, t3, rfl, _⟩ := repOL3 r
    split
    · exact Tr.stuck
    · rename_i hz
      split
      · exact Tr.stuck
      · rename_i hp
        exact fun Q E P => PySem.call_range_3 hz (Post.old P (Kp.of (Nat.le_refl _) fun _ _ e => Heap.get?_push_of_some _ e) (rep_fresh_range hL)) (.inl (by simpa using hp))
  · exact b_range_ok hL r
noncomputable def callBB (f : BI) (xs : List AV) : Res := match f with
  | .range => range3 xs
  | _ => callB f xs
noncomputable def opsB : OpsF := { ops with isEq := isEqB, bcall := callBB }
theorem opsB_ok (c : Cx) (hn : NoneBooked c.h0) : OpsOk c opsB := { ops_ok c with
  isEq := fun hm hst hL ra rb h => isEqB_ok (let ⟨mc, a, b⟩ := hn; ⟨mc, stays_ns hst a, b⟩) hm hL ra rb h
  bcall := fun {q k A s H f v xs vs} hq hm hst hL r hv => by
    by_cases hf : f = .range
    · subst hf
      subst hq
      have e : v = BI.val .range := by have := BI.boot .range; exact Option.some.inj (hv.symm.trans this)
      subst e
      exact range3_ok hL r
    · have e : callBB f xs = callB f xs := by cases f <;> first | rfl | exact absurd rfl hf
      show Tr c q A H (PySem.call v vs) (callBB f xs) s
      rw [e]
      exact (ops_ok c).bcall hq hm hst hL r hv }
end Mine
end
section
open PySem PySem.W PyProof.Rows
namespace Mine
set_option linter.unusedVariables false
/- a set's table: its places rise -/
noncomputable def Rise (xs : Array Nat) : Prop := xs.toList.Pairwise (· < ·)
theorem Rise.lt {xs : Array Nat} (r : Rise xs) {i k : Nat} (hi : i < k) (hk : k < xs.size) : xs[i]'(by omega) < xs[k] := by
  have := List.pairwise_iff_getElem.mp r i k (by simpa using (by omega : i < xs.size)) (by simpa using hk) hi
  simpa using this
structure BelowIs (xs : Array Nat) (j r : Nat) : Prop where
  le : r ≤ xs.size
  lo : ∀ i (h : i < xs.size), i < r → xs[i] < j
  hi : ∀ i (h : i < xs.size), r ≤ i → j ≤ xs[i]
theorem rise_empty : Rise #[] := List.Pairwise.nil
/- the slots that a search meets -/
/-- what is kept of a table -/
structure Tab (ld : Bool) (t : SetTable) : Prop where
  rise : Rise t.place
  led : t.led = ld
theorem Tab.fresh (a b : Nat) (ld : Bool) : Tab ld (.fresh a b ld) := ⟨rise_empty, rfl⟩
theorem Tab.laid {ld pl : Bool} {mask fi mv : Nat} {hs : Array Int} {r : SetTable × Array Nat} (e : SetTable.laid mask fi mv ld pl hs = some r) : Tab ld r.1 := by
  unfold SetTable.laid at e
  simp only [Option.bind_eq_bind, Option.pure_def, Option.bind_eq_some_iff, Option.some.injEq] at e
  obtain ⟨owner, _, e⟩ := e
  subst e
  refine ⟨?_, rfl⟩
  unfold Rise
  simp only [List.map_filterMap, Option.map_map]
  have : ((List.range (mask + 1)).filterMap fun j => Option.map (Prod.fst ∘ fun x => (j, x)) (owner.getD j none)) = (List.range (mask + 1)).filter fun j => (owner.getD j none).isSome := by
    induction (List.range (mask + 1)) with
    | nil => rfl
    | cons a l ih =>
      rw [List.filterMap_cons, List.filter_cons]
      cases owner.getD a none with
      | none => exact ih
      | some k => exact congrArg (a :: ·) ih
  rw [this]
  exact List.Pairwise.filter _ List.pairwise_lt_range
end Mine
end
section
namespace Mine
set_option linter.unusedVariables false
/- turnings of a row with a mark: the plain law of 08 -/
noncomputable def ltL : List Int → List Int → Bool
  | _, [] => false
  | [], _ :: _ => true
  | x :: a, y :: b => decide (x < y) || (x == y && ltL a b)
theorem ltL_nil' (a : List Int) : ltL a [] = false := by cases a <;> rfl
theorem ltL_irrefl : ∀ a : List Int, ltL a a = false
  | [] => rfl
  | x :: a => by simp [ltL, ltL_irrefl a]
theorem ltL_trans : ∀ a b c : List Int, ltL a b = true → ltL b c = true → ltL a c = true
  | _, _, [], _, h => by rw [ltL_nil'] at h; cases h
  | _, [], _ :: _, h, _ => by rw [ltL_nil'] at h; cases h
  | [], _ :: _, _ :: _, _, _ => rfl
  | x :: a, y :: b, z :: c, h1, h2 => by
    simp only [ltL, Bool.or_eq_true, decide_eq_true_eq, Bool.and_eq_true, beq_iff_eq] at *
    rcases h1 with h1 | ⟨rfl, h1⟩ <;> rcases h2 with h2 | ⟨rfl, h2⟩
    · exact .inl (Int.lt_trans h1 h2)
    · exact .inl h1
    · exact .inl h2
    · exact .inr ⟨rfl, ltL_trans a b c h1 h2⟩
theorem ltL_neg : ∀ a b c : List Int, ltL a c = true → ltL a b = true ∨ ltL b c = true
  | _, _, [], h => by rw [ltL_nil'] at h; cases h
  | [], [], _ :: _, _ => .inr rfl
  | [], _ :: _, _ :: _, _ => .inl rfl
  | _ :: _, [], _ :: _, _ => .inr rfl
  | x :: a, y :: b, z :: c, h => by
    simp only [ltL, Bool.or_eq_true, decide_eq_true_eq, Bool.and_eq_true, beq_iff_eq] at *
    rcases Int.lt_trichotomy x y with q | rfl | q
    · exact .inl (.inl q)
    · rcases h with h | ⟨rfl, h⟩
      · exact .inr (.inl h)
      · exact (ltL_neg a b c h).imp (fun z => .inr ⟨rfl, z⟩) fun z => .inr ⟨rfl, z⟩
    · rcases h with h | ⟨rfl, h⟩
      · exact .inr (.inl (by omega))
      · exact .inr (.inl q)
theorem ltL_total : ∀ a b : List Int, ltL a b = false → ltL b a = false → a = b
  | [], [], _, _ => rfl
  | [], _ :: _, h, _ => by cases h
  | _ :: _, [], _, h => by cases h
  | x :: a, y :: b, h1, h2 => by
    simp only [ltL, Bool.or_eq_false_iff, decide_eq_false_iff_not, Bool.and_eq_false_iff] at *
    obtain rfl : x = y := by omega
    simp only [beq_self_eq_true, Bool.true_eq_false, false_or] at *
    rw [ltL_total a b h1.2 h2.2]
theorem ltL_asymm {a b : List Int} (h : ltL a b = true) : ltL b a = false := by
  cases q : ltL b a with
  | false => rfl
  | true => have := ltL_trans _ _ _ h q; rw [ltL_irrefl] at this; cases this
theorem ltL_take : ∀ (l : Nat) (a b : List Int), ltL (a.take l) (b.take l) = true → ltL a b = true
  | 0, a, b, h => by simp [ltL] at h
  | l + 1, a, [], h => by simp [ltL_nil'] at h
  | l + 1, [], b :: bs, h => rfl
  | l + 1, a :: as, b :: bs, h => by
    simp only [List.take_succ_cons, ltL, Bool.or_eq_true, decide_eq_true_eq, Bool.and_eq_true, beq_iff_eq] at *
    exact h.imp id fun z => ⟨z.1, ltL_take l as bs z.2⟩
theorem ltL_snoc (c : Int) : ∀ (a b : List Int), a.length = b.length → ltL (a ++ [c]) (b ++ [c]) = ltL a b
  | [], [], _ => by simp [ltL]
  | [], _ :: _, h => by cases h
  | _ :: _, [], h => by cases h
  | x :: a, y :: b, h => by
    simp only [List.cons_append, ltL]
    rw [ltL_snoc c a b (by simpa using h)]
/- cuts of a sorted row -/
theorem take_count {α : Type} {P : α → Bool} : ∀ {l : List α}, l.Pairwise (fun a b => P b = true → P a = true) → l.take (l.countP P) = l.filter P
  | [], _ => rfl
  | x :: l, h => by
    rw [List.pairwise_cons] at h
    cases hx : P x with
    | true => rw [List.countP_cons_of_pos hx, List.filter_cons_of_pos hx, List.take_succ_cons, take_count h.2]
    | false =>
      have e : l.filter P = [] := List.filter_eq_nil_iff.mpr fun y hy hp => by rw [h.1 y hy hp] at hx; cases hx
      rw [List.filter_cons_of_neg (by simp [hx]), e, List.countP_cons_of_neg (by simp [hx]), List.countP_eq_length_filter, e]
      rfl
theorem at_count {f : Nat → List Int} {k : Nat} : ∀ {l : List Nat}, l.Pairwise (fun a b => ltL (f a) (f b) = true) → k ∈ l → l[l.countP fun a => ltL (f a) (f k)]? = some k
  | [], _, h => by cases h
  | x :: l, h, hk => by
    rw [List.pairwise_cons] at h
    rcases List.mem_cons.mp hk with rfl | hk
    · have e : l.countP (fun a => ltL (f a) (f k)) = 0 := List.countP_eq_zero.mpr fun a ha => by rw [ltL_asymm (h.1 a ha)]; simp
      rw [List.countP_cons_of_neg (by simp [ltL_irrefl]), e]; rfl
    · rw [List.countP_cons_of_pos (p := fun a => ltL (f a) (f k)) (h.1 k hk), List.getElem?_cons_succ]
      exact at_count h.2 hk
section
variable (m : List Int)
noncomputable def rotL (k : Nat) : List Int := m.drop k ++ m.take k
noncomputable def prd (k : Nat) : Nat := if k = 0 then m.length - 1 else k - 1
noncomputable def chr_ (k : Nat) : Int := m.getD (prd m k) 0
noncomputable def cntP (P : List Int → Bool) : Nat := (List.range m.length).countP fun k => P (rotL m k)
structure SortedQ (q : List Nat) : Prop where
  perm : q.Perm (List.range m.length)
  srt : q.Pairwise fun a b => ltL (rotL m a) (rotL m b) = true
noncomputable def colOf (q : List Nat) : List Int := q.map (chr_ m)
noncomputable def placeL (col : List Int) (c : Int) (a : Nat) : Nat := col.countP (fun x => decide (x < c)) + (col.take a).countP (fun x => x == c)
noncomputable def DownP (P : List Int → Bool) : Prop := ∀ a b : List Int, ltL a b = true → P b = true → P a = true
variable {m}
theorem rot_prd {k : Nat} (h : k < m.length) : ∃ T, rotL m k = T ++ [chr_ m k] ∧ rotL m (prd m k) = chr_ m k :: T ∧ T.length + 1 = m.length := by
  unfold chr_ prd
  by_cases hk : k = 0
  · subst hk
    rw [if_pos rfl]
    have hm : m.length - 1 < m.length := by omega
    have e : m.getD (m.length - 1) 0 = m[m.length - 1] := by simp [hm]
    refine ⟨m.take (m.length - 1), ?_, ?_, by simp; omega⟩
    · rw [e, rotL, List.drop_zero, List.take_zero, List.append_nil, List.take_append_getElem hm, show m.length - 1 + 1 = m.length by omega, List.take_length]
    · rw [e, rotL, List.drop_eq_getElem_cons hm, show m.length - 1 + 1 = m.length by omega, List.drop_length]
      rfl
  · rw [if_neg hk]
    have hm : k - 1 < m.length := by omega
    have e : m.getD (k - 1) 0 = m[k - 1] := by simp [hm]
    refine ⟨m.drop k ++ m.take (k - 1), ?_, ?_, by simp; omega⟩
    · rw [e, rotL, List.append_assoc, List.take_append_getElem hm, show k - 1 + 1 = k by omega]
    · rw [e, rotL, List.drop_eq_getElem_cons hm, show k - 1 + 1 = k by omega]
      rfl
theorem prd_perm {f : Nat → Bool} (h : 0 < m.length) : (List.range m.length).countP (fun k => f (prd m k)) = (List.range m.length).countP f := by
  obtain ⟨n, e⟩ : ∃ n, m.length = n + 1 := ⟨m.length - 1, by omega⟩
  have e2 : (List.range (n + 1)).map (prd m) = n :: List.range n := by
    rw [List.range_succ_eq_map, List.map_cons, List.map_map]
    have a1 : prd m 0 = n := by unfold prd; rw [if_pos rfl, e]; rfl
    have a2 : (prd m ∘ Nat.succ) = id := by funext k; show prd m (k + 1) = k; unfold prd; rw [if_neg (by omega)]; rfl
    rw [a1, a2, List.map_id]
  have e3 : (List.range (n + 1)).countP (fun k => f (prd m k)) = ((List.range (n + 1)).map (prd m)).countP f := by rw [List.countP_map]; rfl
  rw [e, e3, e2, List.range_succ]
  exact List.Perm.countP_eq _ (List.perm_append_comm (l₁ := [n]))
/-- one step back -/
theorem place_step {q : List Nat} (S : SortedQ m q) (h0 : 0 < m.length) {P g : List Int → Bool} (hd : DownP P) {c : Int} (hg : ∀ x T, T.length + 1 = m.length → g (x :: T) = (decide (x < c) || (x == c && P (T ++ [c])))) :
    placeL (colOf m q) c (cntP m P) = cntP m g := by
  have e1 : (colOf m q).countP (fun x => decide (x < c)) = (List.range m.length).countP fun k => decide (chr_ m k < c) := by
    rw [colOf, List.countP_map]
    exact S.perm.countP_eq _
  have e2 : ((colOf m q).take (cntP m P)).countP (fun x => x == c) = (List.range m.length).countP fun k => P (rotL m k) && chr_ m k == c := by
    have e3 : cntP m P = q.countP fun k => P (rotL m k) := (S.perm.countP_eq _).symm
    rw [colOf, ← List.map_take, List.countP_map, e3, take_count (S.srt.imp fun h hp => hd _ _ h hp), List.countP_filter]
    rw [← S.perm.countP_eq]
    exact List.countP_congr fun k _ => by simp [and_comm]
  have e4 : cntP m g = (List.range m.length).countP fun k => decide (chr_ m k < c) || (P (rotL m k) && chr_ m k == c) := by
    rw [cntP, ← prd_perm h0]
    refine List.countP_congr fun k hk => ?_
    obtain ⟨T, t1, t2, t3⟩ := rot_prd (List.mem_range.mp hk)
    rw [t2, hg _ _ t3]
    by_cases hc : chr_ m k = c
    · rw [t1, hc]; simp
    · simp [hc]
  rw [e4, placeL, e1, e2]
  generalize List.range m.length = l
  induction l with
  | nil => rfl
  | cons k l ih =>
    simp only [List.countP_cons]
    rw [← ih]
    by_cases h1 : chr_ m k < c
    · have : (chr_ m k == c) = false := by simp; omega
      simp [h1, this]; omega
    · simp [h1]; split <;> omega
/- the search -/
noncomputable def Plo (w R : List Int) : Bool := ltL (R.take w.length) w
noncomputable def Phi (w R : List Int) : Bool := !ltL w (R.take w.length)
theorem down_lo (w : List Int) : DownP (Plo w) := fun a b h hp => by
  unfold Plo at *
  rcases ltL_neg _ (a.take w.length) _ hp with q | q
  · have := ltL_take _ _ _ q
    rw [ltL_asymm h] at this; cases this
  · exact q
theorem down_hi (w : List Int) : DownP (Phi w) := fun a b h hp => by
  unfold Phi at *
  cases q : ltL w (a.take w.length) with
  | false => rfl
  | true =>
    rcases ltL_neg _ (b.take w.length) _ q with q | q
    · rw [q] at hp; cases hp
    · have := ltL_take _ _ _ q
      rw [ltL_asymm h] at this; cases this
theorem lo_step {q : List Nat} (S : SortedQ m q) {w : List Int} {c : Int} (hw : w.length < m.length) : placeL (colOf m q) c (cntP m (Plo w)) = cntP m (Plo (c :: w)) :=
  place_step S (by omega) (down_lo w) fun x T hT => by
    unfold Plo
    rw [List.take_append_of_le_length (by omega)]
    rfl
theorem hi_step {q : List Nat} (S : SortedQ m q) {w : List Int} {c : Int} (hw : w.length < m.length) : placeL (colOf m q) c (cntP m (Phi w)) = cntP m (Phi (c :: w)) :=
  place_step S (by omega) (down_hi w) fun x T hT => by
    unfold Phi
    rw [List.take_append_of_le_length (by omega)]
    show (!(decide (c < x) || (c == x && ltL w (T.take w.length)))) = _
    rcases Int.lt_trichotomy x c with h | rfl | h
    · have a1 : ¬ c < x := by omega
      have a2 : (c == x) = false := by simp; omega
      simp [h, a1, a2]
    · simp
    · have a1 : ¬ x < c := by omega
      have a2 : (x == c) = false := by simp; omega
      simp [h, a1, a2]
theorem lo_nil : cntP m (Plo []) = 0 := List.countP_eq_zero.mpr fun k _ => by simp [Plo, ltL]
theorem hi_nil : cntP m (Phi []) = m.length := by
  have := (List.countP_eq_length (p := fun k => Phi [] (rotL m k)) (l := List.range m.length)).mpr fun k _ => by simp [Phi, ltL]
  rw [cntP, this, List.length_range]
theorem hi_lo (w : List Int) : cntP m (Phi w) = cntP m (Plo w) + cntP m fun R => R.take w.length == w := by
  unfold cntP
  dsimp only
  generalize List.range m.length = l
  induction l with
  | nil => rfl
  | cons k l ih =>
    simp only [List.countP_cons]
    rw [ih]
    have key : ∀ R : List Int, (if Phi w R = true then 1 else 0) = (if Plo w R = true then 1 else 0) + (if (R.take w.length == w) = true then 1 else 0) := fun R => by
      unfold Phi Plo
      cases h1 : ltL (R.take w.length) w with
      | true =>
        have h2 := ltL_asymm h1
        have h3 : (R.take w.length == w) = false := by
          simp only [beq_eq_false_iff_ne]
          intro e; rw [e, ltL_irrefl] at h1; cases h1
        rw [h2, h3]; rfl
      | false =>
        cases h2 : ltL w (R.take w.length) with
        | true =>
          have h3 : (R.take w.length == w) = false := by
            simp only [beq_eq_false_iff_ne]
            intro e; rw [e, ltL_irrefl] at h2; cases h2
          rw [h3]; rfl
        | false => rw [ltL_total _ _ h1 h2]; simp
    rw [key]; omega
end
/-- the turnings in order -/
noncomputable def srtQ (m : List Int) : List Nat := (List.range m.length).mergeSort fun a b => !ltL (rotL m b) (rotL m a)
theorem srtQ_perm (m : List Int) : (srtQ m).Perm (List.range m.length) := List.mergeSort_perm _ _
theorem srtQ_le (m : List Int) : (srtQ m).Pairwise fun a b => ltL (rotL m b) (rotL m a) = false := by
  have h := List.pairwise_mergeSort (le := fun a b => !ltL (rotL m b) (rotL m a)) (fun a b c h1 h2 => by
    simp only [Bool.not_eq_true'] at *
    cases h : ltL (rotL m c) (rotL m a) with
    | false => rfl
    | true => rcases ltL_neg _ (rotL m b) _ h with q | q
              · rw [h2] at q; cases q
              · rw [h1] at q; cases q) (fun a b => by
    cases h : ltL (rotL m b) (rotL m a) with
    | false => simp
    | true => simp [ltL_asymm h]) (List.range m.length)
  exact h.imp fun h => by simpa using h
theorem srtQ_sorted {m : List Int} (inj : ∀ i j, i < m.length → j < m.length → rotL m i = rotL m j → i = j) : SortedQ m (srtQ m) := by
  refine ⟨srtQ_perm m, ?_⟩
  have nd : (srtQ m).Nodup := (srtQ_perm m).nodup_iff.mpr List.nodup_range
  have lt : ∀ {a}, a ∈ srtQ m → a < m.length := fun h => List.mem_range.mp ((srtQ_perm m).mem_iff.mp h)
  refine ((srtQ_le m).and (List.nodup_iff_pairwise_ne.mp nd)).imp_of_mem fun {a b} ha hb h => ?_
  cases q : ltL (rotL m a) (rotL m b) with
  | true => rfl
  | false => exact absurd (inj a b (lt ha) (lt hb) (ltL_total _ _ q h.1)) h.2
theorem srtQ_uniq {m : List Int} (inj : ∀ i j, i < m.length → j < m.length → rotL m i = rotL m j → i = j) {q : List Nat} (hp : q.Perm (List.range m.length)) (hs : q.Pairwise fun a b => ltL (rotL m b) (rotL m a) = false) : q = srtQ m := by
  refine List.Perm.eq_of_pairwise (le := fun a b => ltL (rotL m b) (rotL m a) = false) (fun a b ha hb h1 h2 => ?_) hs (srtQ_le m) (hp.trans (srtQ_perm m).symm)
  have lt : ∀ {a}, a ∈ List.range m.length → a < m.length := fun h => List.mem_range.mp h
  exact inj a b (lt (hp.mem_iff.mp ha)) (lt ((srtQ_perm m).mem_iff.mp hb)) (ltL_total _ _ h2 h1)
/- the row with its mark -/
section
variable {row : List Int} {mk : Int}
theorem rot_row {k : Nat} (h : k ≤ row.length) : rotL (row ++ [mk]) k = row.drop k ++ (mk :: row.take k) := by
  unfold rotL
  rw [List.drop_append_of_le_length h, List.take_append_of_le_length h, List.append_assoc]
  rfl
theorem found_eq {w : List Int} (hw : ∀ x ∈ w, x ≠ mk) (h1 : 0 < w.length) : (cntP (row ++ [mk]) fun R => R.take w.length == w) = (List.range row.length).countP fun k => (row.drop k).take w.length == w := by
  have step : ∀ k, k ≤ row.length → ((rotL (row ++ [mk]) k).take w.length == w) = ((row.drop k).take w.length == w) := fun k hk => by
    rw [rot_row hk]
    by_cases hl : w.length ≤ row.length - k
    · rw [List.take_append_of_le_length (by simp; omega)]
    · have a1 : ((row.drop k).take w.length == w) = false := by
        simp only [beq_eq_false_iff_ne]
        intro e
        have := congrArg List.length e
        simp at this
        omega
      have a2 : ((row.drop k ++ (mk :: row.take k)).take w.length == w) = false := by
        simp only [beq_eq_false_iff_ne]
        intro e
        have hm : mk ∈ (row.drop k ++ (mk :: row.take k)).take w.length := by
          rw [List.take_append]
          refine List.mem_append_right _ ?_
          rw [List.length_drop, show w.length - (row.length - k) = (w.length - (row.length - k) - 1) + 1 by omega, List.take_succ_cons]
          exact List.mem_cons_self
        rw [e] at hm
        exact hw mk hm rfl
      rw [a1, a2]
  unfold cntP
  rw [List.length_append, show [mk].length = 1 from rfl, List.range_succ, List.countP_append]
  have e0 : List.countP (fun k => (rotL (row ++ [mk]) k).take w.length == w) [row.length] = 0 := by
    refine List.countP_eq_zero.mpr fun k hk => ?_
    rw [List.mem_singleton.mp hk, step _ (Nat.le_refl _)]
    simp only [List.drop_length, List.take_nil, beq_iff_eq]
    intro e
    rw [← e] at h1
    exact absurd h1 (Nat.lt_irrefl 0)
  rw [e0, Nat.add_zero]
  exact List.countP_congr fun k hk => by rw [← step k (Nat.le_of_lt (List.mem_range.mp hk))]
theorem rot_inj (hm : ∀ x ∈ row, x ≠ mk) : ∀ i j, i < (row ++ [mk]).length → j < (row ++ [mk]).length → rotL (row ++ [mk]) i = rotL (row ++ [mk]) j → i = j := fun i j hi hj h => by
  simp only [List.length_append, List.length_cons, List.length_nil] at hi hj
  have key : ∀ k, k ≤ row.length → (rotL (row ++ [mk]) k).idxOf mk = row.length - k := fun k hk => by
    rw [rot_row hk, List.idxOf_append, if_neg (fun h => hm mk (List.mem_of_mem_drop h) rfl), List.idxOf_cons_self]
    simp
  have := congrArg (List.idxOf mk) h
  rw [key i (by omega), key j (by omega)] at this
  omega
/- the way back -/
noncomputable def cntLt (m : List Int) (k : Nat) : Nat := cntP m fun R => ltL R (rotL m k)
theorem back_step {m : List Int} {q : List Nat} (S : SortedQ m q) {k : Nat} (hk : k < m.length) : placeL (colOf m q) (chr_ m k) (cntLt m k) = cntLt m (prd m k) := by
  obtain ⟨T, t1, t2, t3⟩ := rot_prd hk
  refine place_step S (by omega) (fun a b h hp => ltL_trans _ _ _ h hp) fun x T' hT => ?_
  rw [t2, t1, ltL_snoc _ _ _ (by omega)]
  rfl
theorem col_at {m : List Int} {q : List Nat} (S : SortedQ m q) {k : Nat} (hk : k < m.length) : (colOf m q)[cntLt m k]? = some (chr_ m k) := by
  have h := at_count (f := rotL m) S.srt (S.perm.mem_iff.mpr (List.mem_range.mpr hk))
  unfold colOf cntLt cntP
  rw [List.getElem?_map, ← S.perm.countP_eq, h]
  rfl
theorem back_zero (hm : ∀ x ∈ row, mk < x) : cntLt (row ++ [mk]) row.length = 0 := by
  refine List.countP_eq_zero.mpr fun k hk => ?_
  have hk : k < row.length + 1 := by simpa using hk
  by_cases h : k = row.length
  · show ¬ ltL (rotL (row ++ [mk]) k) (rotL (row ++ [mk]) row.length) = true
    rw [h, ltL_irrefl]; simp
  · show ¬ ltL (rotL (row ++ [mk]) k) (rotL (row ++ [mk]) row.length) = true
    have hlt : k < row.length := by omega
    rw [rot_row (by omega), rot_row (Nat.le_refl _), List.drop_length, List.nil_append, List.drop_eq_getElem_cons hlt]
    have := hm row[k] (List.getElem_mem hlt)
    have a1 : ¬ row[k] < mk := by omega
    have a2 : (row[k] == mk) = false := by simp; omega
    rw [List.cons_append, List.take_length]
    show ¬ (decide (row[k] < mk) || (row[k] == mk && ltL _ _)) = true
    rw [decide_eq_false a1, a2]
    simp
theorem chr_row {k : Nat} (h : k < row.length) : chr_ (row ++ [mk]) (k + 1) = row.getD k 0 := by
  unfold chr_ prd
  rw [if_neg (by omega), Nat.add_sub_cancel]
  simp [List.getElem?_append_left h]
theorem chr_zero : chr_ (row ++ [mk]) 0 = mk := by
  unfold chr_ prd
  rw [if_pos rfl]
  simp
end
end Mine
end
section
open PySem PySem.W PyProof.Rows
namespace Mine
set_option maxRecDepth 100000
/- the defs, by number: 0 countOf, 1 _law_column, 2 _law_place, 3 law -/
noncomputable def fname : Nat → Str
  | 0 => PySem.Str.ofString "countOf"
  | 1 => PySem.Str.ofString "_law_column"
  | 2 => PySem.Str.ofString "_law_place"
  | 3 => PySem.Str.ofString "law"
  | _ => PySem.Str.ofString ""
/- countOf; slots: 0 a, 1 b, 2 count, 3 i -/
noncomputable def countOf_ns : List Str := [PySem.Str.ofString "a", PySem.Str.ofString "b", PySem.Str.ofString "count", PySem.Str.ofString "i"]
noncomputable def countOf_b1 : PSs :=
 .cons (.ite (.isOrEq 3 1)
 (.cons (.aug 2 .Add (.const (.int 1))) .nil)
 (.nil)) .nil
noncomputable def countOf_p : PSs :=
 .cons (.assign 2 (.const (.int 0)))
 (.cons (.for_ 3 (.name 0) countOf_b1)
 (.cons (.ret (.name 2)) .nil))
/- _law_column; slots: 0 row, 1 marked, 2 starts -/
noncomputable def law_column_ns : List Str := [PySem.Str.ofString "row", PySem.Str.ofString "marked", PySem.Str.ofString "starts"]
noncomputable def col_p1 : PS := .assign 1 (.bin .Add (.name 0) (.list (.cons (.bin .Sub (.bcall .min (.cons (.bin .Add (.name 0) (.list (.cons (.const (.int 0)) .nil))) .nil)) (.const (.int 1))) .nil)))
noncomputable def col_it : PE := .bcall .range (.cons (.bcall .len (.cons (.name 1) .nil)) .nil)
noncomputable def col_p3 : PS := .ret (.comp [1] (.sub (.name 1) (.bin .Sub (.name 3) (.const (.int 1)))) (.name 2) (.nil))
noncomputable def sMarked : Str := PySem.Str.ofString "marked"
noncomputable def sK : Str := PySem.Str.ofString "k"
noncomputable def colIt : Expr := .Call (.Name (PySem.Str.ofString "range") ⟨11, 20, 11, 25⟩) [.Call (.Name (PySem.Str.ofString "len") ⟨11, 26, 11, 29⟩) [.Name sMarked ⟨11, 30, 11, 36⟩] [] ⟨11, 26, 11, 37⟩] [] ⟨11, 20, 11, 38⟩
noncomputable def colParams : Arguments := { posonlyargs := [], args := [{ arg := sK, annotation := none, pos := ⟨11, 51, 11, 52⟩ }], vararg := none, kwonlyargs := [], kw_defaults := [], kwarg := none, defaults := [] }
noncomputable def colScope : Scope := { kind := .function, names := [(sK, .local), (sMarked, .free)], isGenerator := false, isCoroutine := false, more := [] }
noncomputable def colCall : Expr := .Call (.Name (PySem.Str.ofString "sorted") ⟨11, 13, 11, 19⟩) [colIt] [⟨some (PySem.Str.ofString "key"), .Lambda colParams (lamE sMarked sK ⟨11, 54, 11, 60⟩ ⟨11, 61, 11, 62⟩ ⟨11, 61, 11, 63⟩ ⟨11, 54, 11, 64⟩ ⟨11, 67, 11, 73⟩ ⟨11, 75, 11, 76⟩ ⟨11, 74, 11, 76⟩ ⟨11, 67, 11, 77⟩ ⟨11, 54, 11, 77⟩) colScope ⟨11, 44, 11, 77⟩, ⟨11, 40, 11, 77⟩⟩] ⟨11, 13, 11, 78⟩
noncomputable def colS2 : Stmt := .Assign [.Name (PySem.Str.ofString "starts") ⟨11, 4, 11, 10⟩] colCall ⟨11, 4, 11, 78⟩
/-- a row with its mark -/
noncomputable def mkd (row : List Int) : List Int := row ++ [((minI (row ++ [0])).getD 0) - 1]
/-- what _law_column does; P0: the table of its code -/
noncomputable def colF (P0 : Addr) (σ : Store) (lo : Nat) (args : List AV) : ER := match args, σ with
  | [.lst xs], some (.tab P true) :: rest => (match ints? xs with
    | some row => if P = P0 ∧ lo = 0 ∧ row.length ≤ 60 then .ok (.av (.lst ((colOf (mkd row) (srtQ (mkd row))).map .int))) (some (.tab P false) :: rest) else .stuck
    | none => .stuck)
  | _, _ => .stuck
/- _law_place; slots: 0 column, 1 thing, 2 at -/
noncomputable def law_place_ns : List Str := [PySem.Str.ofString "column", PySem.Str.ofString "thing", PySem.Str.ofString "at"]
noncomputable def law_place_p : PSs :=
 .cons (.ret (.bin .Add (.bcall .len (.cons (.comp [1] (.name 3) (.name 0) (.cons (.cmp .Lt (.name 3) (.name 1)) .nil)) .nil)) (.call 0 (.cons (.slice (.name 0) (.const .none) (.name 2) (.const .none)) (.cons (.name 1) .nil))))) .nil
/- law; slots: 0 script, 1 way, 2 row, 3 column, 4 told, 5 at, 6 turn, 7 end, 8 low, 9 high, 10 start, 11 part -/
noncomputable def law_ns : List Str := [PySem.Str.ofString "script", PySem.Str.ofString "way", PySem.Str.ofString "row", PySem.Str.ofString "column", PySem.Str.ofString "told", PySem.Str.ofString "at", PySem.Str.ofString "turn", PySem.Str.ofString "end", PySem.Str.ofString "low", PySem.Str.ofString "high", PySem.Str.ofString "start", PySem.Str.ofString "part"]
noncomputable def law_b2 : PSs :=
 .cons (.unpack2 8 9 (.call 2 (.cons (.name 3) (.cons (.sub (.name 2) (.name 10)) (.cons (.name 8) .nil)))) (.call 2 (.cons (.name 3) (.cons (.sub (.name 2) (.name 10)) (.cons (.name 9) .nil)))))
 (.cons (.assign 11 (.slice (.name 2) (.name 10) (.bin .Add (.name 7) (.const (.int 1))) (.const .none)))
 (.cons (.ite (.cmp .NotEq (.bin .Sub (.name 9) (.name 8)) (.bcall .len (.cons (.comp [2, 11] (.name 12) (.bcall .range (.cons (.bcall .len (.cons (.name 2) .nil)) .nil)) (.cons (.cmp .Eq (.slice (.name 2) (.name 12) (.bin .Add (.name 12) (.bcall .len (.cons (.name 11) .nil))) (.const .none)) (.name 11)) .nil)) .nil)))
 (.cons (.ret (.const (.bool false))) .nil)
 (.nil)) .nil))
noncomputable def law_b1 : PSs :=
 .cons (.unpack2 8 9 (.const (.int 0)) (.bcall .len (.cons (.name 3) .nil)))
 (.cons (.for_ 10 (.bcall .range (.cons (.name 7) (.cons (.un .USub (.const (.int 1))) (.cons (.un .USub (.const (.int 1))) .nil)))) law_b2) .nil)
noncomputable def law_b3 : PSs :=
 .cons (.ometh 4 .append (.cons (.sub (.name 3) (.name 5)) .nil) none)
 (.cons (.assign 5 (.call 2 (.cons (.name 3) (.cons (.sub (.name 3) (.name 5)) (.cons (.name 5) .nil))))) .nil)
noncomputable def law_p : PSs :=
 .cons (.assign 0 (.slice (.name 0) (.const .none) (.const (.int 25)) (.const .none)))
 (.cons (.assign 1 (.ife (.name 0) (.bin .Mod (.sub (.name 0) (.const (.int 0))) (.const (.int 4))) (.const (.int 0))))
 (.cons (.assign 2 (.comp [1] (.ife (.cmp .Gt (.name 1) (.const (.int 0))) (.bin .Mod (.name 12) (.bin .Add (.name 1) (.const (.int 1)))) (.name 12)) (.slice (.name 0) (.const (.int 1)) (.const .none) (.const .none)) (.nil)))
 (.cons (.assign 3 (.call 1 (.cons (.name 2) .nil)))
 (.cons (.ownl 4 (.nil))
 (.cons (.assign 5 (.const (.int 0)))
 (.cons (.for_ 6 (.name 2) law_b3)
 (.cons (.ite (.bop .Or (.cons (.cmp .NotEq (.slice (.name 4) (.const .none) (.const .none) (.un .USub (.const (.int 1)))) (.name 2)) (.cons (.cmp .In (.sub (.name 3) (.name 5)) (.name 2)) .nil)))
 (.cons (.ret (.const (.bool false))) .nil)
 (.nil))
 (.cons (.for_ 7 (.bcall .range (.cons (.bcall .len (.cons (.name 2) .nil)) .nil)) law_b1)
 (.cons (.ret (.const (.bool true))) .nil)))))))))
noncomputable def frees : List Str := ["sorted", "min", "len", "range"]
noncomputable def cal0 : Cal := fun _ _ _ _ => .stuck
theorem calls0 (c : Cx) (fname : Nat → Str) : CallsOk c 0 cal0 fname := ⟨fun _ _ _ _ h => absurd rfl h⟩
/-- level 1: countOf -/
noncomputable def cal1 : Cal := ext opsB cal0 0 2 countOf_ns countOf_p
theorem cal1_hit (σ : Store) (lo : Nat) (args : List AV) (h : args.length = 2) : cal1 σ lo 0 args = fnRes (pxs opsB cal0 true (st0 args countOf_ns.length σ lo) countOf_p) := ext_hit h
theorem calls1 {c : Cx} (hnb : NoneBooked c.h0) (hfree : ∀ x ∈ frees, c.mg x = none) (D0 : DefIs c frees fname (fname 0) countOf_ns 2 countOf_p) : CallsOk c 2 cal1 fname := ext_ok (opsB_ok c hnb) (calls0 c fname) hfree D0
/-- level 2: _law_place -/
noncomputable def cal2 : Cal := ext opsB cal1 2 3 law_place_ns law_place_p
theorem cal2_hit (σ : Store) (lo : Nat) (args : List AV) (h : args.length = 3) : cal2 σ lo 2 args = fnRes (pxs opsB cal1 true (st0 args law_place_ns.length σ lo) law_place_p) := ext_hit h
theorem calls2 {c : Cx} (hnb : NoneBooked c.h0) (hfree : ∀ x ∈ frees, c.mg x = none) (D0 : DefIs c frees fname (fname 0) countOf_ns 2 countOf_p) (D2 : DefIs c frees fname (fname 2) law_place_ns 3 law_place_p) : CallsOk c 4 cal2 fname := ext_ok (opsB_ok c hnb) (calls1 hnb hfree D0) hfree D2
/-- level 3: _law_column -/
noncomputable def cal3 (P0 : Addr) : Cal := fun σ lo f args => if f = 1 then colF P0 σ lo args else cal2 σ lo f args
theorem cal3_1 (P0 : Addr) (σ : Store) (lo : Nat) (args : List AV) : cal3 P0 σ lo 1 args = colF P0 σ lo args := if_pos rfl
theorem cal3_2 (P0 : Addr) (σ : Store) (lo : Nat) (args : List AV) : cal3 P0 σ lo 2 args = cal2 σ lo 2 args := if_neg (by decide)
noncomputable def lawRes (P0 : Addr) (ns : List Int) : ER := fnRes (pxs opsB (cal3 P0) true (st0 [.lst (ns.map .int)] law_ns.length [some (.tab P0 true)] 0) law_p)
end Mine
end
section
open PySem PySem.W PyProof.Rows
namespace Mine
theorem pick_range {α : Type} (xs : List α) (a : Nat) : ∀ m : Nat, ((List.range m).map (a + ·)).filterMap (xs[·]?) = (xs.drop a).take m := by
  intro m
  induction m with
  | zero => simp
  | succ m ih =>
    rw [List.range_succ, List.map_append, List.filterMap_append, ih, List.take_succ]
    rw [List.getElem?_drop]
    congr 1
theorem pickL_plain (xs : List AV) (lo hi : Option Int) : pickL xs lo hi none = (xs.drop (lo.elim 0 (clipAt xs.length))).take (hi.elim xs.length (clipAt xs.length) - lo.elim 0 (clipAt xs.length)) := by
  unfold pickL
  rw [sliceBounds_plain]
  simp only
  rw [sliceRange_one, pick_range]
theorem clip_nat (n k : Nat) : clipAt n (k : Int) = min k n := clipAt_nat n k
theorem pick_take (xs : List AV) (k : Nat) : pickL xs none (some (k : Int)) none = xs.take k := by
  rw [pickL_plain]
  simp only [Option.elim_none, Option.elim_some, List.drop_zero, Nat.sub_zero, clip_nat]
  by_cases h : k ≤ xs.length
  · rw [Nat.min_eq_left h]
  · rw [Nat.min_eq_right (by omega), List.take_length, List.take_of_length_le (by omega)]
theorem pick_drop (xs : List AV) (k : Nat) : pickL xs (some (k : Int)) none none = xs.drop k := by
  rw [pickL_plain]
  simp only [Option.elim_none, Option.elim_some, clip_nat]
  by_cases h : k ≤ xs.length
  · rw [Nat.min_eq_left h, List.take_of_length_le (by simp)]
  · rw [Nat.min_eq_right (by omega), List.drop_length, List.take_nil, List.drop_of_length_le (by omega)]
theorem sl_take (xs : List AV) (k : Nat) : sliceL xs .none (.int k) .none = .ok (.lst (xs.take k)) := by
  show (if (none : Option Int) = some 0 then Res.stuck else .ok (.lst (pickL xs none (some (k : Int)) none))) = _
  rw [if_neg (by simp), pick_take]
theorem sl_drop (xs : List AV) (k : Nat) : sliceL xs (.int k) .none .none = .ok (.lst (xs.drop k)) := by
  show (if (none : Option Int) = some 0 then Res.stuck else .ok (.lst (pickL xs (some (k : Int)) none none))) = _
  rw [if_neg (by simp), pick_drop]
theorem idxL_get {xs : List AV} {k : Nat} {x : AV} (h : xs[k]? = some x) : idxL xs (k : Int) = .ok x := idxL_nat (by omega) (by rw [Int.toNat_natCast]; exact h)
end Mine
end
section
open PySem PySem.W PyProof.Rows
namespace Mine
set_option maxRecDepth 100000
/- the words of 08, for a name that stands for opsB -/
noncomputable abbrev iL (l : List Int) : List AV := l.map .int
theorem size_down (e : Nat) : Builtin.Range.rangeSize (e : Int) (-1) (-1) = ((e + 1 : Nat) : Int) := by
  unfold Builtin.Range.rangeSize
  rw [if_neg (by decide), if_pos (by omega)]
  show ((e : Int) - -1 - 1) / 1 + 1 = _
  rw [Int.ediv_one]; omega
theorem fm_map {α β : Type} {f : α → Option β} {g : α → β} : ∀ {l : List α}, (∀ x ∈ l, f x = some (g x)) → l.filterMap f = l.map g
  | [], _ => rfl
  | x :: l, h => by rw [List.filterMap_cons, h x List.mem_cons_self, List.map_cons, fm_map fun y hy => h y (List.mem_cons_of_mem _ hy)]
theorem pick_rev (l : List Int) : pickL (iL l) none none (some (-1)) = iL l.reverse := by
  unfold iL
  rw [pickL_ints]
  congr 1
  unfold pickI
  have e : sliceBounds none none (some (-1)) l.length = ((l.length : Int) - 1, -1, -1) := rfl
  rw [e]
  dsimp only
  rw [krv_sliceRange, List.filterMap_map]
  apply List.ext_getElem?
  intro i
  have key : (List.range l.length).filterMap ((fun x => l[x]?) ∘ fun k => l.length - 1 - k) = (List.range l.length).map fun k => l.getD (l.length - 1 - k) 0 := by
    refine fm_map fun k hk => ?_
    have hk := List.mem_range.mp hk
    have : l.length - 1 - k < l.length := by omega
    show l[l.length - 1 - k]? = some (l.getD (l.length - 1 - k) 0)
    rw [List.getD_eq_getElem?_getD, List.getElem?_eq_getElem this]; rfl
  rw [key, List.getElem?_map]
  by_cases hi : i < l.length
  · rw [List.getElem?_range hi, List.getElem?_reverse hi]
    have : l.length - 1 - i < l.length := by omega
    simp [List.getD, this]
  · rw [List.getElem?_eq_none (by simpa using hi), List.getElem?_eq_none (by simpa using hi)]; rfl
theorem allZ_ints : ∀ (a b : List Int), a.length = b.length → allZ (itm (eqN 2)) (iL a) (iL b) = some (a == b)
  | [], [], _ => rfl
  | [], _ :: _, h => by cases h
  | _ :: _, [], h => by cases h
  | x :: a, y :: b, h => by
    have ih := allZ_ints a b (by simpa using h)
    have e : itm (eqN 2) (.int x) (.int y) = some (x == y) := rfl
    show (match itm (eqN 2) (.int x) (.int y) with | some r => (allZ (itm (eqN 2)) (iL a) (iL b)).map (r && ·) | none => none) = _
    rw [e, ih]
    show some ((x == y) && (a == b)) = _
    rw [List.cons_beq_cons]
theorem eqL_ints (a b : List Int) : eqN 3 (.lst (iL a)) (.lst (iL b)) = some (a == b) := by
  show (if (iL a).length = (iL b).length then allZ (itm (eqN 2)) (iL a) (iL b) else some false) = _
  rw [List.length_map, List.length_map]
  by_cases h : a.length = b.length
  · rw [if_pos h, allZ_ints a b h]
  · rw [if_neg h]
    have : (a == b) = false := beq_eq_false_iff_ne.mpr fun e => h (by rw [e])
    rw [this]
theorem items_down (e : Nat) (h : e ≤ 1000) : itemsV (.range (e : Int) (-1) (-1)) = some ((List.range (e + 1)).map fun (i : Nat) => .int ((e : Int) - i)) := by
  have hz := size_down e
  have hs : Builtin.Range.small (e : Int) (-1) (-1) = true := by
    unfold Builtin.Range.small
    rw [hz]
    simp only [Builtin.Range.rangeFitsLong, Bool.and_eq_true, Bool.or_eq_true, decide_eq_true_eq, beq_iff_eq, show ¬ ((-1 : Int) > 0) by decide, if_false]
    omega
  unfold itemsV
  simp only [hs, if_true, hz, Int.toNat_natCast]
  rw [if_pos (by omega)]
  unfold rangeL
  rw [hz]
  simp only [Int.toNat_natCast]
  have hf : (fun (i : Nat) => AV.int ((e : Int) + (i : Int) * -1)) = fun (i : Nat) => AV.int ((e : Int) - i) := by
    funext i
    have : (e : Int) + (i : Int) * -1 = (e : Int) - i := by omega
    rw [this]
  rw [hf]
section
variable {O : OpsF} (hO : O = opsB)
include hO
theorem w_eqL (a b : List Int) : O.cmp .Eq (.lst (iL a)) (.lst (iL b)) = some (a == b) := by rw [hO]; exact eqL_ints a b
theorem w_neL (a b : List Int) : O.cmp .NotEq (.lst (iL a)) (.lst (iL b)) = some (!(a == b)) := by
  rw [hO]
  show (eqN 3 (.lst (iL a)) (.lst (iL b))).map (!·) = _
  rw [eqL_ints]; rfl
theorem w_inL (a : Int) (l : List Int) : O.cmp .In (.int a) (.lst (iL l)) = some (l.any (· == a)) := by
  rw [hO]
  show (match ints? (iL l) with | some ns => inCmp .In a ns | none => none) = _
  rw [ints_map]; rfl
theorem w_rev (l : List Int) : O.slice (.lst (iL l)) .none .none (.int (-1)) = .ok (.lst (iL l.reverse)) := by
  rw [hO]
  show (if some (-1 : Int) = some 0 then Res.stuck else .ok (.lst (pickL (iL l) none none (some (-1))))) = _
  rw [if_neg (by decide), pick_rev]
theorem w_downI {e : Nat} (h : e ≤ 1000) : O.items (.range (e : Int) (-1) (-1)) = some ((List.range (e + 1)).map fun (i : Nat) => .int ((e : Int) - i)) := by
  have eO : O.items = itemsV := by rw [hO]; rfl
  rw [eO]
  exact items_down e h
theorem w_upI {n : Nat} (h : n ≤ 1000) : O.items (.range 0 (n : Int) 1) = some ((List.range n).map fun (i : Nat) => .int i) := by
  have eO : O.items = itemsV := by rw [hO]; rfl
  rw [eO]
  exact range_items n h
theorem w_appO {xs : List AV} {x : AV} (h : xs.length < 1000000) : O.ometh .append xs [x] = some (xs ++ [x]) := by
  rw [hO]
  show (if xs.length < 1000000 then some (xs ++ [x]) else none) = _
  rw [if_pos h]
theorem w_add (a b : Int) : O.bin .Add (.int a) (.int b) = .ok (.int (a + b)) := by rw [hO]; rfl
theorem w_sub (a b : Int) : O.bin .Sub (.int a) (.int b) = .ok (.int (a - b)) := by rw [hO]; rfl
theorem w_mod {a b : Int} (h : b ≠ 0) : O.bin .Mod (.int a) (.int b) = .ok (.int (a.fmod b)) := by
  rw [hO]
  show (if (b == 0) = true then Res.exc .zde else .ok (.int (a.fmod b))) = _
  rw [if_neg (by simpa using h)]
theorem w_addL {a b : List AV} (h : a.length + b.length ≤ 1048576) : O.bin .Add (.lst a) (.lst b) = .ok (.lst (a ++ b)) := by
  rw [hO]
  show (if a.length + b.length ≤ 1048576 then Res.ok (.lst (a ++ b)) else .stuck) = _
  rw [if_pos h]
theorem w_bool (b : Bool) : O.truth (.bool b) = some b := by rw [hO]; rfl
theorem w_truthL (a : List AV) : O.truth (.lst a) = some (!a.isEmpty) := by rw [hO]; rfl
theorem w_neI (a b : Int) : O.cmp .NotEq (.int a) (.int b) = some (a != b) := by rw [hO]; rfl
theorem w_ltI (a b : Int) : O.cmp .Lt (.int a) (.int b) = some (decide (a < b)) := by rw [hO]; rfl
theorem w_gtI (a b : Int) : O.cmp .Gt (.int a) (.int b) = some (decide (a > b)) := by rw [hO]; rfl
theorem w_len (a : List AV) : O.bcall .len [.lst a] = .ok (.int (a.length : Nat)) := by rw [hO]; rfl
theorem w_range1 (n : Int) : O.bcall .range [.int n] = .ok (.range 0 n 1) := by rw [hO]; rfl
theorem w_range3 {a b : Int} (h : Builtin.divisionGoesByPylong (b - a) (-1) = false) : O.bcall .range [.int a, .int b, .int (-1)] = .ok (.range a b (-1)) := by
  rw [hO]
  show (if (-1 : Int) = 0 then Res.stuck else if Builtin.divisionGoesByPylong (b - a) (-1) = true then .stuck else .ok (.range a b (-1))) = _
  rw [if_neg (by decide), h, if_neg (by decide)]
theorem w_min {ns : List Int} {m : Int} (h : minI ns = some m) : O.bcall .min [.lst (iL ns)] = .ok (.int m) := by
  rw [hO]
  show (match ints? (iL ns) with | some ns => (match minI ns with | some m => Res.ok (.int m) | none => .stuck) | none => .stuck) = _
  rw [ints_map]; dsimp only; rw [h]
theorem w_slice (xs : List AV) (a b z : AV) : O.slice (.lst xs) a b z = sliceL xs a b z := by rw [hO]; rfl
theorem w_idx (xs : List AV) (i : Int) : O.idx (.lst xs) (.int i) = idxL xs i := by rw [hO]; rfl
theorem w_items (xs : List AV) : O.items (.lst xs) = some xs := by rw [hO]; rfl
theorem w_neg (a : Int) : O.un .USub (.int a) = .ok (.int (-a)) := by rw [hO]; rfl
theorem w_isEq (a b : Int) : O.isEq (.int a) (.int b) = some (a == b) := by rw [hO]; rfl
end
end Mine
end
section
open PySem PySem.W PyProof.Rows
namespace Mine
set_option maxRecDepth 100000
set_option linter.unusedSimpArgs false
set_option linter.unusedSectionVars false
set_option linter.unusedVariables false
theorem minI_some : ∀ (l : List Int), l ≠ [] → ∃ m, minI l = some m ∧ (∀ x ∈ l, m ≤ x) ∧ m ∈ l
  | [], h => absurd rfl h
  | [a], _ => ⟨a, rfl, fun x hx => by rw [List.mem_singleton.mp hx]; exact Int.le_refl _, List.mem_cons_self⟩
  | a :: b :: r, _ => by
    obtain ⟨m, h1, h2, h3⟩ := minI_some (b :: r) (by simp)
    refine ⟨if m < a then m else a, ?_, fun x hx => ?_, ?_⟩
    · show (minI (b :: r)).map _ = _
      rw [h1]; rfl
    · rcases List.mem_cons.mp hx with rfl | hx
      · split <;> omega
      · have := h2 x hx
        split <;> omega
    · split
      · exact List.mem_cons_of_mem _ h3
      · exact List.mem_cons_self
theorem mkd_eq (row : List Int) : ∃ mk, mkd row = row ++ [mk] ∧ (∀ x ∈ row, mk < x) ∧ minI (row ++ [0]) = some (mk + 1) := by
  obtain ⟨m, h1, h2, _⟩ := minI_some (row ++ [0]) (by simp)
  refine ⟨m - 1, by unfold mkd; rw [h1]; rfl, fun x hx => ?_, by rw [h1]; congr 1; omega⟩
  have := h2 x (List.mem_append_left _ hx)
  omega
section
variable {O : OpsF} (hO : O = opsB) {cal : Cal} {row : List Int} {σ : Store} {lo n0 : Nat}
include hO
theorem col_s1 (hz : row.length ≤ 60) : px O cal true ⟨[some (.val (.lst (iL row))), none, none], σ, lo, n0⟩ col_p1 = .next ⟨[some (.val (.lst (iL row))), some (.val (.lst (iL (mkd row)))), none], σ, lo, n0⟩ := by
  obtain ⟨mk, e1, -, e2⟩ := mkd_eq row
  have hl : (iL row).length = row.length := List.length_map ..
  have b1 : O.bin .Add (.lst (iL row)) (.lst [.int 0]) = .ok (.lst (iL (row ++ [0]))) := by
    rw [w_addL hO (by rw [hl]; show row.length + 1 ≤ _; omega)]
    show _ = Res.ok (.lst ((row ++ [0]).map .int))
    rw [List.map_append]; rfl
  have b2 := w_min hO e2
  have b3 : O.bin .Sub (.int (mk + 1)) (.int 1) = .ok (.int mk) := by rw [w_sub hO]; congr 2; omega
  have b4 : O.bin .Add (.lst (iL row)) (.lst [.int mk]) = .ok (.lst (iL (row ++ [mk]))) := by
    rw [w_addL hO (by rw [hl]; show row.length + 1 ≤ _; omega)]
    show _ = Res.ok (.lst ((row ++ [mk]).map .int))
    rw [List.map_append]; rfl
  unfold col_p1
  rw [qx_assign, e1]
  have h : (pe O cal true ⟨[some (.val (.lst (iL row))), none, none], σ, lo, n0⟩ (.bin .Add (.name 0) (.list (.cons (.bin .Sub (.bcall .min (.cons (.bin .Add (.name 0) (.list (.cons (.const (.int 0)) .nil))) .nil)) (.const (.int 1))) .nil)))).v = .ok (.av (.lst (iL (row ++ [mk])))) σ := by
    simp only [pe_const, pe_name, slotV, pe_glob, pe_bin, pe_not, pe_neg, pe_is, pe_isnot, pe_eq, pe_ne, pe_lt, pe_le, pe_gt, pe_ge, pe_in, pe_notin, pe_bop, pe_ife, pe_list, pe_tup, pe_sub, pe_slice, pe_call, pe_bcall, pes_nil', pes_cons, pr_v, pr_t, bind_ok, bindA_ok, truth_ok, ofB_some, ofRes_ok, ofRes_exc, onL_some, onP_some, plains_nil, plains_cons, pall_and_nil, pall_or_nil, pall_and_cons, pall_or_cons, pbop_one, pbop_and, pbop_or, Option.map_some, List.map_cons, List.map_nil, List.getElem?_cons_zero, List.getElem?_cons_succ, dS_av, dr_none, dr_bool, dr_int, dr_str, dr_type, dr_range, dr_tup, dr_lst, dr_set, List.length_cons, List.length_nil, Bool.not_true, Bool.not_false, Nat.reduceAdd, Nat.reduceLeDiff, if_true, b1, b2, b3, b4]
  rw [h]; rfl
theorem col_s2 (hz : row.length ≤ 60) {e2 : Option Ent} : (pe O cal true ⟨[some (.val (.lst (iL row))), some (.val (.lst (iL (mkd row)))), e2], σ, lo, n0⟩ col_it).v = .ok (.av (.range 0 ((row.length + 1 : Nat) : Int) 1)) σ := by
  have hl : (iL (mkd row)).length = row.length + 1 := by
    obtain ⟨mk, e1, -, _⟩ := mkd_eq row
    rw [e1]; simp
  have b1 := w_len hO (iL (mkd row))
  rw [hl] at b1
  have b2 := w_range1 hO ((row.length + 1 : Nat) : Int)
  unfold col_it
  simp only [pe_const, pe_name, slotV, pe_glob, pe_bin, pe_not, pe_neg, pe_is, pe_isnot, pe_eq, pe_ne, pe_lt, pe_le, pe_gt, pe_ge, pe_in, pe_notin, pe_bop, pe_ife, pe_list, pe_tup, pe_sub, pe_slice, pe_call, pe_bcall, pes_nil', pes_cons, pr_v, pr_t, bind_ok, bindA_ok, truth_ok, ofB_some, ofRes_ok, ofRes_exc, onL_some, onP_some, plains_nil, plains_cons, pall_and_nil, pall_or_nil, pall_and_cons, pall_or_cons, pbop_one, pbop_and, pbop_or, Option.map_some, List.map_cons, List.map_nil, List.getElem?_cons_zero, List.getElem?_cons_succ, dS_av, dr_none, dr_bool, dr_int, dr_str, dr_type, dr_range, dr_tup, dr_lst, dr_set, List.length_cons, List.length_nil, Bool.not_true, Bool.not_false, Nat.reduceAdd, Nat.reduceLeDiff, if_true, b1, b2]
theorem col_s3 {q : List Nat} (hq : ∀ i ∈ q, i < (mkd row).length) : pxs O cal true ⟨[some (.val (.lst (iL row))), some (.val (.lst (iL (mkd row)))), some (.val (.lst (q.map fun (i : Nat) => .int i)))], σ, lo, n0⟩ (.cons col_p3 .nil) = .ret (.lst (iL (colOf (mkd row) q))) σ := by
  unfold col_p3
  rw [qxs_cons, qx_ret]
  have h : (pe O cal true ⟨[some (.val (.lst (iL row))), some (.val (.lst (iL (mkd row)))), some (.val (.lst (q.map fun (i : Nat) => .int i)))], σ, lo, n0⟩ (.comp [1] (.sub (.name 1) (.bin .Sub (.name 3) (.const (.int 1)))) (.name 2) .nil)).v = .ok (.av (.lst (iL (colOf (mkd row) q)))) σ := by
    rw [pe_comp (a := .av (.lst (q.map fun (i : Nat) => .int i))) (σ₁ := σ) (l := q.map fun (i : Nat) => .int i) (ys := iL (colOf (mkd row) q))]
    · rfl
    · rfl
    · rw [dS_av]; exact w_items hO _
    · unfold colOf iL
      rw [List.map_map]
      refine mapF_map fun i hi => ?_
      rw [pall_and_nil]
      refine compF_t (v := .int (chr_ (mkd row) i)) (σ' := σ) ?_ rfl
      have b1 := w_sub hO (i : Int) 1
      have b2 : O.idx (.lst (iL (mkd row))) (.int ((i : Int) - 1)) = .ok (.int (chr_ (mkd row) i)) := by
        rw [w_idx hO]
        have hi := hq i hi
        unfold chr_ prd idxL
        by_cases h0 : i = 0
        · subst h0
          have hlt : (mkd row).length - 1 < (mkd row).length := by omega
          rw [if_neg (by omega), if_pos (by rw [List.length_map]; omega), if_pos rfl, List.length_map, List.getElem?_map, show ((((0 : Nat) : Int) - 1) + ((mkd row).length : Int)).toNat = (mkd row).length - 1 by omega, List.getElem?_eq_getElem hlt]
          simp [List.getD, hlt]
        · have hlt : i - 1 < (mkd row).length := by omega
          rw [if_pos (by omega), if_neg h0, List.getElem?_map, show ((i : Int) - 1).toNat = i - 1 by omega, List.getElem?_eq_getElem hlt]
          simp [List.getD, hlt]
      have e : Fs.inner (Fs.at ⟨[some (.val (.lst (iL row))), some (.val (.lst (iL (mkd row)))), some (.val (.lst (q.map fun (i : Nat) => .int i)))], σ, lo, n0⟩ σ) [1] (.int i) = ⟨[none, some (.val (.lst (iL (mkd row)))), none, some (.val (.int i))], σ, σ.length, n0⟩ := rfl
      rw [e]
      simp only [pe_const, pe_name, slotV, pe_glob, pe_bin, pe_not, pe_neg, pe_is, pe_isnot, pe_eq, pe_ne, pe_lt, pe_le, pe_gt, pe_ge, pe_in, pe_notin, pe_bop, pe_ife, pe_list, pe_tup, pe_sub, pe_slice, pe_call, pe_bcall, pes_nil', pes_cons, pr_v, pr_t, bind_ok, bindA_ok, truth_ok, ofB_some, ofRes_ok, ofRes_exc, onL_some, onP_some, plains_nil, plains_cons, pall_and_nil, pall_or_nil, pall_and_cons, pall_or_cons, pbop_one, pbop_and, pbop_or, Option.map_some, List.map_cons, List.map_nil, List.getElem?_cons_zero, List.getElem?_cons_succ, dS_av, dr_none, dr_bool, dr_int, dr_str, dr_type, dr_range, dr_tup, dr_lst, dr_set, List.length_cons, List.length_nil, Bool.not_true, Bool.not_false, Nat.reduceAdd, Nat.reduceLeDiff, if_true, b1, b2]
  rw [h]; rfl
theorem col_key {m : List Int} (hz : m.length ≤ 100) (i : Nat) : ∃ ys ys', O.slice (.lst (iL m)) (.int (i : Nat)) .none .none = .ok (.lst ys) ∧ O.slice (.lst (iL m)) .none (.int (i : Nat)) .none = .ok (.lst ys') ∧ O.bin .Add (.lst ys) (.lst ys') = .ok (.lst ((rotL m i).map .int)) := by
  refine ⟨iL (m.drop i), iL (m.take i), ?_, ?_, ?_⟩
  · rw [w_slice hO, sl_drop, show iL (m.drop i) = (iL m).drop i from List.map_drop ..]
  · rw [w_slice hO, sl_take, show iL (m.take i) = (iL m).take i from List.map_take ..]
  · rw [w_addL hO (by rw [List.length_map, List.length_map, List.length_drop, List.length_take]; omega)]
    unfold rotL
    rw [List.map_append]
end
end Mine
end
section
open PySem PySem.W PyProof.Rows
namespace Mine
set_option maxRecDepth 100000
set_option linter.unusedSimpArgs false
set_option linter.unusedSectionVars false
set_option linter.unusedVariables false
section
variable {O : OpsF} (hO : O = opsB) {cal : Cal} {l : List Int} {v : Int} {σ : Store} {lo n0 : Nat}
include hO
theorem cnt_run : fnRes (pxs O cal true ⟨[some (.val (.lst (iL l))), some (.val (.int v)), none, none], σ, lo, n0⟩ countOf_p) = .ok (.av (.int (l.count v : Nat))) σ := by
  unfold countOf_p
  refine fn_ret (pk_assign (v := .int 0) (σ := σ) ?_ ?_)
  · simp only [pe_const, pe_name, slotV, pe_glob, pe_bin, pe_not, pe_neg, pe_is, pe_isnot, pe_eq, pe_ne, pe_lt, pe_le, pe_gt, pe_ge, pe_in, pe_notin, pe_bop, pe_ife, pe_list, pe_tup, pe_sub, pe_slice, pe_call, pe_bcall, pes_nil', pes_cons, pr_v, pr_t, bind_ok, bindA_ok, truth_ok, ofB_some, ofRes_ok, ofRes_exc, onL_some, onP_some, plains_nil, plains_cons, pall_and_nil, pall_or_nil, pall_and_cons, pall_or_cons, pbop_one, pbop_and, pbop_or, Option.map_some, List.map_cons, List.map_nil, List.getElem?_cons_zero, List.getElem?_cons_succ, dS_av, dr_none, dr_bool, dr_int, dr_str, dr_type, dr_range, dr_tup, dr_lst, dr_set, List.length_cons, List.length_nil, Bool.not_true, Bool.not_false, Nat.reduceAdd, Nat.reduceLeDiff, if_true]
  dsimp only [Fs.at, Fs.set, List.set_cons_zero, List.set_cons_succ]
  refine pk_for (v := .lst (iL l)) (σ := σ) (l := iL l) (fun j st => ∃ e3, st = ⟨[some (.val (.lst (iL l))), some (.val (.int v)), some (.val (.int ((l.take j).count v : Nat))), e3], σ, lo, n0⟩) ?_ (w_items hO _) ⟨none, rfl⟩ ?_ ?_
  · simp only [pe_const, pe_name, slotV, pe_glob, pe_bin, pe_not, pe_neg, pe_is, pe_isnot, pe_eq, pe_ne, pe_lt, pe_le, pe_gt, pe_ge, pe_in, pe_notin, pe_bop, pe_ife, pe_list, pe_tup, pe_sub, pe_slice, pe_call, pe_bcall, pes_nil', pes_cons, pr_v, pr_t, bind_ok, bindA_ok, truth_ok, ofB_some, ofRes_ok, ofRes_exc, onL_some, onP_some, plains_nil, plains_cons, pall_and_nil, pall_or_nil, pall_and_cons, pall_or_cons, pbop_one, pbop_and, pbop_or, Option.map_some, List.map_cons, List.map_nil, List.getElem?_cons_zero, List.getElem?_cons_succ, dS_av, dr_none, dr_bool, dr_int, dr_str, dr_type, dr_range, dr_tup, dr_lst, dr_set, List.length_cons, List.length_nil, Bool.not_true, Bool.not_false, Nat.reduceAdd, Nat.reduceLeDiff, if_true]
  · rintro j x st hx ⟨e3, rfl⟩
    rw [List.getElem?_map] at hx
    cases hy : l[j]? with
    | none => rw [hy] at hx; cases hx
    | some y =>
    rw [hy] at hx
    cases hx
    dsimp only [Fs.at, Fs.set, List.set_cons_zero, List.set_cons_succ]
    unfold countOf_b1
    have ht : (pe O cal true ⟨[some (.val (.lst (iL l))), some (.val (.int v)), some (.val (.int ((l.take j).count v : Nat))), some (.val (.int y))], σ, lo, n0⟩ (.isOrEq 3 1)).t = some (y == v, σ) := by
      rw [qe_isOrEq]
      show (O.isEq (.int y) (.int v)).map _ = _
      rw [w_isEq hO]; rfl
    have et : (l.take (j + 1)).count v = (l.take j).count v + (if (y == v) = true then 1 else 0) := by
      rw [List.take_add_one, hy, List.count_append]
      show _ + List.count v [y] = _
      rw [List.count_singleton]
    cases h : (y == v) with
    | true =>
      rw [h] at ht et
      refine pk_if_t ht ?_
      have b1 : O.inpl .Add (.int ((l.take j).count v : Nat)) (.int 1) = .ok (.int ((l.take (j + 1)).count v : Nat)) := by
        rw [et, hO]
        show Res.ok (.int _) = _
        congr 2
      exact pk_aug (a := .int ((l.take j).count v : Nat)) (v := .int ((l.take (j + 1)).count v : Nat)) (b := .av (.int 1)) (σ' := σ) (σ := σ) rfl rfl b1 (pk_nil (O := O) (cal := cal) (q := true) (pk_nil (O := O) (cal := cal) (q := true) ⟨_, rfl⟩))
    | false =>
      rw [h] at ht et
      refine pk_if_f ht ?_
      refine pk_nil (O := O) (cal := cal) (q := true) (pk_nil (O := O) (cal := cal) (q := true) ⟨some (.val (.int y)), ?_⟩)
      rw [et]; rfl
  · rintro st ⟨e3, rfl⟩
    refine pk_ret (v := .int (l.count v : Nat)) (σ := σ) ?_ ends_ret
    have e : (l.take (iL l).length) = l := by rw [List.length_map, List.take_length]
    rw [e]
    simp only [pe_const, pe_name, slotV, pe_glob, pe_bin, pe_not, pe_neg, pe_is, pe_isnot, pe_eq, pe_ne, pe_lt, pe_le, pe_gt, pe_ge, pe_in, pe_notin, pe_bop, pe_ife, pe_list, pe_tup, pe_sub, pe_slice, pe_call, pe_bcall, pes_nil', pes_cons, pr_v, pr_t, bind_ok, bindA_ok, truth_ok, ofB_some, ofRes_ok, ofRes_exc, onL_some, onP_some, plains_nil, plains_cons, pall_and_nil, pall_or_nil, pall_and_cons, pall_or_cons, pbop_one, pbop_and, pbop_or, Option.map_some, List.map_cons, List.map_nil, List.getElem?_cons_zero, List.getElem?_cons_succ, dS_av, dr_none, dr_bool, dr_int, dr_str, dr_type, dr_range, dr_tup, dr_lst, dr_set, List.length_cons, List.length_nil, Bool.not_true, Bool.not_false, Nat.reduceAdd, Nat.reduceLeDiff, if_true]
end
section
variable {col : List Int} {c : Int} {a : Nat} {σ : Store} {lo : Nat}
theorem cal2_cnt {l : List Int} {v : Int} : cal1 σ lo 0 [.lst (iL l), .int v] = .ok (.av (.int (l.count v : Nat))) σ := by
  rw [cal1_hit _ _ _ rfl]
  exact cnt_run (O := opsB) rfl
theorem place_run {O : OpsF} (hO : O = opsB) {cal : Cal} (hc : ∀ {l : List Int} {v : Int}, cal σ lo 0 [.lst (iL l), .int v] = .ok (.av (.int (l.count v : Nat))) σ) {n0 : Nat} (hz : col.length ≤ 1000) :
    fnRes (pxs O cal true ⟨[some (.val (.lst (iL col))), some (.val (.int c)), some (.val (.int (a : Nat)))], σ, lo, n0⟩ law_place_p) = .ok (.av (.int (placeL col c a : Nat))) σ := by
  unfold law_place_p
  have tb := w_bool hO
  have hcomp : (pe O cal true ⟨[some (.val (.lst (iL col))), some (.val (.int c)), some (.val (.int (a : Nat)))], σ, lo, n0⟩ (.comp [1] (.name 3) (.name 0) (.cons (.cmp .Lt (.name 3) (.name 1)) .nil))).v = .ok (.av (.lst (iL (col.filter fun x => decide (x < c))))) σ := by
    rw [pe_comp (a := .av (.lst (iL col))) (σ₁ := σ) (l := iL col) (ys := iL (col.filter fun x => decide (x < c)))]
    · rfl
    · rfl
    · rw [dS_av]; exact w_items hO _
    · unfold iL
      refine mapF_filter fun x hx => ?_
      have e : Fs.inner (Fs.at ⟨[some (.val (.lst (col.map .int))), some (.val (.int c)), some (.val (.int (a : Nat)))], σ, lo, n0⟩ σ) [1] (.int x) = ⟨[none, some (.val (.int c)), none, some (.val (.int x))], σ, σ.length, n0⟩ := rfl
      rw [e]
      have b1 := w_ltI hO x c
      have ht : (pe O cal true ⟨[none, some (.val (.int c)), none, some (.val (.int x))], σ, σ.length, n0⟩ (.cmp .Lt (.name 3) (.name 1))).t = some (decide (x < c), σ) := by
        simp only [pe_const, pe_name, slotV, pe_glob, pe_bin, pe_not, pe_neg, pe_is, pe_isnot, pe_eq, pe_ne, pe_lt, pe_le, pe_gt, pe_ge, pe_in, pe_notin, pe_bop, pe_ife, pe_list, pe_tup, pe_sub, pe_slice, pe_call, pe_bcall, pes_nil', pes_cons, pr_v, pr_t, bind_ok, bindA_ok, truth_ok, ofB_some, ofRes_ok, ofRes_exc, onL_some, onP_some, plains_nil, plains_cons, pall_and_nil, pall_or_nil, pall_and_cons, pall_or_cons, pbop_one, pbop_and, pbop_or, Option.map_some, List.map_cons, List.map_nil, List.getElem?_cons_zero, List.getElem?_cons_succ, dS_av, dr_none, dr_bool, dr_int, dr_str, dr_type, dr_range, dr_tup, dr_lst, dr_set, List.length_cons, List.length_nil, Bool.not_true, Bool.not_false, Nat.reduceAdd, Nat.reduceLeDiff, if_true, b1, tb]
      rw [pall_and_cons, ht]
      by_cases h : x < c
      · rw [decide_eq_true h]
        dsimp only
        rw [pall_and_nil, if_pos rfl]
        exact compF_t (v := .int x) (σ' := σ) (by simp only [pe_const, pe_name, slotV, pe_glob, pe_bin, pe_not, pe_neg, pe_is, pe_isnot, pe_eq, pe_ne, pe_lt, pe_le, pe_gt, pe_ge, pe_in, pe_notin, pe_bop, pe_ife, pe_list, pe_tup, pe_sub, pe_slice, pe_call, pe_bcall, pes_nil', pes_cons, pr_v, pr_t, bind_ok, bindA_ok, truth_ok, ofB_some, ofRes_ok, ofRes_exc, onL_some, onP_some, plains_nil, plains_cons, pall_and_nil, pall_or_nil, pall_and_cons, pall_or_cons, pbop_one, pbop_and, pbop_or, Option.map_some, List.map_cons, List.map_nil, List.getElem?_cons_zero, List.getElem?_cons_succ, dS_av, dr_none, dr_bool, dr_int, dr_str, dr_type, dr_range, dr_tup, dr_lst, dr_set, List.length_cons, List.length_nil, Bool.not_true, Bool.not_false, Nat.reduceAdd, Nat.reduceLeDiff, if_true]) rfl
      · rw [decide_eq_false h]
        rfl
  have b1 := w_len hO (iL (col.filter fun x => decide (x < c)))
  have b2 : O.slice (.lst (iL col)) .none (.int (a : Nat)) .none = .ok (.lst (iL (col.take a))) := by
    rw [w_slice hO, sl_take, show iL (col.take a) = (iL col).take a from List.map_take ..]
  have b3 := w_add hO (((iL (col.filter fun x => decide (x < c))).length : Nat) : Int) (((col.take a).count c : Nat) : Int)
  have e : (((iL (col.filter fun x => decide (x < c))).length : Nat) : Int) + (((col.take a).count c : Nat) : Int) = ((placeL col c a : Nat) : Int) := by
    unfold placeL
    rw [List.length_map, ← List.countP_eq_length_filter, List.count]
    push_cast; rfl
  rw [e] at b3
  refine fn_ret (pk_ret (v := .int (placeL col c a : Nat)) (σ := σ) ?_ ends_ret)
  have hcc := hc (l := col.take a) (v := c)
  simp only [pe_const, pe_name, slotV, pe_glob, pe_bin, pe_not, pe_neg, pe_is, pe_isnot, pe_eq, pe_ne, pe_lt, pe_le, pe_gt, pe_ge, pe_in, pe_notin, pe_bop, pe_ife, pe_list, pe_tup, pe_sub, pe_slice, pe_call, pe_bcall, pes_nil', pes_cons, pr_v, pr_t, bind_ok, bindA_ok, truth_ok, ofB_some, ofRes_ok, ofRes_exc, onL_some, onP_some, plains_nil, plains_cons, pall_and_nil, pall_or_nil, pall_and_cons, pall_or_cons, pbop_one, pbop_and, pbop_or, Option.map_some, List.map_cons, List.map_nil, List.getElem?_cons_zero, List.getElem?_cons_succ, dS_av, dr_none, dr_bool, dr_int, dr_str, dr_type, dr_range, dr_tup, dr_lst, dr_set, List.length_cons, List.length_nil, Bool.not_true, Bool.not_false, Nat.reduceAdd, Nat.reduceLeDiff, if_true, hcomp, b1, b2, hcc, b3]
theorem cal2_place (hz : col.length ≤ 1000) : cal2 σ lo 2 [.lst (iL col), .int c, .int (a : Nat)] = .ok (.av (.int (placeL col c a : Nat))) σ := by
  rw [cal2_hit _ _ _ rfl]
  exact place_run (O := opsB) rfl cal2_cnt hz
end
end Mine
end
section
open PySem PySem.W PyProof.Rows
namespace Mine
/- the words, for a name that stands for ops: nothing runs by itself -/
section
variable {O : OpsF} (h : O = ops)
include h
end
theorem dS_own {ρ : List (Option Ent)} {σ : Store} {i : Nat} : derefS ρ σ (.own i) = match ρ[i]? with | some (some (.own xs)) => .lst xs | _ => .any := rfl
end Mine
end
section
open PySem PySem.W PyProof.Rows
namespace Mine
set_option maxRecDepth 100000
set_option linter.unusedSimpArgs false
set_option linter.unusedSectionVars false
set_option linter.unusedVariables false
theorem pick_cut (xs : List AV) (k l : Nat) (h : k ≤ xs.length) : pickL xs (some (k : Int)) (some ((k + l : Nat) : Int)) none = (xs.drop k).take l := by
  rw [pickL_plain]
  simp only [Option.elim_some, clip_nat]
  rw [Nat.min_eq_left h]
  by_cases h2 : k + l ≤ xs.length
  · rw [Nat.min_eq_left h2, Nat.add_sub_cancel_left]
  · rw [Nat.min_eq_right (by omega), List.take_of_length_le (by simp), List.take_of_length_le (by simp; omega)]
/-- the words of the places' defs -/
structure PlC (cal : Cal) : Prop where
  pl : ∀ {col : List Int} {c : Int} {a : Nat} {σ : Store} {lo : Nat}, col.length ≤ 1000 → cal σ lo 2 [.lst (iL col), .int c, .int (a : Nat)] = .ok (.av (.int (placeL col c a : Nat))) σ
noncomputable abbrev l8 (script row col told : List Int) (way : Int) (e5 e6 e7 e8 e9 e10 e11 : Option Ent) (σ : Store) : Fs := ⟨[some (.val (.lst (iL script))), some (.val (.int way)), some (.val (.lst (iL row))), some (.val (.lst (iL col))), some (.own (iL told)), e5, e6, e7, e8, e9, e10, e11], σ, 0, 1⟩
noncomputable abbrev nt (n : Nat) : Option Ent := some (.val (.int (n : Int)))
section
variable {O : OpsF} (hO : O = opsB) {cal : Cal} (hP : PlC cal) {script row told : List Int} {mk way : Int} {q : List Nat} {e5 e6 e7 e8 e9 e10 e11 : Option Ent} {σ : Store} {K : FR → Prop} {r : PSs}
include hO
theorem w_cut {l : List Int} {k n : Nat} (h : k ≤ l.length) : O.slice (.lst (iL l)) (.int (k : Int)) (.int ((k + n : Nat) : Int)) .none = .ok (.lst (iL ((l.drop k).take n))) := by
  rw [w_slice hO]
  show (if (none : Option Int) = some 0 then Res.stuck else .ok (.lst (pickL (iL l) (some (k : Int)) (some ((k + n : Nat) : Int)) none))) = _
  rw [if_neg (by simp), pick_cut _ _ _ (by rw [List.length_map]; exact h)]
  unfold iL
  rw [List.map_take, List.map_drop]
theorem w_at {l : List Int} {k : Nat} {c : Int} (h : l[k]? = some c) : O.idx (.lst (iL l)) (.int (k : Int)) = .ok (.int c) := by
  rw [w_idx hO]
  exact idxL_get (by rw [List.getElem?_map, h]; rfl)
include hP
/-- from the column the row comes back -/
theorem loop_back (S : SortedQ (row ++ [mk]) q) (hm : ∀ x ∈ row, mk < x) (hz : row.length ≤ 60)
    (hK : ∀ e6, K (pxs O cal true (l8 script row (colOf (row ++ [mk]) q) row.reverse way (nt (cntLt (row ++ [mk]) 0)) e6 e7 e8 e9 e10 e11 σ) r)) : K (pxs O cal true (l8 script row (colOf (row ++ [mk]) q) [] way (some (.val (.int 0))) e6 e7 e8 e9 e10 e11 σ) (.cons (.for_ 6 (.name 2) law_b3) r)) := by
  have hml : (row ++ [mk]).length = row.length + 1 := by simp
  have hcl : (colOf (row ++ [mk]) q).length = row.length + 1 := by
    unfold colOf
    rw [List.length_map, S.perm.length_eq, List.length_range, hml]
  refine pk_for (v := .lst (iL row)) (σ := σ) (l := iL row) (fun j st => ∃ e6, st = l8 script row (colOf (row ++ [mk]) q) (row.reverse.take j) way (nt (cntLt (row ++ [mk]) (row.length - j))) e6 e7 e8 e9 e10 e11 σ) ?_ (w_items hO _) ⟨e6, ?_⟩ ?_ ?_
  · unfold l8
    simp only [pe_const, pe_name, slotV, pe_glob, pe_bin, pe_not, pe_neg, pe_is, pe_isnot, pe_eq, pe_ne, pe_lt, pe_le, pe_gt, pe_ge, pe_in, pe_notin, pe_bop, pe_ife, pe_list, pe_tup, pe_sub, pe_slice, pe_call, pe_bcall, pes_nil', pes_cons, pr_v, pr_t, bind_ok, bindA_ok, truth_ok, ofB_some, ofRes_ok, ofRes_exc, onL_some, onP_some, plains_nil, plains_cons, pall_and_nil, pall_or_nil, pall_and_cons, pall_or_cons, pbop_one, pbop_and, pbop_or, Option.map_some, List.map_cons, List.map_nil, List.getElem?_cons_zero, List.getElem?_cons_succ, dS_av, dr_none, dr_bool, dr_int, dr_str, dr_type, dr_range, dr_tup, dr_lst, dr_set, List.length_cons, List.length_nil, Bool.not_true, Bool.not_false, Nat.reduceAdd, Nat.reduceLeDiff, if_true]
  · rw [Nat.sub_zero, back_zero hm]; rfl
  · rintro j x st hx ⟨e6, rfl⟩
    have hj : j < row.length := by
      have := (List.getElem?_eq_some_iff.mp hx).1
      simpa using this
    have hk : row.length - j < (row ++ [mk]).length := by omega
    have b1 := w_at hO (col_at S hk)
    have b2 := hP.pl (σ := σ) (lo := 0) (col := colOf (row ++ [mk]) q) (c := chr_ (row ++ [mk]) (row.length - j)) (a := cntLt (row ++ [mk]) (row.length - j)) (by omega)
    rw [back_step S hk] at b2
    have ep : prd (row ++ [mk]) (row.length - j) = row.length - (j + 1) := by
      unfold prd
      rw [if_neg (by omega)]; omega
    rw [ep] at b2
    have et : row.reverse.take (j + 1) = row.reverse.take j ++ [chr_ (row ++ [mk]) (row.length - j)] := by
      have h1 : row.length - 1 - j < row.length := by omega
      have h2 : row.length - j = (row.length - 1 - j) + 1 := by omega
      rw [List.take_add_one, List.getElem?_reverse hj, h2, chr_row h1, List.getElem?_eq_getElem h1]
      simp [List.getD, h1]
    unfold law_b3 l8
    dsimp only [Fs.at, Fs.set, List.set_cons_zero, List.set_cons_succ]
    refine pk_ometh (xs := iL (row.reverse.take j)) (xs' := iL (row.reverse.take (j + 1))) (l := [.int (chr_ (row ++ [mk]) (row.length - j))]) (ol := [.av (.int (chr_ (row ++ [mk]) (row.length - j)))]) (σ := σ) rfl ?_ rfl ?_ ?_
    · simp only [pe_const, pe_name, slotV, pe_glob, pe_bin, pe_not, pe_neg, pe_is, pe_isnot, pe_eq, pe_ne, pe_lt, pe_le, pe_gt, pe_ge, pe_in, pe_notin, pe_bop, pe_ife, pe_list, pe_tup, pe_sub, pe_slice, pe_call, pe_bcall, pes_nil', pes_cons, pr_v, pr_t, bind_ok, bindA_ok, truth_ok, ofB_some, ofRes_ok, ofRes_exc, onL_some, onP_some, plains_nil, plains_cons, pall_and_nil, pall_or_nil, pall_and_cons, pall_or_cons, pbop_one, pbop_and, pbop_or, Option.map_some, List.map_cons, List.map_nil, List.getElem?_cons_zero, List.getElem?_cons_succ, dS_av, dr_none, dr_bool, dr_int, dr_str, dr_type, dr_range, dr_tup, dr_lst, dr_set, List.length_cons, List.length_nil, Bool.not_true, Bool.not_false, Nat.reduceAdd, Nat.reduceLeDiff, if_true, b1]
    · rw [w_appO hO (by rw [List.length_map, List.length_take]; omega), et]
      unfold iL
      rw [List.map_append]; rfl
    dsimp only [Fs.at, Fs.set, List.set_cons_zero, List.set_cons_succ]
    refine pk_assign (v := .int (cntLt (row ++ [mk]) (row.length - (j + 1)) : Nat)) (σ := σ) ?_ ?_
    · simp only [pe_const, pe_name, slotV, pe_glob, pe_bin, pe_not, pe_neg, pe_is, pe_isnot, pe_eq, pe_ne, pe_lt, pe_le, pe_gt, pe_ge, pe_in, pe_notin, pe_bop, pe_ife, pe_list, pe_tup, pe_sub, pe_slice, pe_call, pe_bcall, pes_nil', pes_cons, pr_v, pr_t, bind_ok, bindA_ok, truth_ok, ofB_some, ofRes_ok, ofRes_exc, onL_some, onP_some, plains_nil, plains_cons, pall_and_nil, pall_or_nil, pall_and_cons, pall_or_cons, pbop_one, pbop_and, pbop_or, Option.map_some, List.map_cons, List.map_nil, List.getElem?_cons_zero, List.getElem?_cons_succ, dS_av, dr_none, dr_bool, dr_int, dr_str, dr_type, dr_range, dr_tup, dr_lst, dr_set, List.length_cons, List.length_nil, Bool.not_true, Bool.not_false, Nat.reduceAdd, Nat.reduceLeDiff, if_true, b1, b2]
    dsimp only [Fs.at, Fs.set, List.set_cons_zero, List.set_cons_succ]
    exact pk_nil ⟨_, rfl⟩
  · rintro st ⟨e6, rfl⟩
    have e1 : row.reverse.take (iL row).length = row.reverse := List.take_of_length_le (by simp)
    have e2 : row.length - (iL row).length = 0 := by rw [List.length_map]; omega
    rw [e1, e2]
    exact hK e6
/-- the test behind it -/
theorem test_back (S : SortedQ (row ++ [mk]) q) (hm : ∀ x ∈ row, mk < x) : (pe O cal true (l8 script row (colOf (row ++ [mk]) q) row.reverse way (nt (cntLt (row ++ [mk]) 0)) e6 e7 e8 e9 e10 e11 σ) (.bop .Or (.cons (.cmp .NotEq (.slice (.name 4) (.const .none) (.const .none) (.un .USub (.const (.int 1)))) (.name 2)) (.cons (.cmp .In (.sub (.name 3) (.name 5)) (.name 2)) .nil)))).t = some (false, σ) := by
  have tb := w_bool hO
  have b0 := w_neg hO 1
  have b1 := w_rev hO row.reverse
  rw [List.reverse_reverse] at b1
  have b2 := w_neL hO row row
  rw [beq_self_eq_true] at b2
  have b3 := w_at hO (col_at S (k := 0) (by simp))
  rw [chr_zero] at b3
  have b4 := w_inL hO mk row
  have b5 : row.any (· == mk) = false := by
    rw [List.any_eq_false]
    intro x hx
    have := hm x hx
    simp; omega
  rw [b5] at b4
  unfold l8
  simp only [pe_const, pe_name, slotV, pe_glob, pe_bin, pe_not, pe_neg, pe_is, pe_isnot, pe_eq, pe_ne, pe_lt, pe_le, pe_gt, pe_ge, pe_in, pe_notin, pe_bop, pe_ife, pe_list, pe_tup, pe_sub, pe_slice, pe_call, pe_bcall, pes_nil', pes_cons, pr_v, pr_t, bind_ok, bindA_ok, truth_ok, ofB_some, ofRes_ok, ofRes_exc, onL_some, onP_some, plains_nil, plains_cons, pall_and_nil, pall_or_nil, pall_and_cons, pall_or_cons, pbop_one, pbop_and, pbop_or, Option.map_some, List.map_cons, List.map_nil, List.getElem?_cons_zero, List.getElem?_cons_succ, dS_av, dr_none, dr_bool, dr_int, dr_str, dr_type, dr_range, dr_tup, dr_lst, dr_set, List.length_cons, List.length_nil, Bool.not_true, Bool.not_false, Nat.reduceAdd, Nat.reduceLeDiff, if_true, tb, b0, b1, b2, b3, b4, dS_own]
/-- one step of the search -/
theorem search_step (S : SortedQ (row ++ [mk]) q) (hm : ∀ x ∈ row, mk < x) (hz : row.length ≤ 60) {e j : Nat} (he : e < row.length) (hj : j ≤ e) {K : FR → Prop}
    (hK : ∀ e10 e11, K (.next (l8 script row (colOf (row ++ [mk]) q) told way e5 e6 (nt e) (nt (cntP (row ++ [mk]) (Plo ((row.drop (e - j)).take (j + 1))))) (nt (cntP (row ++ [mk]) (Phi ((row.drop (e - j)).take (j + 1))))) e10 e11 σ))) :
    K (pxs O cal true (l8 script row (colOf (row ++ [mk]) q) told way e5 e6 (nt e) (nt (cntP (row ++ [mk]) (Plo ((row.drop (e + 1 - j)).take j)))) (nt (cntP (row ++ [mk]) (Phi ((row.drop (e + 1 - j)).take j)))) (nt (e - j)) e11 σ) law_b2) := by
  have hml : (row ++ [mk]).length = row.length + 1 := by simp
  have hcl : (colOf (row ++ [mk]) q).length = row.length + 1 := by
    unfold colOf
    rw [List.length_map, S.perm.length_eq, List.length_range, hml]
  have hlt : e - j < row.length := by omega
  have b1 := w_at hO (List.getElem?_eq_getElem hlt)
  have ew : (row.drop (e - j)).take (j + 1) = row[e - j] :: (row.drop (e + 1 - j)).take j := by
    rw [List.drop_eq_getElem_cons hlt, List.take_succ_cons, show e - j + 1 = e + 1 - j by omega]
  have hwl : ((row.drop (e + 1 - j)).take j).length < (row ++ [mk]).length := by
    rw [List.length_take, hml]; omega
  have b2 := hP.pl (σ := σ) (lo := 0) (col := colOf (row ++ [mk]) q) (c := row[e - j]) (a := cntP (row ++ [mk]) (Plo ((row.drop (e + 1 - j)).take j))) (by omega)
  have b3 := hP.pl (σ := σ) (lo := 0) (col := colOf (row ++ [mk]) q) (c := row[e - j]) (a := cntP (row ++ [mk]) (Phi ((row.drop (e + 1 - j)).take j))) (by omega)
  rw [lo_step S hwl, ← ew] at b2
  rw [hi_step S hwl, ← ew] at b3
  have hw0 : ((row.drop (e - j)).take (j + 1)).length = j + 1 := by rw [List.length_take, List.length_drop]; omega
  have hwm : ∀ x ∈ (row.drop (e - j)).take (j + 1), x ≠ mk := fun x hx => Int.ne_of_gt (hm x (List.mem_of_mem_drop (List.mem_of_mem_take hx)))
  have hcnt := hi_lo (m := row ++ [mk]) ((row.drop (e - j)).take (j + 1))
  rw [found_eq hwm (by omega)] at hcnt
  generalize hw : (row.drop (e - j)).take (j + 1) = w at *
  generalize cntP (row ++ [mk]) (Plo w) = lo at *
  generalize cntP (row ++ [mk]) (Phi w) = hi at *
  generalize cntP (row ++ [mk]) (Plo ((row.drop (e + 1 - j)).take j)) = lo0 at *
  generalize cntP (row ++ [mk]) (Phi ((row.drop (e + 1 - j)).take j)) = hi0 at *
  generalize colOf (row ++ [mk]) q = col at *
  unfold law_b2 l8
  refine pk_unpack2 (x := .int (lo : Nat)) (y := .int (hi : Nat)) (σ₁ := σ) (σ := σ) ?_ ?_ ?_
  · simp only [pe_const, pe_name, slotV, pe_glob, pe_bin, pe_not, pe_neg, pe_is, pe_isnot, pe_eq, pe_ne, pe_lt, pe_le, pe_gt, pe_ge, pe_in, pe_notin, pe_bop, pe_ife, pe_list, pe_tup, pe_sub, pe_slice, pe_call, pe_bcall, pes_nil', pes_cons, pr_v, pr_t, bind_ok, bindA_ok, truth_ok, ofB_some, ofRes_ok, ofRes_exc, onL_some, onP_some, plains_nil, plains_cons, pall_and_nil, pall_or_nil, pall_and_cons, pall_or_cons, pbop_one, pbop_and, pbop_or, Option.map_some, List.map_cons, List.map_nil, List.getElem?_cons_zero, List.getElem?_cons_succ, dS_av, dr_none, dr_bool, dr_int, dr_str, dr_type, dr_range, dr_tup, dr_lst, dr_set, List.length_cons, List.length_nil, Bool.not_true, Bool.not_false, Nat.reduceAdd, Nat.reduceLeDiff, if_true, b1, b2]
  · simp only [pe_const, pe_name, slotV, pe_glob, pe_bin, pe_not, pe_neg, pe_is, pe_isnot, pe_eq, pe_ne, pe_lt, pe_le, pe_gt, pe_ge, pe_in, pe_notin, pe_bop, pe_ife, pe_list, pe_tup, pe_sub, pe_slice, pe_call, pe_bcall, pes_nil', pes_cons, pr_v, pr_t, bind_ok, bindA_ok, truth_ok, ofB_some, ofRes_ok, ofRes_exc, onL_some, onP_some, plains_nil, plains_cons, pall_and_nil, pall_or_nil, pall_and_cons, pall_or_cons, pbop_one, pbop_and, pbop_or, Option.map_some, List.map_cons, List.map_nil, List.getElem?_cons_zero, List.getElem?_cons_succ, dS_av, dr_none, dr_bool, dr_int, dr_str, dr_type, dr_range, dr_tup, dr_lst, dr_set, List.length_cons, List.length_nil, Bool.not_true, Bool.not_false, Nat.reduceAdd, Nat.reduceLeDiff, if_true, b1, b3]
  dsimp only [Fs.at, Fs.set, List.set_cons_zero, List.set_cons_succ]
  have b4 := w_add hO (e : Int) 1
  have b5 := w_cut hO (l := row) (k := e - j) (n := j + 1) (by omega)
  rw [show ((e - j + (j + 1) : Nat) : Int) = (e : Int) + 1 by omega, hw] at b5
  refine pk_assign (v := .lst (iL w)) (σ := σ) ?_ ?_
  · simp only [pe_const, pe_name, slotV, pe_glob, pe_bin, pe_not, pe_neg, pe_is, pe_isnot, pe_eq, pe_ne, pe_lt, pe_le, pe_gt, pe_ge, pe_in, pe_notin, pe_bop, pe_ife, pe_list, pe_tup, pe_sub, pe_slice, pe_call, pe_bcall, pes_nil', pes_cons, pr_v, pr_t, bind_ok, bindA_ok, truth_ok, ofB_some, ofRes_ok, ofRes_exc, onL_some, onP_some, plains_nil, plains_cons, pall_and_nil, pall_or_nil, pall_and_cons, pall_or_cons, pbop_one, pbop_and, pbop_or, Option.map_some, List.map_cons, List.map_nil, List.getElem?_cons_zero, List.getElem?_cons_succ, dS_av, dr_none, dr_bool, dr_int, dr_str, dr_type, dr_range, dr_tup, dr_lst, dr_set, List.length_cons, List.length_nil, Bool.not_true, Bool.not_false, Nat.reduceAdd, Nat.reduceLeDiff, if_true, b4, b5]
  dsimp only [Fs.at, Fs.set, List.set_cons_zero, List.set_cons_succ]
  have tb := w_bool hO
  have hcomp : (pe O cal true ⟨[some (.val (.lst (iL script))), some (.val (.int way)), some (.val (.lst (iL row))), some (.val (.lst (iL col))), some (.own (iL told)), e5, e6, nt e, nt lo, nt hi, nt (e - j), some (.val (.lst (iL w)))], σ, 0, 1⟩ (.comp [2, 11] (.name 12) (.bcall .range (.cons (.bcall .len (.cons (.name 2) .nil)) .nil)) (.cons (.cmp .Eq (.slice (.name 2) (.name 12) (.bin .Add (.name 12) (.bcall .len (.cons (.name 11) .nil))) (.const .none)) (.name 11)) .nil))).v = .ok (.av (.lst (((List.range row.length).filter fun k => (row.drop k).take w.length == w).map fun (k : Nat) => .int k))) σ := by
    rw [pe_comp (a := .av (.range 0 (row.length : Int) 1)) (σ₁ := σ) (l := (List.range row.length).map fun (i : Nat) => .int i) (ys := ((List.range row.length).filter fun k => (row.drop k).take w.length == w).map fun (k : Nat) => .int k)]
    · rfl
    · have c1 := w_len hO (iL row)
      rw [List.length_map] at c1
      have c2 := w_range1 hO (row.length : Int)
      simp only [pe_const, pe_name, slotV, pe_glob, pe_bin, pe_not, pe_neg, pe_is, pe_isnot, pe_eq, pe_ne, pe_lt, pe_le, pe_gt, pe_ge, pe_in, pe_notin, pe_bop, pe_ife, pe_list, pe_tup, pe_sub, pe_slice, pe_call, pe_bcall, pes_nil', pes_cons, pr_v, pr_t, bind_ok, bindA_ok, truth_ok, ofB_some, ofRes_ok, ofRes_exc, onL_some, onP_some, plains_nil, plains_cons, pall_and_nil, pall_or_nil, pall_and_cons, pall_or_cons, pbop_one, pbop_and, pbop_or, Option.map_some, List.map_cons, List.map_nil, List.getElem?_cons_zero, List.getElem?_cons_succ, dS_av, dr_none, dr_bool, dr_int, dr_str, dr_type, dr_range, dr_tup, dr_lst, dr_set, List.length_cons, List.length_nil, Bool.not_true, Bool.not_false, Nat.reduceAdd, Nat.reduceLeDiff, if_true, c1, c2]
    · rw [dS_av]; exact w_upI hO (by omega)
    · refine mapF_filter fun k hk => ?_
      have hk := List.mem_range.mp hk
      have e : Fs.inner (Fs.at ⟨[some (.val (.lst (iL script))), some (.val (.int way)), some (.val (.lst (iL row))), some (.val (.lst (iL col))), some (.own (iL told)), e5, e6, nt e, nt lo, nt hi, nt (e - j), some (.val (.lst (iL w)))], σ, 0, 1⟩ σ) [2, 11] (.int (k : Int)) = ⟨[none, none, some (.val (.lst (iL row))), none, none, none, none, none, none, none, none, some (.val (.lst (iL w))), some (.val (.int (k : Int)))], σ, σ.length, 1⟩ := by kernel_rfl
      rw [e]
      have c1 := w_len hO (iL w)
      rw [List.length_map] at c1
      have c2 := w_add hO (k : Int) (w.length : Int)
      have c3 := w_cut hO (l := row) (k := k) (n := w.length) (by omega)
      rw [show ((k + w.length : Nat) : Int) = (k : Int) + (w.length : Int) by omega] at c3
      have c4 := w_eqL hO ((row.drop k).take w.length) w
      have ht : (pe O cal true ⟨[none, none, some (.val (.lst (iL row))), none, none, none, none, none, none, none, none, some (.val (.lst (iL w))), some (.val (.int (k : Int)))], σ, σ.length, 1⟩ (.cmp .Eq (.slice (.name 2) (.name 12) (.bin .Add (.name 12) (.bcall .len (.cons (.name 11) .nil))) (.const .none)) (.name 11))).t = some ((row.drop k).take w.length == w, σ) := by
        simp only [pe_const, pe_name, slotV, pe_glob, pe_bin, pe_not, pe_neg, pe_is, pe_isnot, pe_eq, pe_ne, pe_lt, pe_le, pe_gt, pe_ge, pe_in, pe_notin, pe_bop, pe_ife, pe_list, pe_tup, pe_sub, pe_slice, pe_call, pe_bcall, pes_nil', pes_cons, pr_v, pr_t, bind_ok, bindA_ok, truth_ok, ofB_some, ofRes_ok, ofRes_exc, onL_some, onP_some, plains_nil, plains_cons, pall_and_nil, pall_or_nil, pall_and_cons, pall_or_cons, pbop_one, pbop_and, pbop_or, Option.map_some, List.map_cons, List.map_nil, List.getElem?_cons_zero, List.getElem?_cons_succ, dS_av, dr_none, dr_bool, dr_int, dr_str, dr_type, dr_range, dr_tup, dr_lst, dr_set, List.length_cons, List.length_nil, Bool.not_true, Bool.not_false, Nat.reduceAdd, Nat.reduceLeDiff, if_true, c1, c2, c3, c4, tb]
      rw [pall_and_cons, ht]
      cases h : ((row.drop k).take w.length == w) with
      | true =>
        dsimp only
        rw [pall_and_nil, if_pos rfl]
        exact compF_t (v := .int (k : Int)) (σ' := σ) (by simp only [pe_const, pe_name, slotV, pe_glob, pe_bin, pe_not, pe_neg, pe_is, pe_isnot, pe_eq, pe_ne, pe_lt, pe_le, pe_gt, pe_ge, pe_in, pe_notin, pe_bop, pe_ife, pe_list, pe_tup, pe_sub, pe_slice, pe_call, pe_bcall, pes_nil', pes_cons, pr_v, pr_t, bind_ok, bindA_ok, truth_ok, ofB_some, ofRes_ok, ofRes_exc, onL_some, onP_some, plains_nil, plains_cons, pall_and_nil, pall_or_nil, pall_and_cons, pall_or_cons, pbop_one, pbop_and, pbop_or, Option.map_some, List.map_cons, List.map_nil, List.getElem?_cons_zero, List.getElem?_cons_succ, dS_av, dr_none, dr_bool, dr_int, dr_str, dr_type, dr_range, dr_tup, dr_lst, dr_set, List.length_cons, List.length_nil, Bool.not_true, Bool.not_false, Nat.reduceAdd, Nat.reduceLeDiff, if_true]) rfl
      | false => rfl
  have c1 := w_sub hO (hi : Int) (lo : Int)
  have c2 := w_len hO (((List.range row.length).filter fun k => (row.drop k).take w.length == w).map fun (k : Nat) => AV.int k)
  have ec : (((((List.range row.length).filter fun k => (row.drop k).take w.length == w).map fun (k : Nat) => AV.int k).length : Nat) : Int) = (hi : Int) - (lo : Int) := by
    rw [List.length_map, ← List.countP_eq_length_filter, hcnt]; omega
  rw [ec] at c2
  have c3 := w_neI hO ((hi : Int) - lo) ((hi : Int) - lo)
  rw [bne_self_eq_false] at c3
  refine pk_skip (σ := σ) ?_ (pk_nil (hK _ _))
  simp only [pe_const, pe_name, slotV, pe_glob, pe_bin, pe_not, pe_neg, pe_is, pe_isnot, pe_eq, pe_ne, pe_lt, pe_le, pe_gt, pe_ge, pe_in, pe_notin, pe_bop, pe_ife, pe_list, pe_tup, pe_sub, pe_slice, pe_call, pe_bcall, pes_nil', pes_cons, pr_v, pr_t, bind_ok, bindA_ok, truth_ok, ofB_some, ofRes_ok, ofRes_exc, onL_some, onP_some, plains_nil, plains_cons, pall_and_nil, pall_or_nil, pall_and_cons, pall_or_cons, pbop_one, pbop_and, pbop_or, Option.map_some, List.map_cons, List.map_nil, List.getElem?_cons_zero, List.getElem?_cons_succ, dS_av, dr_none, dr_bool, dr_int, dr_str, dr_type, dr_range, dr_tup, dr_lst, dr_set, List.length_cons, List.length_nil, Bool.not_true, Bool.not_false, Nat.reduceAdd, Nat.reduceLeDiff, if_true, hcomp, c1, c2, c3, tb]
/-- the searches -/
theorem loop_search (S : SortedQ (row ++ [mk]) q) (hm : ∀ x ∈ row, mk < x) (hz : row.length ≤ 60)
    (hK : ∀ st : Fs, st.σ = σ → K (pxs O cal true st r)) : K (pxs O cal true (l8 script row (colOf (row ++ [mk]) q) told way e5 e6 e7 e8 e9 e10 e11 σ) (.cons (.for_ 7 (.bcall .range (.cons (.bcall .len (.cons (.name 2) .nil)) .nil)) law_b1) r)) := by
  have hml : (row ++ [mk]).length = row.length + 1 := by simp
  have hcl : (colOf (row ++ [mk]) q).length = row.length + 1 := by
    unfold colOf
    rw [List.length_map, S.perm.length_eq, List.length_range, hml]
  have c1 := w_len hO (iL row)
  rw [List.length_map] at c1
  have c2 := w_range1 hO (row.length : Int)
  refine pk_for (v := .range 0 (row.length : Int) 1) (σ := σ) (l := (List.range row.length).map fun (i : Nat) => .int i) (fun _ st => ∃ e7 e8 e9 e10 e11, st = l8 script row (colOf (row ++ [mk]) q) told way e5 e6 e7 e8 e9 e10 e11 σ) ?_ (w_upI hO (by omega)) ⟨e7, e8, e9, e10, e11, rfl⟩ ?_ ?_
  · unfold l8
    simp only [pe_const, pe_name, slotV, pe_glob, pe_bin, pe_not, pe_neg, pe_is, pe_isnot, pe_eq, pe_ne, pe_lt, pe_le, pe_gt, pe_ge, pe_in, pe_notin, pe_bop, pe_ife, pe_list, pe_tup, pe_sub, pe_slice, pe_call, pe_bcall, pes_nil', pes_cons, pr_v, pr_t, bind_ok, bindA_ok, truth_ok, ofB_some, ofRes_ok, ofRes_exc, onL_some, onP_some, plains_nil, plains_cons, pall_and_nil, pall_or_nil, pall_and_cons, pall_or_cons, pbop_one, pbop_and, pbop_or, Option.map_some, List.map_cons, List.map_nil, List.getElem?_cons_zero, List.getElem?_cons_succ, dS_av, dr_none, dr_bool, dr_int, dr_str, dr_type, dr_range, dr_tup, dr_lst, dr_set, List.length_cons, List.length_nil, Bool.not_true, Bool.not_false, Nat.reduceAdd, Nat.reduceLeDiff, if_true, c1, c2]
  · rintro e x st hx ⟨e7, e8, e9, e10, e11, rfl⟩
    obtain ⟨he, rfl⟩ := range_get hx
    unfold law_b1 l8
    dsimp only [Fs.at, Fs.set, List.set_cons_zero, List.set_cons_succ]
    have d1 := w_len hO (iL (colOf (row ++ [mk]) q))
    rw [List.length_map, hcl] at d1
    refine pk_unpack2 (x := .int 0) (y := .int ((row.length + 1 : Nat) : Int)) (σ₁ := σ) (σ := σ) ?_ ?_ ?_
    · simp only [pe_const, pe_name, slotV, pe_glob, pe_bin, pe_not, pe_neg, pe_is, pe_isnot, pe_eq, pe_ne, pe_lt, pe_le, pe_gt, pe_ge, pe_in, pe_notin, pe_bop, pe_ife, pe_list, pe_tup, pe_sub, pe_slice, pe_call, pe_bcall, pes_nil', pes_cons, pr_v, pr_t, bind_ok, bindA_ok, truth_ok, ofB_some, ofRes_ok, ofRes_exc, onL_some, onP_some, plains_nil, plains_cons, pall_and_nil, pall_or_nil, pall_and_cons, pall_or_cons, pbop_one, pbop_and, pbop_or, Option.map_some, List.map_cons, List.map_nil, List.getElem?_cons_zero, List.getElem?_cons_succ, dS_av, dr_none, dr_bool, dr_int, dr_str, dr_type, dr_range, dr_tup, dr_lst, dr_set, List.length_cons, List.length_nil, Bool.not_true, Bool.not_false, Nat.reduceAdd, Nat.reduceLeDiff, if_true]
    · simp only [pe_const, pe_name, slotV, pe_glob, pe_bin, pe_not, pe_neg, pe_is, pe_isnot, pe_eq, pe_ne, pe_lt, pe_le, pe_gt, pe_ge, pe_in, pe_notin, pe_bop, pe_ife, pe_list, pe_tup, pe_sub, pe_slice, pe_call, pe_bcall, pes_nil', pes_cons, pr_v, pr_t, bind_ok, bindA_ok, truth_ok, ofB_some, ofRes_ok, ofRes_exc, onL_some, onP_some, plains_nil, plains_cons, pall_and_nil, pall_or_nil, pall_and_cons, pall_or_cons, pbop_one, pbop_and, pbop_or, Option.map_some, List.map_cons, List.map_nil, List.getElem?_cons_zero, List.getElem?_cons_succ, dS_av, dr_none, dr_bool, dr_int, dr_str, dr_type, dr_range, dr_tup, dr_lst, dr_set, List.length_cons, List.length_nil, Bool.not_true, Bool.not_false, Nat.reduceAdd, Nat.reduceLeDiff, if_true, d1]
    dsimp only [Fs.at, Fs.set, List.set_cons_zero, List.set_cons_succ]
    have d2 := w_neg hO 1
    have d3 := w_range3 hO (a := (e : Int)) (b := -1) (PyProof.noPylong_small (by decide))
    refine pk_for (v := .range (e : Int) (-1) (-1)) (σ := σ) (l := (List.range (e + 1)).map fun (i : Nat) => .int ((e : Int) - i)) (fun j st => ∃ e10 e11, st = l8 script row (colOf (row ++ [mk]) q) told way e5 e6 (nt e) (nt (cntP (row ++ [mk]) (Plo ((row.drop (e + 1 - j)).take j)))) (nt (cntP (row ++ [mk]) (Phi ((row.drop (e + 1 - j)).take j)))) e10 e11 σ) ?_ (w_downI hO (by omega)) ⟨e10, e11, ?_⟩ ?_ ?_
    · simp only [pe_const, pe_name, slotV, pe_glob, pe_bin, pe_not, pe_neg, pe_is, pe_isnot, pe_eq, pe_ne, pe_lt, pe_le, pe_gt, pe_ge, pe_in, pe_notin, pe_bop, pe_ife, pe_list, pe_tup, pe_sub, pe_slice, pe_call, pe_bcall, pes_nil', pes_cons, pr_v, pr_t, bind_ok, bindA_ok, truth_ok, ofB_some, ofRes_ok, ofRes_exc, onL_some, onP_some, plains_nil, plains_cons, pall_and_nil, pall_or_nil, pall_and_cons, pall_or_cons, pbop_one, pbop_and, pbop_or, Option.map_some, List.map_cons, List.map_nil, List.getElem?_cons_zero, List.getElem?_cons_succ, dS_av, dr_none, dr_bool, dr_int, dr_str, dr_type, dr_range, dr_tup, dr_lst, dr_set, List.length_cons, List.length_nil, Bool.not_true, Bool.not_false, Nat.reduceAdd, Nat.reduceLeDiff, if_true, d2, d3]
    · rw [List.take_zero, lo_nil, hi_nil, hml]; rfl
    · rintro j y st hy ⟨e10, e11, rfl⟩
      have hj : j < e + 1 := by
        have := (List.getElem?_eq_some_iff.mp hy).1
        simpa using this
      rw [List.getElem?_map, List.getElem?_range hj] at hy
      cases hy
      have es : Fs.set (l8 script row (colOf (row ++ [mk]) q) told way e5 e6 (nt e) (nt (cntP (row ++ [mk]) (Plo ((row.drop (e + 1 - j)).take j)))) (nt (cntP (row ++ [mk]) (Phi ((row.drop (e + 1 - j)).take j)))) e10 e11 σ) 10 (.val (.int ((e : Int) - (j : Nat)))) = l8 script row (colOf (row ++ [mk]) q) told way e5 e6 (nt e) (nt (cntP (row ++ [mk]) (Plo ((row.drop (e + 1 - j)).take j)))) (nt (cntP (row ++ [mk]) (Phi ((row.drop (e + 1 - j)).take j)))) (nt (e - j)) e11 σ := by
        have : ((e : Int) - (j : Nat)) = ((e - j : Nat) : Int) := by omega
        rw [this]
        rfl
      rw [es]
      refine search_step hO hP S hm hz he (by omega) fun e10 e11 => ⟨e10, e11, ?_⟩
      rw [show e + 1 - (j + 1) = e - j by omega]
    · rintro st ⟨e10, e11, rfl⟩
      exact pk_nil ⟨_, _, _, _, _, rfl⟩
  · rintro st ⟨e7, e8, e9, e10, e11, rfl⟩
    exact hK _ rfl
end
theorem plc3 (P0 : Addr) : PlC (cal3 P0) := ⟨fun hz => by rw [cal3_2]; exact cal2_place hz⟩
theorem col3 (P0 : Addr) {row : List Int} (hz : row.length ≤ 60) : cal3 P0 [some (.tab P0 true)] 0 1 [.lst (iL row)] = .ok (.av (.lst (iL (colOf (mkd row) (srtQ (mkd row)))))) [some (.tab P0 false)] := by
  rw [cal3_1]
  unfold colF
  dsimp only
  rw [ints_map]
  dsimp only
  rw [if_pos ⟨rfl, rfl, hz⟩]
section
variable {O : OpsF} (hO : O = opsB) {cal : Cal} (hP : PlC cal) {σ0 σ1 : Store} (hC : ∀ {row : List Int}, row.length ≤ 60 → cal σ0 0 1 [.lst (iL row)] = .ok (.av (.lst (iL (colOf (mkd row) (srtQ (mkd row)))))) σ1)
include hO hP hC
/-- from the row on -/
theorem law_tail {script row : List Int} {way : Int} (hz : row.length ≤ 60) {r : PSs} (e : law_p = .cons (.assign 0 (.slice (.name 0) (.const .none) (.const (.int 25)) (.const .none))) r) {r2 : PSs} (e2 : ∃ a b, r = .cons a (.cons b r2)) :
    fnRes (pxs O cal true ⟨[some (.val (.lst (iL script))), some (.val (.int way)), some (.val (.lst (iL row))), none, none, none, none, none, none, none, none, none], σ0, 0, 1⟩ r2) = .ok (.av (.bool true)) σ1 := by
  obtain ⟨mk, em, hmk, _⟩ := mkd_eq row
  have S : SortedQ (row ++ [mk]) (srtQ (row ++ [mk])) := srtQ_sorted (rot_inj fun x hx => Int.ne_of_gt (hmk x hx))
  have hc := hC hz
  rw [em] at hc
  unfold law_p at e
  injection e with _ e
  subst e
  obtain ⟨a, b, e2⟩ := e2
  injection e2 with _ e2
  injection e2 with _ e2
  subst e2
  refine fn_ret (pk_assign (v := .lst (iL (colOf (row ++ [mk]) (srtQ (row ++ [mk]))))) (σ := σ1) ?_ ?_)
  · simp only [pe_const, pe_name, slotV, pe_glob, pe_bin, pe_not, pe_neg, pe_is, pe_isnot, pe_eq, pe_ne, pe_lt, pe_le, pe_gt, pe_ge, pe_in, pe_notin, pe_bop, pe_ife, pe_list, pe_tup, pe_sub, pe_slice, pe_call, pe_bcall, pes_nil', pes_cons, pr_v, pr_t, bind_ok, bindA_ok, truth_ok, ofB_some, ofRes_ok, ofRes_exc, onL_some, onP_some, plains_nil, plains_cons, pall_and_nil, pall_or_nil, pall_and_cons, pall_or_cons, pbop_one, pbop_and, pbop_or, Option.map_some, List.map_cons, List.map_nil, List.getElem?_cons_zero, List.getElem?_cons_succ, dS_av, dr_none, dr_bool, dr_int, dr_str, dr_type, dr_range, dr_tup, dr_lst, dr_set, List.length_cons, List.length_nil, Bool.not_true, Bool.not_false, Nat.reduceAdd, Nat.reduceLeDiff, if_true, hc]
  dsimp only [Fs.at, Fs.set, List.set_cons_zero, List.set_cons_succ]
  refine pk_own (ol := []) (ys := []) (σ := σ1) rfl rfl (by simp) ?_
  dsimp only [Fs.at, Fs.set, List.set_cons_zero, List.set_cons_succ]
  refine pk_assign (v := .int 0) (σ := σ1) ?_ ?_
  · simp only [pe_const, pe_name, slotV, pe_glob, pe_bin, pe_not, pe_neg, pe_is, pe_isnot, pe_eq, pe_ne, pe_lt, pe_le, pe_gt, pe_ge, pe_in, pe_notin, pe_bop, pe_ife, pe_list, pe_tup, pe_sub, pe_slice, pe_call, pe_bcall, pes_nil', pes_cons, pr_v, pr_t, bind_ok, bindA_ok, truth_ok, ofB_some, ofRes_ok, ofRes_exc, onL_some, onP_some, plains_nil, plains_cons, pall_and_nil, pall_or_nil, pall_and_cons, pall_or_cons, pbop_one, pbop_and, pbop_or, Option.map_some, List.map_cons, List.map_nil, List.getElem?_cons_zero, List.getElem?_cons_succ, dS_av, dr_none, dr_bool, dr_int, dr_str, dr_type, dr_range, dr_tup, dr_lst, dr_set, List.length_cons, List.length_nil, Bool.not_true, Bool.not_false, Nat.reduceAdd, Nat.reduceLeDiff, if_true]
  dsimp only [Fs.at, Fs.set, List.set_cons_zero, List.set_cons_succ]
  refine loop_back hO hP (script := script) (way := way) (e6 := none) (e7 := none) (e8 := none) (e9 := none) (e10 := none) (e11 := none) (σ := σ1) S hmk hz fun e6 => ?_
  refine pk_skip (σ := σ1) (test_back hO hP S hmk) ?_
  refine loop_search hO hP (σ := σ1) S hmk hz fun st hst => ?_
  obtain ⟨ρ, σ, lo, n0⟩ := st
  have hst : σ = σ1 := hst
  subst hst
  refine pk_ret (v := .bool true) (σ := σ) ?_ ends_ret
  simp only [pe_const, pe_name, slotV, pe_glob, pe_bin, pe_not, pe_neg, pe_is, pe_isnot, pe_eq, pe_ne, pe_lt, pe_le, pe_gt, pe_ge, pe_in, pe_notin, pe_bop, pe_ife, pe_list, pe_tup, pe_sub, pe_slice, pe_call, pe_bcall, pes_nil', pes_cons, pr_v, pr_t, bind_ok, bindA_ok, truth_ok, ofB_some, ofRes_ok, ofRes_exc, onL_some, onP_some, plains_nil, plains_cons, pall_and_nil, pall_or_nil, pall_and_cons, pall_or_cons, pbop_one, pbop_and, pbop_or, Option.map_some, List.map_cons, List.map_nil, List.getElem?_cons_zero, List.getElem?_cons_succ, dS_av, dr_none, dr_bool, dr_int, dr_str, dr_type, dr_range, dr_tup, dr_lst, dr_set, List.length_cons, List.length_nil, Bool.not_true, Bool.not_false, Nat.reduceAdd, Nat.reduceLeDiff, if_true]
end
theorem law_row {script : List Int} (h : script.length ≤ 25) {g : Int → Int} : ((script.drop 1).map g).length ≤ 60 := by rw [List.length_map, List.length_drop]; omega
section
variable {O : OpsF} (hO : O = opsB) {cal : Cal} (hP : PlC cal) {σ0 σ1 : Store} (hC : ∀ {row : List Int}, row.length ≤ 60 → cal σ0 0 1 [.lst (iL row)] = .ok (.av (.lst (iL (colOf (mkd row) (srtQ (mkd row)))))) σ1)
include hO
theorem law_way {script : List Int} : ∃ way : Int, 0 ≤ way ∧ (pe O cal true ⟨[some (.val (.lst (iL script))), none, none, none, none, none, none, none, none, none, none, none], σ0, 0, 1⟩ (.ife (.name 0) (.bin .Mod (.sub (.name 0) (.const (.int 0))) (.const (.int 4))) (.const (.int 0)))).v = .ok (.av (.int way)) σ0 := by
  cases script with
  | nil =>
    refine ⟨0, Int.le_refl _, ?_⟩
    have tb := w_truthL hO ([] : List AV)
    have e : iL [] = [] := rfl
    rw [e]
    have ei : (!([] : List AV).isEmpty) = false := rfl
    rw [ei] at tb
    simp only [pe_const, pe_name, slotV, pe_glob, pe_bin, pe_not, pe_neg, pe_is, pe_isnot, pe_eq, pe_ne, pe_lt, pe_le, pe_gt, pe_ge, pe_in, pe_notin, pe_bop, pe_ife, pe_list, pe_tup, pe_sub, pe_slice, pe_call, pe_bcall, pes_nil', pes_cons, pr_v, pr_t, bind_ok, bindA_ok, truth_ok, ofB_some, ofRes_ok, ofRes_exc, onL_some, onP_some, plains_nil, plains_cons, pall_and_nil, pall_or_nil, pall_and_cons, pall_or_cons, pbop_one, pbop_and, pbop_or, Option.map_some, List.map_cons, List.map_nil, List.getElem?_cons_zero, List.getElem?_cons_succ, dS_av, dr_none, dr_bool, dr_int, dr_str, dr_type, dr_range, dr_tup, dr_lst, dr_set, List.length_cons, List.length_nil, Bool.not_true, Bool.not_false, Nat.reduceAdd, Nat.reduceLeDiff, if_true, tb]
  | cons x l =>
    refine ⟨x.fmod 4, Int.fmod_nonneg_of_pos _ (by decide), ?_⟩
    have tb := w_truthL hO (iL (x :: l))
    have ei : (!(iL (x :: l)).isEmpty) = true := rfl
    rw [ei] at tb
    have b1 : O.idx (.lst (iL (x :: l))) (.int 0) = .ok (.int x) := w_at hO (k := 0) rfl
    have b2 := w_mod hO (a := x) (b := 4) (by decide)
    generalize iL (x :: l) = L at tb b1 ⊢
    simp only [pe_const, pe_name, slotV, pe_glob, pe_bin, pe_not, pe_neg, pe_is, pe_isnot, pe_eq, pe_ne, pe_lt, pe_le, pe_gt, pe_ge, pe_in, pe_notin, pe_bop, pe_ife, pe_list, pe_tup, pe_sub, pe_slice, pe_call, pe_bcall, pes_nil', pes_cons, pr_v, pr_t, bind_ok, bindA_ok, truth_ok, ofB_some, ofRes_ok, ofRes_exc, onL_some, onP_some, plains_nil, plains_cons, pall_and_nil, pall_or_nil, pall_and_cons, pall_or_cons, pbop_one, pbop_and, pbop_or, Option.map_some, List.map_cons, List.map_nil, List.getElem?_cons_zero, List.getElem?_cons_succ, dS_av, dr_none, dr_bool, dr_int, dr_str, dr_type, dr_range, dr_tup, dr_lst, dr_set, List.length_cons, List.length_nil, Bool.not_true, Bool.not_false, Nat.reduceAdd, Nat.reduceLeDiff, if_true, tb, b1, b2]
theorem law_rowe {script : List Int} {way : Int} (hw : 0 ≤ way) : ∃ g : Int → Int, (pe O cal true ⟨[some (.val (.lst (iL script))), some (.val (.int way)), none, none, none, none, none, none, none, none, none, none], σ0, 0, 1⟩ (.comp [1] (.ife (.cmp .Gt (.name 1) (.const (.int 0))) (.bin .Mod (.name 12) (.bin .Add (.name 1) (.const (.int 1)))) (.name 12)) (.slice (.name 0) (.const (.int 1)) (.const .none) (.const .none)) (.nil))).v = .ok (.av (.lst (iL ((script.drop 1).map g)))) σ0 := by
  refine ⟨fun x => if way > 0 then x.fmod (way + 1) else x, ?_⟩
  have b0 : O.slice (.lst (iL script)) (.int 1) .none .none = .ok (.lst (iL (script.drop 1))) := by
    rw [w_slice hO]
    have := sl_drop (iL script) 1
    rw [show iL (script.drop 1) = (iL script).drop 1 from List.map_drop ..]
    exact this
  rw [pe_comp (a := .av (.lst (iL (script.drop 1)))) (σ₁ := σ0) (l := iL (script.drop 1)) (ys := iL ((script.drop 1).map fun x => if way > 0 then x.fmod (way + 1) else x))]
  · rfl
  · simp only [pe_const, pe_name, slotV, pe_glob, pe_bin, pe_not, pe_neg, pe_is, pe_isnot, pe_eq, pe_ne, pe_lt, pe_le, pe_gt, pe_ge, pe_in, pe_notin, pe_bop, pe_ife, pe_list, pe_tup, pe_sub, pe_slice, pe_call, pe_bcall, pes_nil', pes_cons, pr_v, pr_t, bind_ok, bindA_ok, truth_ok, ofB_some, ofRes_ok, ofRes_exc, onL_some, onP_some, plains_nil, plains_cons, pall_and_nil, pall_or_nil, pall_and_cons, pall_or_cons, pbop_one, pbop_and, pbop_or, Option.map_some, List.map_cons, List.map_nil, List.getElem?_cons_zero, List.getElem?_cons_succ, dS_av, dr_none, dr_bool, dr_int, dr_str, dr_type, dr_range, dr_tup, dr_lst, dr_set, List.length_cons, List.length_nil, Bool.not_true, Bool.not_false, Nat.reduceAdd, Nat.reduceLeDiff, if_true, b0]
  · rw [dS_av]; exact w_items hO _
  · unfold iL
    rw [List.map_map]
    refine mapF_map fun x hx => ?_
    have e : Fs.inner (Fs.at ⟨[some (.val (.lst (iL script))), some (.val (.int way)), none, none, none, none, none, none, none, none, none, none], σ0, 0, 1⟩ σ0) [1] (.int x) = ⟨[none, some (.val (.int way)), none, none, none, none, none, none, none, none, none, none, some (.val (.int x))], σ0, σ0.length, 1⟩ := by kernel_rfl
    rw [e, pall_and_nil]
    have tb := w_bool hO
    have b1 := w_gtI hO way 0
    have b2 := w_add hO way 1
    have b3 := w_mod hO (a := x) (b := way + 1) (by omega)
    by_cases h : way > 0
    · rw [decide_eq_true h] at b1
      refine compF_t (v := .int (x.fmod (way + 1))) (σ' := σ0) ?_ rfl |>.trans ?_
      · simp only [pe_const, pe_name, slotV, pe_glob, pe_bin, pe_not, pe_neg, pe_is, pe_isnot, pe_eq, pe_ne, pe_lt, pe_le, pe_gt, pe_ge, pe_in, pe_notin, pe_bop, pe_ife, pe_list, pe_tup, pe_sub, pe_slice, pe_call, pe_bcall, pes_nil', pes_cons, pr_v, pr_t, bind_ok, bindA_ok, truth_ok, ofB_some, ofRes_ok, ofRes_exc, onL_some, onP_some, plains_nil, plains_cons, pall_and_nil, pall_or_nil, pall_and_cons, pall_or_cons, pbop_one, pbop_and, pbop_or, Option.map_some, List.map_cons, List.map_nil, List.getElem?_cons_zero, List.getElem?_cons_succ, dS_av, dr_none, dr_bool, dr_int, dr_str, dr_type, dr_range, dr_tup, dr_lst, dr_set, List.length_cons, List.length_nil, Bool.not_true, Bool.not_false, Nat.reduceAdd, Nat.reduceLeDiff, if_true, tb, b1, b2, b3]
      · show some (some (AV.int (x.fmod (way + 1)))) = some (some (AV.int (if way > 0 then x.fmod (way + 1) else x)))
        rw [if_pos h]
    · rw [decide_eq_false h] at b1
      refine compF_t (v := .int x) (σ' := σ0) ?_ rfl |>.trans ?_
      · simp only [pe_const, pe_name, slotV, pe_glob, pe_bin, pe_not, pe_neg, pe_is, pe_isnot, pe_eq, pe_ne, pe_lt, pe_le, pe_gt, pe_ge, pe_in, pe_notin, pe_bop, pe_ife, pe_list, pe_tup, pe_sub, pe_slice, pe_call, pe_bcall, pes_nil', pes_cons, pr_v, pr_t, bind_ok, bindA_ok, truth_ok, ofB_some, ofRes_ok, ofRes_exc, onL_some, onP_some, plains_nil, plains_cons, pall_and_nil, pall_or_nil, pall_and_cons, pall_or_cons, pbop_one, pbop_and, pbop_or, Option.map_some, List.map_cons, List.map_nil, List.getElem?_cons_zero, List.getElem?_cons_succ, dS_av, dr_none, dr_bool, dr_int, dr_str, dr_type, dr_range, dr_tup, dr_lst, dr_set, List.length_cons, List.length_nil, Bool.not_true, Bool.not_false, Nat.reduceAdd, Nat.reduceLeDiff, if_true, tb, b1, b2, b3]
      · show some (some (AV.int x)) = some (some (AV.int (if way > 0 then x.fmod (way + 1) else x)))
        rw [if_neg h]
include hP hC
theorem law_all (ns : List Int) : fnRes (pxs O cal true ⟨[some (.val (.lst (iL ns))), none, none, none, none, none, none, none, none, none, none, none], σ0, 0, 1⟩ law_p) = .ok (.av (.bool true)) σ1 := by
  have b0 : O.slice (.lst (iL ns)) .none (.int 25) .none = .ok (.lst (iL (ns.take 25))) := by
    rw [w_slice hO]
    have := sl_take (iL ns) 25
    rw [show iL (ns.take 25) = (iL ns).take 25 from List.map_take ..]
    exact this
  obtain ⟨way, hw, ew⟩ := law_way hO (cal := cal) (σ0 := σ0) (script := ns.take 25)
  obtain ⟨g, eg⟩ := law_rowe hO (cal := cal) (σ0 := σ0) (script := ns.take 25) hw
  have hl : (ns.take 25).length ≤ 25 := by rw [List.length_take]; omega
  have T := fun {r r2} => law_tail hO hP hC (script := ns.take 25) (way := way) (law_row hl (g := g)) (r := r) (r2 := r2)
  refine fn_ret ?_
  show Ends _ (pxs O cal true _ law_p)
  unfold law_p at T ⊢
  refine pk_assign (v := .lst (iL (ns.take 25))) (σ := σ0) ?_ ?_
  · simp only [pe_const, pe_name, slotV, pe_glob, pe_bin, pe_not, pe_neg, pe_is, pe_isnot, pe_eq, pe_ne, pe_lt, pe_le, pe_gt, pe_ge, pe_in, pe_notin, pe_bop, pe_ife, pe_list, pe_tup, pe_sub, pe_slice, pe_call, pe_bcall, pes_nil', pes_cons, pr_v, pr_t, bind_ok, bindA_ok, truth_ok, ofB_some, ofRes_ok, ofRes_exc, onL_some, onP_some, plains_nil, plains_cons, pall_and_nil, pall_or_nil, pall_and_cons, pall_or_cons, pbop_one, pbop_and, pbop_or, Option.map_some, List.map_cons, List.map_nil, List.getElem?_cons_zero, List.getElem?_cons_succ, dS_av, dr_none, dr_bool, dr_int, dr_str, dr_type, dr_range, dr_tup, dr_lst, dr_set, List.length_cons, List.length_nil, Bool.not_true, Bool.not_false, Nat.reduceAdd, Nat.reduceLeDiff, if_true, b0]
  dsimp only [Fs.at, Fs.set, List.set_cons_zero, List.set_cons_succ]
  refine pk_assign (v := .int way) (σ := σ0) ew ?_
  dsimp only [Fs.at, Fs.set, List.set_cons_zero, List.set_cons_succ]
  refine pk_assign (v := .lst (iL (((ns.take 25).drop 1).map g))) (σ := σ0) eg ?_
  dsimp only [Fs.at, Fs.set, List.set_cons_zero, List.set_cons_succ]
  exact T rfl ⟨_, _, rfl⟩
end
theorem law_true (P0 : Addr) (ns : List Int) : lawRes P0 ns = .ok (.av (.bool true)) [some (.tab P0 false)] := law_all (O := opsB) rfl (plc3 P0) (fun h => col3 P0 h) ns
end Mine
end
section
open PySem PySem.W PyProof.Rows PySem.Calls
namespace Mine
set_option maxRecDepth 100000
set_option linter.unusedVariables false
set_option linter.unusedSectionVars false
theorem ltI_ltL : ∀ a b : List Int, ltI a b = ltL a b
  | a, [] => by rw [ltI_nil', ltL_nil']
  | [], _ :: _ => rfl
  | x :: a, y :: b => by rw [ltI_cons, ltI_ltL a b]; rfl
/-- the three statements of _law_column -/
theorem col_body {c : Cx} (hnb : NoneBooked c.h0) {cal : Cal} (CO : CallsOk c 4 cal fname) (hfree : ∀ x ∈ frees, c.mg x = none) {s1 s3 : Stmt} {env : Env} {cd P0 : Addr} {row : List Int} {rest : Store}
    (he1 : encS frees fname env.scope.names law_column_ns col_p1 s1 = true) (he2 : encE frees fname env.scope.names law_column_ns col_it colIt = true) (he3 : encSs frees fname env.scope.names law_column_ns (.cons col_p3 .nil) [s3] = true)
    (hn2 : nameAt env.scope.names law_column_ns 2 (PySem.Str.ofString "starts") = true) (hg : isGlob env.scope.names (Str.ofString "sorted") = true) (hkd : env.kindOf sMarked = some .cell) (hef : env.frame = some env.locals) (hcode : env.code = .ref cd) (hC : CodeHd c.h0 cd P0) (hB : c.h0.BuiltinsAt c.mg P0) (hgP : mainGlobals ≠ P0) (hz : row.length ≤ 60) :
    StOk c true 4 law_column_ns env (st0 [.lst (iL row)] law_column_ns.length (some (.tab P0 true) :: rest) 0) (execs [s1, colS2, s3] env) (.ret (.lst (iL (colOf (mkd row) (srtQ (mkd row))))) (some (.tab P0 false) :: rest)) := fun A s fe H hm hA F hlen Q E P => by
  have OK := opsB_ok c hnb
  obtain ⟨mk, em, hmk, _⟩ := mkd_eq row
  have hml : (mkd row).length = row.length + 1 := by rw [em]; simp
  have inj : ∀ i j, i < row.length + 1 → j < row.length + 1 → rotL (mkd row) i = rotL (mkd row) j → i = j := by
    rw [← hml, em]
    exact rot_inj fun x hx => Int.ne_of_gt (hmk x hx)
  refine wpAny_execs_cons (px_sound OK CO hfree col_p1 he1 rfl hef A s fe H hm hA F hlen _ _ ?_)
  have es : st0 [.lst (iL row)] law_column_ns.length (some (.tab P0 true) :: rest) 0 = ⟨[some (.val (.lst (iL row))), none, none], some (.tab P0 true) :: rest, 0, rest.length + 1⟩ := rfl
  have E1 := col_s1 (O := opsB) rfl (cal := cal) (row := row) (σ := some (.tab P0 true) :: rest) (lo := 0) (n0 := rest.length + 1) hz
  rw [es] at F P ⊢
  rw [E1]
  intro H₁ s₁ N₁
  dsimp only
  have P₁ := PostS.nx P N₁
  have hm₁ := hm.nf N₁.nf
  obtain ⟨n1, n2, n3⟩ := nameAt_of rfl hn2
  refine wpAny_execs_cons ?_
  have X := sortk_ev (k := 2) OK CO hfree (pit := col_it) (N := row.length + 1) (vn := sMarked) (x := sK) (xs := iL (mkd row)) (iv := 1) (n := 0) (P := P0) (cd := cd) (key := rotL (mkd row)) (q := srtQ (mkd row)) hm₁ N₁.fm N₁.len he2 hg (by decide +kernel)
    (col_s2 (O := opsB) rfl hz) (small_one (by omega) (by omega) (by omega) (by omega)) (by rw [rangeSize_one]; split <;> omega) (by omega) (by omega) rfl rfl hkd rfl (Nat.le_refl _) hcode hC hB hgP
    (params := colParams) (scope := colScope) rfl (fun qual clos pm c' ctv v => rfl) rfl rfl rfl (by decide +kernel) (fun y hy => by
      have hy : (y, NameKind.free) ∈ [(sK, NameKind.local), (sMarked, NameKind.free)] := hy
      rcases List.mem_cons.mp hy with e | e
      · cases e
      · cases List.mem_singleton.mp e; rfl) (by decide +kernel) (by decide +kernel) (by decide +kernel) (by decide +kernel) (by decide +kernel) inj (fun i hi => col_key (O := opsB) rfl (by omega) i) (fun q' hp hs => srtQ_uniq (by rw [hml]; exact inj) (by rw [hml]; exact hp) (hs.imp fun h => by rw [← ltI_ltL]; exact h))
    (p1 := ⟨11, 54, 11, 60⟩) (p2 := ⟨11, 61, 11, 62⟩) (p3 := ⟨11, 61, 11, 63⟩) (p4 := ⟨11, 54, 11, 64⟩) (p5 := ⟨11, 67, 11, 73⟩) (p6 := ⟨11, 75, 11, 76⟩) (p7 := ⟨11, 74, 11, 76⟩) (p8 := ⟨11, 67, 11, 77⟩) (p9 := ⟨11, 54, 11, 77⟩) (pn := ⟨11, 13, 11, 19⟩) (pl := ⟨11, 44, 11, 77⟩) (pc := ⟨11, 13, 11, 78⟩) (pk := ⟨11, 40, 11, 77⟩)
  refine wpAny_Assign_Name (X _ _ fun w H₂ s₂ x₂ r₂ => ?_) rfl
  have N₂ := Nx.of_ss N₁.fm N₁.len x₂
  refine nx_store N₂ n1 n3 n2 r₂ fun s₃ N₃ _ => ?_
  refine pxs_sound OK CO hfree (.cons col_p3 .nil) he3 rfl hef A s₃ fe H₂ (hm.nf (N₁.trans N₃).nf) hA N₃.fm N₃.len _ _ ?_
  have E3 := col_s3 (O := opsB) rfl (cal := cal) (row := row) (σ := some (.tab P0 false) :: rest) (lo := 0) (n0 := rest.length + 1) (q := srtQ (mkd row)) fun i hi => List.mem_range.mp ((srtQ_perm _).mem_iff.mp hi)
  have e3 : (Fs.set (Fs.at ⟨[some (.val (.lst (iL row))), some (.val (.lst (iL (mkd row)))), none], some (.tab P0 true) :: rest, 0, rest.length + 1⟩ ((some (MO.tab P0 true) :: rest).set 0 (some (.tab P0 false)))) 2 (.val (.lst ((srtQ (mkd row)).map fun (i : Nat) => .int i)))) = ⟨[some (.val (.lst (iL row))), some (.val (.lst (iL (mkd row)))), some (.val (.lst ((srtQ (mkd row)).map fun (i : Nat) => .int i)))], some (.tab P0 false) :: rest, 0, rest.length + 1⟩ := rfl
  rw [e3, E3]
  exact PostS.nx (fr := .ret (.lst (iL (colOf (mkd row) (srtQ (mkd row))))) (some (.tab P0 false) :: rest)) P (N₁.trans N₃)
end Mine
namespace Mine
theorem ints_iL : ∀ {xs : List AV} {row : List Int}, ints? xs = some row → xs = iL row
  | [], row, h => by cases h; rfl
  | x :: xs, row, h => by
    cases x <;> simp only [ints?, reduceCtorEq] at h
    rename_i i
    simp only [Option.map_eq_some_iff] at h
    obtain ⟨r, h1, rfl⟩ := h
    rw [ints_iL h1]; rfl
/-- what is looked at of the text of _law_column -/
noncomputable def colText (p : Program) : Prop := ∃ d s1 s3, (recsOf p).find? (fun d => d.name == fname 1) = some d ∧ d.body = [s1, colS2, s3] ∧ plainParams d.params (law_column_ns.take 1) = true ∧ fnOkC d.scope law_column_ns 1 = true ∧ encS frees fname d.scope.names law_column_ns col_p1 s1 = true ∧ encE frees fname d.scope.names law_column_ns col_it colIt = true ∧
  encSs frees fname d.scope.names law_column_ns (.cons col_p3 .nil) [s3] = true ∧ nameAt d.scope.names law_column_ns 2 (PySem.Str.ofString "starts") = true ∧ isGlob d.scope.names (Str.ofString "sorted") = true ∧ d.scope.names.lookup sMarked = some .cell
theorem col_calls {c : Cx} (hnb : NoneBooked c.h0) {cal : Cal} (CO : CallsOk c 4 cal fname) (hfree : ∀ x ∈ frees, c.mg x = none) {s1 s3 : Stmt} {scope : Scope} {cd P0 : Addr} (hf : FnAtC c (fname 1) [s1, colS2, s3] scope law_column_ns 1 1 [] (.ref cd)) (hok : fnOkC scope law_column_ns 1 = true)
    (he1 : encS frees fname scope.names law_column_ns col_p1 s1 = true) (he2 : encE frees fname scope.names law_column_ns col_it colIt = true) (he3 : encSs frees fname scope.names law_column_ns (.cons col_p3 .nil) [s3] = true)
    (hn2 : nameAt scope.names law_column_ns 2 (PySem.Str.ofString "starts") = true) (hg : isGlob scope.names (Str.ofString "sorted") = true) (hkd : scope.names.lookup sMarked = some .cell) (hC : CodeHd c.h0 cd P0) (hB : c.h0.BuiltinsAt c.mg P0) (hgP : mainGlobals ≠ P0) {σ : Store} {lo : Nat} {args : List AV} (h : colF P0 σ lo args ≠ .stuck) :
    Calls c 6 (fname 1) σ lo args (colF P0 σ lo args) := by
  unfold colF at h
  split at h
  case h_2 => exact absurd rfl h
  rename_i xs P rest
  split at h
  case h_2 => exact absurd rfl h
  rename_i row hrow
  split at h
  case isFalse => exact absurd rfl h
  rename_i hc
  obtain ⟨rfl, rfl, hz⟩ := hc
  have hE : colF P (some (.tab P true) :: rest) 0 [.lst xs] = .ok (.av (.lst (iL (colOf (mkd row) (srtQ (mkd row)))))) (some (.tab P false) :: rest) := by
    unfold colF
    simp only [hrow]
    exact if_pos ⟨trivial, trivial, hz⟩
  rw [hE]
  obtain rfl := ints_iL hrow
  intro A s H vs a hm hst hL S hm0 hr hmg Q E Pq
  refine wpAny_call (code_ofC (k := 4) (args := [.lst (iL row)]) (fr := .ret (.lst (iL (colOf (mkd row) (srtQ (mkd row))))) (some (.tab P false) :: rest)) hf hok rfl rfl (fun env eS eF eC => ?_) hm hst hL S hm0 hr hmg Pq)
  exact col_body hnb CO hfree (by rw [eS]; exact he1) (by rw [eS]; exact he2) (by rw [eS]; exact he3) (by rw [eS]; exact hn2) (by rw [eS]; exact hg) (by show env.scope.names.lookup sMarked = _; rw [eS]; exact hkd) eF eC hC hB hgP hz
theorem calls3 {c : Cx} {P0 : Addr} (C2 : CallsOk c 4 cal2 fname) (hcol : ∀ {σ : Store} {lo : Nat} {args : List AV}, colF P0 σ lo args ≠ .stuck → Calls c 6 (fname 1) σ lo args (colF P0 σ lo args)) (ho : FnObj c (fname 1)) : CallsOk c 6 (cal3 P0) fname := ⟨fun σ lo f args h => by
  by_cases hf : f = 1
  · subst hf
    rw [cal3_1] at h ⊢
    exact ⟨hcol h, ho⟩
  · have e : cal3 P0 σ lo f args = cal2 σ lo f args := if_neg hf
    rw [e] at h ⊢
    obtain ⟨a, b⟩ := C2.ok σ lo f args h
    exact ⟨a.mono (by omega), b⟩⟩
/- the ground without the table -/
section
variable {prog : Program} {w : World} {p : Program} {loose : List Str} {mean : ExcName → Option Value} {mg mb : Str → Option Value} {h h' : Heap}
theorem fn_ofG (T : Top p loose mean mg mb h) (keep : ∀ b o, h.get? b = some o → o ≠ tabObj #[] → h'.get? b = some o) (g' : h'.Ns mainGlobals mg) (b' : h'.Ns builtinsNs mb) (nl' : h'.NoLimit) {f : Str} {ns : List Str} {np : Nat} {d : DefRec} (e : (recsOf p).find? (fun d => d.name == f) = some d) (h2 : plainParams d.params (ns.take np) = true) (hnp : np ≤ ns.length) (hb : BindOk (ns.take np)) :
    ∃ code, FnAtC ⟨prog, w, h', mg, mb, g', b', T.builtins, nl'⟩ f d.body d.scope ns np np [] code ∧ ∃ a o fd, mg d.name = some (.ref a) ∧ h.get? a = some o ∧ o.data = .func fd ∧ fd.code = code := by
  have hn : d.name = f := by have := List.find?_some e; simpa using this
  have hm := List.mem_of_find?_eq_some e
  subst hn
  obtain ⟨a, o, pm, code, doc, f1, f2, f3, f4⟩ := T.fn d hm
  have ne : o ≠ tabObj #[] := fun z => by rw [z] at f3; cases f3
  have f4' : h'.CodeRec code d.name := by
    obtain ⟨c, o2, vs, t, e1, e2, e3, e4⟩ := f4
    refine ⟨c, o2, vs, t, e1, keep _ _ e2 (fun z => ?_), e3, e4⟩
    rw [z] at e3
    cases e3
    simp at e4
  refine ⟨code, ⟨a, o, _, [], f1, keep _ _ f2 ne, f3, rfl, rfl, rfl, rfl, rfl, rfl, f4', rfl, fun R => by simp [RepL], fun s vs _ hl => .of_eq ?_⟩, a, o, _, f1, f2, f3, rfl⟩
  rw [List.append_nil]
  unfold plainParams at h2
  simp only [Bool.and_eq_true, List.isEmpty_iff, Option.isNone_iff_eq_none, beq_iff_eq] at h2
  obtain ⟨⟨⟨⟨⟨⟨a1, a2⟩, a3⟩, a4⟩, a5⟩, a6⟩, a7⟩ := h2
  have hp : d.params = ⟨[], d.params.args, none, [], [], none, []⟩ := by
    rcases hq : d.params with ⟨x1, x2, x3, x4, x5, x6, x7⟩
    rw [hq] at a1 a2 a3 a4 a5 a6
    simp only at a1 a2 a3 a4 a5 a6
    rw [a1, a2, a3, a4, a5, a6]
  rw [hp]
  exact hb _ _ _ _ _ _ _ _ a7 (by rw [List.length_take, Nat.min_eq_left hnp]; exact hl)
theorem def_ofG (T : Top p loose mean mg mb h) (keep : ∀ b o, h.get? b = some o → o ≠ tabObj #[] → h'.get? b = some o) (g' : h'.Ns mainGlobals mg) (b' : h'.Ns builtinsNs mb) (nl' : h'.NoLimit) {frees : List Str} {fname : Nat → Str} {f : Str} {ns : List Str} {np : Nat} {q : PSs}
    (hd : defOk p frees fname f ns np q = true) (hb : BindOk (ns.take np)) : DefIs ⟨prog, w, h', mg, mb, g', b', T.builtins, nl'⟩ frees fname f ns np q := by
  refine ⟨?_, rfl⟩
  unfold defOk at hd
  cases e : (recsOf p).find? (fun d => d.name == f) with
  | none => rw [e] at hd; cases hd
  | some d =>
    rw [e] at hd
    simp only [Bool.and_eq_true] at hd
    obtain ⟨h1, h2⟩ := hd
    have hnp : np ≤ ns.length := by simp only [fnOk, Bool.and_eq_true, decide_eq_true_eq] at h1; exact h1.1.2
    obtain ⟨code, ⟨a, o, fd, vs0, f1, f2, f3, k1, k2, k3, k4, k5, k6, k7, _, r⟩, _⟩ := fn_ofG (prog := prog) (w := w) T keep g' b' nl' e h2 hnp hb
    exact ⟨d.body, d.scope, ⟨a, o, fd, vs0, f1, f2, f3, k1, k2, k3, k4, k5, k6, k7, r⟩, h1⟩
end
end Mine
namespace Mine
noncomputable def textOk (p : Program) (loose : List Str) : Bool := freesOk p loose frees && defOk p frees fname (fname 0) countOf_ns 2 countOf_p && defOk p frees fname (fname 2) law_place_ns 3 law_place_p && defOk p frees fname (fname 3) law_ns 1 law_p
/-- what is hidden at the top: the table -/
noncomputable def HP (P0 : Addr) (T : Tok → Option Int) : Hd := ⟨fun b => b = P0, fun n => if n = 0 then some P0 else none, fun _ => none, T⟩
theorem law_code {prog : Program} {w : World} {p : Program} {loose : List Str} {mean : ExcName → Option Value} {mg mb : Str → Option Value} {s : Shared} (T : Top p loose mean mg mb s.heap) (ht : textOk p loose = true) (hct : colText p) (hnb : NoneBooked s.heap) {ns : List Int} (hres : ∀ P0, lawRes P0 ns = .ok (.av (.bool true)) [some (.tab P0 false)]) (hz : ns.length ≤ 1048576)
    {l fa : Addr} {vs : List Value} (hl : IsL s.heap l vs) (hI : IntsAre vs ns) {TM : Tok → Option Int} (hM : Marked TM vs) (hT0 : 0 < s.toks) (hTd : Td (H0 TM) s) (hmg : mg (fname 3) = some (.ref fa)) {R : Result → Shared → Prop}
    (K : ∀ s', OldK s.heap s'.heap → s'.os = s.os → s'.gens = s.gens → R (.ok (.ret (.bool true))) s') : codeAny (model prog w) callerA (.call (.ref fa) ⟨[.ref l], []⟩) R s := by
  simp only [textOk, Bool.and_eq_true] at ht
  obtain ⟨⟨⟨h1, hd0⟩, hd2⟩, hd3⟩ := ht
  have hfree := frees_of T h1
  obtain ⟨d, s1, s3, c1, c2, c3, c4, c5, c6, c7, c8, c9, c10⟩ := hct
  have hdn : d.name = fname 1 := by have := List.find?_some c1; simpa using this
  obtain ⟨a, o, fd, cd, P0, t1, t2, t3, t4, t5, t6⟩ := T.tab d (List.mem_of_find?_eq_some c1)
  have hCd : CodeHd s.heap cd P0 := CodeHd.of t5 t6
  have hTab : TabsAt [(cd, P0)] s.heap := fun q hq => by rw [List.mem_singleton.mp hq]; exact ⟨hCd, t6.2⟩
  have keep : ∀ b o, s.heap.get? b = some o → o ≠ tabObj #[] → (ghostOf s.heap [(cd, P0)]).get? b = some o := fun b o e n => ghost_get hTab e n
  have stays : (ghostOf s.heap [(cd, P0)]).StaysIn s.heap := fun b o e => of_hideAll _ e
  have gone : (ghostOf s.heap [(cd, P0)]).get? P0 = none := hideAll_none _ (.head _)
  have TG := ghost_top hTab T
  generalize ghostOf s.heap [(cd, P0)] = hg at keep stays gone TG
  have g' : hg.Ns mainGlobals mg := TG.g
  have b' : hg.Ns builtinsNs mb := TG.b
  have nl' : hg.NoLimit := TG.nolimit
  have nb' : NoneBooked hg := by
    obtain ⟨mc, ⟨o2, es, ep, e, hd, r⟩, hk⟩ := hnb
    exact ⟨mc, ⟨o2, es, ep, keep _ _ e (fun z => by rw [z] at hd; cases hd), hd, r⟩, hk⟩
  have D0 := def_ofG (prog := prog) (w := w) T keep g' b' nl' hd0 (bindOk2 (by intros; kernel_rfl))
  have D2 := def_ofG (prog := prog) (w := w) T keep g' b' nl' hd2 (bindOk3 (by intros; kernel_rfl))
  have D3 := def_ofG (prog := prog) (w := w) T keep g' b' nl' hd3 (bindOk1 (by intros; kernel_rfl))
  obtain ⟨code, hF, a2, o2, fd2, u1, u2, u3, u4⟩ := fn_ofG (prog := prog) (w := w) T keep g' b' nl' c1 c3 (by decide) (bindOk1 (by intros; kernel_rfl))
  have ecode : code = .ref cd := by
    rw [t1] at u1; cases u1
    rw [t2] at u2; cases u2
    rw [t3] at u3; cases u3
    rw [← u4, t4]
  subst ecode
  rw [c2] at hF
  have C2 := calls2 (c := ⟨prog, w, hg, mg, mb, g', b', T.builtins, nl'⟩) nb' hfree D0 D2
  have hgP : mainGlobals ≠ P0 := fun q => by
    obtain ⟨o, es, ep, e, hd, _⟩ := T.g
    rw [q, t6.2] at e; cases e; cases hd
  have hC' : CodeHd hg cd P0 := by
    obtain ⟨o, vs, file, tf, flags, tg, inF, text, tt, e, k1, r⟩ := hCd
    exact ⟨o, vs, file, tf, flags, tg, inF, text, tt, keep _ _ e (fun z => by rw [z] at k1; cases k1), k1, r⟩
  have hB' : hg.BuiltinsAt mg P0 := by
    obtain ⟨bm, ob, b1, b2, b3, b4, b5, b6⟩ := T.bmain
    have n1 : bm ≠ mainGlobals := fun q => by
      obtain ⟨o, es, ep, e, hd, _⟩ := T.g
      rw [q, e] at b3; cases b3; rw [hd] at b6; cases b6
    have n2 : bm ≠ P0 := fun q => by
      rw [q, t6.2] at b3; cases b3; cases b6
    exact ⟨bm, ob, b1, b2, n1, n2, keep _ _ b3 (fun z => by rw [z] at b6; cases b6), b4, b5, b6⟩
  have C3 := calls3 (P0 := P0) C2 (fun h => col_calls nb' C2 hfree hF c4 c5 c6 c7 c8 c9 c10 hC' hB' hgP h) (let ⟨a, o, fd, _, h1, h2, h3, _⟩ := hF; ⟨a, o, fd, h1, h2, h3⟩)
  have hlP : l ≠ P0 := fun z => by
    obtain ⟨o, n, e, hc, _⟩ := hl
    rw [z, t6.2] at e; cases e; cases hc
  have S0 : Sto [some (.tab P0 true)] (HP P0 TM) s.heap := {
    at' := fun n mo e => by
      cases n with
      | zero => simp at e; subst e; exact ⟨P0, rfl, rfl, #[], t6.2, trivial, fun _ => rfl⟩
      | succ n => simp at e
    inj := fun n n' b e e' => by
      have : ∀ n, (HP P0 TM).m n = some b → n = 0 := fun n e => by
        by_cases h : n = 0
        · exact h
        · simp [HP, h] at e
      rw [this n e, this n' e']
    lt := fun n b e => by
      by_cases h : n = 0
      · subst h; exact Nat.zero_lt_one
      · simp [HP, h] at e
    hid := fun n b mo _ e => by
      by_cases h : n = 0
      · simp [HP, h] at e; exact e.symm
      · simp [HP, h] at e
    al := fun n b e => by
      by_cases h : n = 0
      · simp [HP, h] at e; exact ⟨_, e ▸ t6.2⟩
      · simp [HP, h] at e
    tot := fun n b e => by
      by_cases h : n = 0
      · subst h; exact ⟨_, rfl⟩
      · simp [HP, h] at e }
  have rr : RepL (vis s.heap (HP P0 TM)) [.ref l] [.lst (ns.map .int)] := by
    have r0 := script_rep hl hI hM hz
    simp only [RepL, Rep, and_true] at r0 ⊢
    obtain ⟨z, a, vs2, n, e, ⟨_, o, k⟩, r⟩ := r0
    cases e
    refine ⟨z, l, vs2, n, rfl, ⟨fun q => hlP q, o, k⟩, ?_⟩
    have : ∀ {vs : List Value} {ns : List Int}, RepL (vis s.heap (H0 TM)) vs (ns.map .int) → RepL (vis s.heap (HP P0 TM)) vs (ns.map .int) := by
      intro vs ns
      induction ns generalizing vs with
      | nil => exact fun h => by cases vs <;> simpa [RepL] using h
      | cons x ns ih =>
        intro h
        cases vs with
        | nil => simp [RepL] at h
        | cons v vs =>
          simp only [List.map_cons, RepL, Rep] at h ⊢
          exact ⟨h.1, ih h.2⟩
    exact this r
  have := D3.code (opsB_ok _ nb') C3 hfree (args := [.lst (ns.map .int)]) (σ := [some (.tab P0 true)]) (lo := 0) rfl (A := callerA) (s := s) (H := HP P0 TM) (vs := [.ref l]) (a := fa)
    (Q := fun v s' => v = .bool true ∧ OldK s.heap s'.heap ∧ s'.os = s.os ∧ s'.gens = s.gens) (E := fun _ _ => False)
    ⟨by decide, by decide, fun _ => rfl, ⟨[], rfl, trivial⟩, hT0, hTd⟩ stays (fun b z => ⟨_, (show b = P0 from z) ▸ t6.2⟩) S0 (fun n b e => by
      by_cases h : n = 0
      · simp [HP, h] at e; exact e ▸ gone
      · simp [HP, h] at e) rr hmg (by
      show PostE true callerA 0 _ _ (lawRes P0 ns) s _ _
      rw [hres P0]
      intro v H' s' x r
      obtain ⟨h', tk, rfl⟩ := x.rest
      have noF : ∀ b, ¬ FrA callerA b := fun b ⟨l, hl, hb⟩ => by
        cases hl
        simp at hb
      have noW : ∀ b, b ≠ P0 → ¬ Wr [some (.tab P0 true)] (HP P0 TM) 0 b := fun b hb ⟨n, mo, _, _, e⟩ => by
        by_cases h : n = 0
        · simp [HP, h] at e; exact hb e.symm
        · simp [HP, h] at e
      have same : ∀ b o, b ≠ P0 → s.heap.get? b = some o → h'.get? b = some o := fun b o hb e => (x.kv b o (noW b hb) e).1 (.inl (noF b))
      obtain ⟨P1, m1, e1, ps, e2, _, _⟩ := x.sto.at' 0 (.tab P0 false) rfl
      subst e1
      refine ⟨r, ⟨fun b o e => ?_, fun b o e => x.lv b o e⟩, rfl, rfl⟩
      by_cases hb : b = P1
      · subst hb
        rw [t6.2] at e; cases e
        exact .inr (.inl ⟨t6.isCodeTable, rfl, #[], ps, rfl, by simpa using e2⟩)
      · exact .inl (same b o hb e))
  refine codeAny_mono this fun r s' h => ?_
  match r, h with
  | .ok (.ret v), ⟨hv, h1, h2, h3⟩ => rw [hv]; exact K s' h1 h2 h3
end Mine
end
section
open PySem PySem.W PyProof.Rows PySem.Calls
namespace Mine
set_option maxRecDepth 100000
set_option linter.unusedSimpArgs false
end Mine
end
section
open PySem PySem.W PyProof.Rows PySem.Calls
namespace Mine
set_option maxRecDepth 100000
section
variable {R : WRecords} {cl : Str → Option Addr} {P : Params} {ord : List DictEntry → List DictEntry}
/-- an int that is laid bears the next mark -/
theorem lay_int {x : WData} {s s' : Shared} {i : Int} {t : Tok} (h : layW R cl P ord x s = some (.int i t, s')) : t = s.toks ∧ s' = { s with toks := s.toks + 1 } := by
  cases x with
  | int j => simp only [layW, Option.some.injEq, Prod.mk.injEq, Value.int.injEq] at h; exact ⟨h.1.2.symm, h.2.symm⟩
  | list xs => obtain ⟨q, _, e⟩ := layW_list h; cases e
  | tuple xs => obtain ⟨q, _, e⟩ := layW_tuple h; cases e
  | dict xs => obtain ⟨q, _, e⟩ := layW_dict h; cases e
  | set xs => obtain ⟨q, _, e⟩ := layW_set h; cases e
  | frozenset xs => obtain ⟨q, _, e⟩ := layW_frozenset h; cases e
  | obj c kvs => obtain ⟨_, _, q, _, _, _, _, e⟩ := layW_obj h; cases e
  | _ => simp [layW] at h
theorem lay_marks : ∀ {xs : List WData} {s s' : Shared} {vs : List Value} {ns : List Int}, layAllW R cl P ord xs s = some (vs, s') → IntsAre vs ns → 0 < s.toks →
    ∃ T : Tok → Option Int, Marked T vs ∧ s.toks ≤ s'.toks ∧ ∀ t i, T t = some i → s.toks ≤ t ∧ t < s'.toks
  | [], s, s', vs, ns, h, _, _ => by
    simp only [layAllW, Option.some.injEq, Prod.mk.injEq] at h
    obtain ⟨rfl, rfl⟩ := h
    exact ⟨fun _ => none, fun v hv => by simp at hv, Nat.le_refl _, fun _ _ e => by cases e⟩
  | x :: xs, s, s', vs, ns, h, hI, h0 => by
    obtain ⟨⟨v, s1⟩, ⟨ws, s2⟩, ha, hq, e⟩ := layAllW_cons h
    simp only [Prod.mk.injEq] at e
    obtain ⟨rfl, rfl⟩ := e
    cases hI with
    | cons n t hI =>
    obtain ⟨rfl, rfl⟩ := lay_int ha
    obtain ⟨T, h1, h2, h3⟩ := lay_marks hq hI (Nat.succ_pos _)
    refine ⟨fun u => if u = s.toks then some n else T u, fun v hv i t e => ?_, Nat.le_of_succ_le h2, fun t i e => ?_⟩
    · rcases List.mem_cons.mp hv with rfl | hv
      · cases e; exact ⟨Nat.ne_of_gt h0, if_pos rfl⟩
      · obtain ⟨a, b⟩ := h1 v hv i t e
        have := (h3 t i b).1
        refine ⟨a, ?_⟩
        dsimp only
        rw [if_neg (Nat.ne_of_gt this)]; exact b
    · dsimp only at e
      split at e
      · rename_i hu; subst hu; exact ⟨Nat.le_refl _, h2⟩
      · obtain ⟨a, b⟩ := h3 t i e
        exact ⟨Nat.le_of_succ_le a, b⟩
theorem marks_of {ys : List WData} {d : WData} {s₀ s₁ : Shared} {l : Addr} {vs : List Value} {ns : List Int} (h : layAllW R cl P ord [d] s₀ = some ([.ref l], s₁)) (hd : d = .list ys) (hl : IsL s₁.heap l vs) (hI : IntsAre vs ns) (h0 : 0 < s₀.toks) :
    ∃ T : Tok → Option Int, Marked T vs ∧ 0 < s₁.toks ∧ Td (H0 T) s₁ := by
  subst hd
  obtain ⟨⟨v, s1⟩, ⟨ws, s2⟩, ha, hq, e⟩ := layAllW_cons h
  simp only [layAllW, Option.some.injEq, Prod.mk.injEq] at hq
  obtain ⟨rfl, rfl⟩ := hq
  simp only [Prod.mk.injEq, List.cons.injEq, and_true] at e
  obtain ⟨rfl, rfl⟩ := e
  obtain ⟨⟨ws, s2⟩, hq, e⟩ := layW_list ha
  simp only [Prod.mk.injEq, Value.ref.injEq] at e
  obtain ⟨rfl, rfl⟩ := e
  obtain ⟨o, n, ho, hc, hdt, _⟩ := hl
  rw [Heap.get?_push_size _ rfl] at ho
  cases ho
  simp only [Data.seq.injEq] at hdt
  have : ws = vs := by simpa using hdt.1
  subst this
  obtain ⟨T, h1, h2, h3⟩ := lay_marks hq hI h0
  exact ⟨T, h1, Nat.lt_of_lt_of_le h0 h2, fun t i e => (h3 t i e).2⟩
end
/-- the hook, with marks that are not nought -/
noncomputable def obsM (H : Hook) (s : Shared) : H.α × Bool := (H.obs s, decide (0 < s.toks))
noncomputable def valM (H : Hook) (w : World) : H.α × Bool := (H.val w, true)
theorem obsM_of {H : Hook} {w : World} {s : Shared} (e : obsM H s = valM H w) : H.obs s = H.val w ∧ 0 < s.toks := by
  simp only [obsM, valM, Prod.mk.injEq, decide_eq_true_eq] at e; exact e
end Mine
end
section
open PySem PySem.W PyProof.Rows
set_option Elab.async false
set_option maxRecDepth 100000
namespace Mine
noncomputable def viewP : Program := { PySem.Challenge.pw_dm0221_08 with main := { PySem.Challenge.pw_dm0221_08.main with body := PySem.Challenge.pw_dm0221_08.main.body.drop 0 } }
noncomputable def looseP : List Str := []
noncomputable def hookP : Hook := Hook.none
/-- the hook: marks that are not nought, and no reader's marks -/
noncomputable def nbB (h : Heap) : Bool := h.isNs cStatics && (h.nsMap cStatics sharingNotToldKey).isNone
noncomputable def obsN (H : Hook) (s : Shared) : (H.α × Bool) × Bool := (obsM H s, nbB s.heap)
noncomputable def valN (H : Hook) (w : World) : (H.α × Bool) × Bool := (valM H w, true)
theorem obsN_of {H : Hook} {w : World} {s : Shared} (e : obsN H s = valN H w) : obsM H s = valM H w ∧ NoneBooked s.heap := by
  simp only [obsN, valN, Prod.mk.injEq] at e
  refine ⟨e.1, ?_⟩
  have h := e.2
  unfold nbB at h
  simp only [Bool.and_eq_true, Option.isNone_iff_eq_none] at h
  exact ⟨_, Heap.Ns.of_isNs h.1, h.2⟩
noncomputable def colD : DefRec := ((recsOf viewP).find? fun d => d.name == fname 1).get (by kernel_rfl)
noncomputable def colS1 : Stmt := (colD.body[0]?).get (by kernel_rfl)
noncomputable def colS3 : Stmt := (colD.body[2]?).get (by kernel_rfl)
theorem col_text : colText viewP := ⟨colD, colS1, colS3, by kernel_rfl, by kernel_rfl, by kernel_rfl, by kernel_rfl, by kernel_rfl, by kernel_rfl, by kernel_rfl, by kernel_rfl, by kernel_rfl, by kernel_rfl⟩
theorem law_said : PySem.Challenge.rw_dm0221_08.wellSaid = true := by decide +kernel
theorem law_left : LeftO PySem.Challenge.pw_dm0221_08 viewP looseP (fun s => xlAt viewP [] s && recOk (RowW.records (OpenRow.toRowW (OpenLaw.row PySem.Challenge.rw_dm0221_08))) s) (obsN hookP) (valN hookP) 900 := by
  intro w
  kernel_rfl
end Mine
set_option maxRecDepth 100000 in
set_option maxHeartbeats 8000000 in
theorem PySem.Challenge.cw_dm0221_08_holds : PySem.Challenge.rw_dm0221_08.Holds := by
  w_on
  refine holds_law Mine.law_said fun said => ?_
  refine holds_openX (q := Mine.viewP) (loose := Mine.looseP) (Xt := fun s => xlAt Mine.viewP [] s && recOk (RowW.records (OpenRow.toRowW (OpenLaw.row PySem.Challenge.rw_dm0221_08))) s) (XP := XL Mine.viewP []) (Yf := Mine.obsN Mine.hookP) (Ya := Mine.valN Mine.hookP) (N := 900) Mine.law_left (fun s e => xl_of s (Bool.and_eq_true_iff.mp e).1) XL.keeps (by rfl) (by rfl) (by rfl) (fun s e => recFacts_of (Bool.and_eq_true_iff.mp e).2) (by rfl) (by first | assumption | decide +kernel) (by decide +kernel) ⟨rfl, rfl, rfl, rfl, rfl, by decide +kernel⟩ ?hw ?hc
  (case hw => w_witness2)
  intro w s₀ s₁ mg mb G Y fa o pm cd doc dV kV ho hd hcd hD hmg hg args vals as L hpre hlay hrd hwl hlo
  have hnb0 := (Mine.obsN_of Y).2
  have hy := (Mine.obsM_of (Mine.obsN_of Y).1).1
  have h0 := (Mine.obsM_of (Mine.obsN_of Y).1).2
  obtain ⟨ord, _, hlaid⟩ := L.laid
  have Y' := Hook.keeps Mine.hookP _ _ _ (Hook.of Mine.hookP _ _ hy) L.keeps
  have hnb : NoneBooked s₁.heap := let ⟨mc, a, b⟩ := hnb0; ⟨mc, a.keeps L.keeps, b⟩
  clear L Y hy hnb0
  skip
  refine Ground.open G ?_
  intro T B D TE TW
  try (refine guard_noD D (by decide +kernel) ?_; clear D)
  wrow_args hpre hlay hrd hwl hlo
  refine enter_call ?_
  w_top on
  rename_i hL _ w1 _ hI _ hlen _
  clear hd hD ho hcd
  have hn := Int.not_lt.mp hlen
  have hl := Mine.isL_of_well hL w1 rfl
  obtain ⟨TM, hM, hT, hTd⟩ := Mine.marks_of hlaid rfl hl hI h0
  refine Mine.law_code T (by decide +kernel) Mine.col_text hnb (fun P0 => Mine.law_true P0 _) (by omega) hl hI hM hT hTd hmg fun s' h1 h2 h3 => ?_
  refine ⟨.inl ⟨_, .bool true, [], rfl, fun cls => rfl, .bool true, ?_, fun _ => ⟨List.nodup_nil, fun a ha => by cases ha⟩⟩, h1, h2, .of_eq (h3.trans hg)⟩
  wrow_post
end
