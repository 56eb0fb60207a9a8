import PyProof.Rows.All
import Wide.All
import OpenK.AllK
import Wide.FinOn
import PySem.Challenge.RW_dm0221_01
set_option Elab.async false
set_option linter.all false
section
open PySem PySem.W PyProof.Rows
namespace Mine

/-- plain values -/
inductive AV where
  | none
  | bool (b : Bool)
  | int (i : Int)
  | float (x : UInt64)
  | str (s : Str)
  | bytes (b : Array UInt8)
  | type (n : String)
  | ref (a : Addr)
  | range (a b s : Int)
  | tup (xs : List AV)
  | lst (xs : List AV)
deriving Inhabited

abbrev Vw := Addr → Value → Data → Prop

mutual
def Rep (R : Vw) : Value → AV → Prop
  | v, .none => v = .none
  | v, .bool b => v = .bool b
  | v, .int i => ∃ t, v = .int i t
  | v, .float x => ∃ t, v = .float x t
  | v, .str s => ∃ t, v = .str s t
  | v, .bytes b => ∃ t, v = .bytes b t
  | v, .type n => v = .type n
  | v, .ref a => v = .ref a
  | v, .range a b s => ∃ r ta tb ts, v = .ref r ∧ R r (.type "range") (.fields #[.int a ta, .int b tb, .int s ts])
  | v, .tup xs => xs.length ≤ 1048576 ∧ ∃ a vs n, v = .ref a ∧ R a (.type "tuple") (.seq (List.toArray vs) n) ∧ RepL R vs xs
  | v, .lst xs => xs.length ≤ 1048576 ∧ ∃ a vs n, v = .ref a ∧ R a (.type "list") (.seq (List.toArray vs) n) ∧ RepL R vs xs
def RepL (R : Vw) : List Value → List AV → Prop
  | [], [] => True
  | v :: vs, x :: xs => Rep R v x ∧ RepL R vs xs
  | [], _ :: _ => False
  | _ :: _, [] => False
end

mutual
theorem Rep.mono {R R' : Vw} (h : ∀ a c d, R a c d → R' a c d) : ∀ {x : AV} {v : Value}, Rep R v x → Rep R' v x
  | .none, _, r => by simpa [Rep] using r
  | .bool _, _, r => by simpa [Rep] using r
  | .int _, _, r => by simpa [Rep] using r
  | .float _, _, r => by simpa [Rep] using r
  | .str _, _, r => by simpa [Rep] using r
  | .bytes _, _, r => by simpa [Rep] using r
  | .type _, _, r => by simpa [Rep] using r
  | .ref _, _, r => by simpa [Rep] using r
  | .range _ _ _, _, r => by
    simp only [Rep] at r ⊢
    obtain ⟨r, ta, tb, ts, e, k⟩ := r
    exact ⟨r, ta, tb, ts, e, h _ _ _ k⟩
  | .tup xs, _, r => by
    simp only [Rep] at r ⊢
    obtain ⟨z, a, vs, n, e, k, l⟩ := r
    exact ⟨z, a, vs, n, e, h _ _ _ k, RepL.mono h l⟩
  | .lst xs, _, r => by
    simp only [Rep] at r ⊢
    obtain ⟨z, a, vs, n, e, k, l⟩ := r
    exact ⟨z, a, vs, n, e, h _ _ _ k, RepL.mono h l⟩
theorem RepL.mono {R R' : Vw} (h : ∀ a c d, R a c d → R' a c d) : ∀ {xs : List AV} {vs : List Value}, RepL R vs xs → RepL R' vs xs
  | [], [], _ => by simp [RepL]
  | [], _ :: _, r => by simp [RepL] at r
  | _ :: _, [], r => by simp [RepL] at r
  | x :: xs, v :: vs, r => by
    simp only [RepL] at r ⊢
    exact ⟨Rep.mono h r.1, RepL.mono h r.2⟩
end

theorem RepL.length {R : Vw} : ∀ {xs : List AV} {vs : List Value}, RepL R vs xs → vs.length = xs.length
  | [], [], _ => rfl
  | [], _ :: _, r => by simp [RepL] at r
  | _ :: _, [], r => by simp [RepL] at r
  | x :: xs, v :: vs, r => by
    simp only [RepL] at r
    simp [RepL.length r.2]
theorem RepL.get {R : Vw} : ∀ {xs : List AV} {vs : List Value} {i : Nat} {x : AV}, RepL R vs xs → xs[i]? = some x → ∃ v, vs[i]? = some v ∧ Rep R v x
  | [], _, _, _, _, h => by simp at h
  | _ :: _, [], _, _, r, _ => by simp [RepL] at r
  | x :: xs, v :: vs, i, y, r, h => by
    simp only [RepL] at r
    cases i with
    | zero => simp at h; subst h; exact ⟨v, by simp, r.1⟩
    | succ i => simp at h ⊢; exact RepL.get r.2 h
theorem RepL.append {R : Vw} : ∀ {xs ys : List AV} {vs ws : List Value}, RepL R vs xs → RepL R ws ys → RepL R (vs ++ ws) (xs ++ ys)
  | [], _, [], _, _, r => by simpa using r
  | [], _, _ :: _, _, r, _ => by simp [RepL] at r
  | _ :: _, _, [], _, r, _ => by simp [RepL] at r
  | x :: xs, ys, v :: vs, ws, r, q => by
    simp only [RepL, List.cons_append] at r ⊢
    exact ⟨r.1, RepL.append r.2 q⟩
theorem RepL.of_get {R : Vw} : ∀ {xs : List AV} {vs : List Value}, vs.length = xs.length → (∀ (i : Nat) x v, xs[i]? = some x → vs[i]? = some v → Rep R v x) → RepL R vs xs
  | [], [], _, _ => by simp [RepL]
  | [], _ :: _, h, _ => by simp at h
  | _ :: _, [], h, _ => by simp at h
  | x :: xs, v :: vs, h, k => by
    simp only [RepL]
    exact ⟨k 0 x v (by simp) (by simp), RepL.of_get (by simpa using h) fun i y w a b => k (i + 1) y w (by simpa using a) (by simpa using b)⟩

/-- what is seen of a heap with some addresses hidden -/
def okC (c : Value) : Prop := c = .type "list" ∨ c = .type "tuple" ∨ c = .type "range"
def vis (h : Heap) (H : Addr → Prop) : Vw := fun a c d => ¬ H a ∧ ∃ o, h.get? a = some o ∧ o.cls = c ∧ o.data = d ∧ o.dict = none ∧ okC c ∧ ((∃ fs, d = .fields fs) → o.slots = #[])
/-- a list's object -/
def IsL (h : Heap) (a : Addr) (vs : List Value) : Prop := ∃ o n, h.get? a = some o ∧ o.cls = .type "list" ∧ o.data = .seq (List.toArray vs) n ∧ o.dict = none
theorem IsL.isList {h : Heap} {a : Addr} {vs : List Value} (x : IsL h a vs) : h.IsList a (List.toArray vs) := let ⟨o, n, e, c, d, _⟩ := x; ⟨o, e, c, n, d⟩
theorem IsL.at {h h' : Heap} {a : Addr} {vs : List Value} (x : IsL h a vs) (k : ∀ o, h.get? a = some o → ∃ sl, h'.get? a = some { o with slots := sl }) : IsL h' a vs := let ⟨o, n, e, c, d, f⟩ := x; let ⟨_, q⟩ := k o e; ⟨_, n, q, c, d, f⟩
theorem IsL.at' {h h' : Heap} {a : Addr} {vs : List Value} (x : IsL h a vs) (k : ∀ o, h.get? a = some o → h'.get? a = some o) : IsL h' a vs := let ⟨o, n, e, c, d, f⟩ := x; ⟨o, n, k o e, c, d, f⟩

/-- kept, frames up to their slots -/
def Kh (F : Addr → Prop) (h h' : Heap) : Prop := ∀ b o, h.get? b = some o → ((¬ F b ∨ ∃ fs, o.data = .fields fs) → h'.get? b = some o) ∧ ∃ sl, h'.get? b = some { o with slots := sl }

theorem Kh.of_keeps {F : Addr → Prop} {h h' : Heap} (k : ∀ b o, h.get? b = some o → h'.get? b = some o) : Kh F h h' := fun b o e => ⟨fun _ => k b o e, o.slots, k b o e⟩
theorem Kh.refl (F : Addr → Prop) (h : Heap) : Kh F h h := Kh.of_keeps fun _ _ e => e
theorem Kh.trans {F : Addr → Prop} {h₁ h₂ h₃ : Heap} (x : Kh F h₁ h₂) (y : Kh F h₂ h₃) : Kh F h₁ h₃ := fun b o e =>
  ⟨fun n => (y b o ((x b o e).1 n)).1 n, by obtain ⟨sl, e₂⟩ := (x b o e).2; obtain ⟨sl', e₃⟩ := (y b _ e₂).2; exact ⟨sl', e₃⟩⟩
theorem Kh.weaken {F F' : Addr → Prop} {h h' : Heap} (x : Kh F h h') (k : ∀ b o, h.get? b = some o → F b → F' b) : Kh F' h h' := fun b o e => ⟨fun n => (x b o e).1 (n.imp (fun n f => n (k b o e f)) id), (x b o e).2⟩
theorem Kh.size {F : Addr → Prop} {h h' : Heap} (x : Kh F h h') {b : Addr} {o : Obj} (e : h.get? b = some o) : b < h'.objs.size := let ⟨_, q⟩ := (x b o e).2; Heap.lt_size q
theorem Kh.ns {F : Addr → Prop} {h h' : Heap} (x : Kh F h h') {a : Addr} {m : Str → Option Value} (n : h.Ns a m) : h'.Ns a m := by
  obtain ⟨o, es, ep, e, d, r⟩ := n
  obtain ⟨sl, q⟩ := (x a o e).2
  exact ⟨_, es, ep, q, d, r⟩
theorem Kh.cell {F : Addr → Prop} {h h' : Heap} (x : Kh F h h') {a : Addr} {v : Option Value} (n : h.IsCell a v) : h'.IsCell a v := by
  obtain ⟨o, e, d⟩ := n
  obtain ⟨sl, q⟩ := (x a o e).2
  exact ⟨_, q, d⟩
theorem Kh.isL {F : Addr → Prop} {h h' : Heap} (x : Kh F h h') {a : Addr} {v : List Value} (n : IsL h a v) : IsL h' a v := n.at fun o e => (x a o e).2
theorem Kh.vis {F H : Addr → Prop} {h h' : Heap} (x : Kh F h h') : ∀ a c d, vis h H a c d → Mine.vis h' H a c d := by
  rintro a c d ⟨n, o, e, r1, r2, r3, r4, r5⟩
  by_cases hd : ∃ fs, d = .fields fs
  · exact ⟨n, o, (x a o e).1 (.inr (by rw [r2]; exact hd)), r1, r2, r3, r4, r5⟩
  · obtain ⟨sl, q⟩ := (x a o e).2
    exact ⟨n, _, q, r1, r2, r3, r4, fun z => absurd z hd⟩
theorem vis_hide {H H' : Addr → Prop} {h : Heap} (k : ∀ b, H b → H' b) : ∀ a c d, vis h H' a c d → vis h H a c d := fun _ _ _ x => ⟨fun q => x.1 (k _ q), x.2⟩

/-- what the law's run stands upon -/
structure Cx where
  prog : Program
  w : World
  h0 : Heap
  mg : Str → Option Value
  mb : Str → Option Value
  g : h0.Ns mainGlobals mg
  b : h0.Ns builtinsNs mb
  builtins : ∀ x : Str, x ≠ "__name__" → mb x = bootBuiltins x
  nolimit : h0.NoLimit

abbrev Cx.M (c : Cx) : Model := model c.prog c.w

/-- the frames' own addresses -/
def FrA (A : Around) (b : Addr) : Prop := ∃ l, A.frames = some l ∧ b ∈ l.filterMap (·.frame)

/-- one state after another, nothing turned -/
def Kp (A : Around) (s s' : Shared) : Prop := ∃ h' tk, s' = { s with heap := h', toks := tk } ∧ Kh (FrA A) s.heap h'
theorem Kp.refl (A : Around) (s : Shared) : Kp A s s := ⟨s.heap, s.toks, rfl, Kh.refl _ _⟩
theorem Kp.trans {A : Around} {s₁ s₂ s₃ : Shared} (x : Kp A s₁ s₂) (y : Kp A s₂ s₃) : Kp A s₁ s₃ := by
  obtain ⟨h, t, rfl, k⟩ := x
  obtain ⟨h', t', rfl, k'⟩ := y
  exact ⟨h', t', rfl, k.trans k'⟩
theorem Kp.kh {A : Around} {s s' : Shared} (x : Kp A s s') : Kh (FrA A) s.heap s'.heap := by
  obtain ⟨h, t, rfl, k⟩ := x
  exact k
theorem Kp.of {A : Around} {s : Shared} {h' : Heap} {tk : Nat} (k : ∀ b o, s.heap.get? b = some o → h'.get? b = some o) : Kp A s { s with heap := h', toks := tk } := ⟨h', tk, rfl, Kh.of_keeps k⟩
theorem Kp.toks {A : Around} {s : Shared} {tk : Nat} : Kp A s { s with toks := tk } := ⟨s.heap, tk, rfl, Kh.refl _ _⟩

inductive Ent where
  | val (v : AV)
  | own (xs : List AV)
deriving Inhabited

structure FE where
  h : Heap
  H : Addr → Prop

def NV (h : Heap) (env : Env) (x : Str) (v : Value) : Prop :=
  (env.kindOf x = some .local ∧ ∃ m, h.Ns env.locals m ∧ m x = some v) ∨ (env.kindOf x = some .cell ∧ ∃ cc, env.cells.lookup x = some cc ∧ h.IsCell cc (some v))

theorem Ns_uniq {h : Heap} {a : Addr} {m m' : Str → Option Value} (x : h.Ns a m) (y : h.Ns a m') : m = m' := by
  obtain ⟨o, es, ep, e, d, _, r⟩ := x
  obtain ⟨o', es', ep', e', d', _, r'⟩ := y
  rw [e] at e'; cases e'
  rw [d] at d'; cases d'
  funext n
  rw [← r n, ← r' n]
theorem cell_uniq {h : Heap} {a : Addr} {v v' : Option Value} (x : h.IsCell a v) (y : h.IsCell a v') : v = v' := by
  obtain ⟨o, e, d⟩ := x
  obtain ⟨o', e', d'⟩ := y
  rw [e] at e'; cases e'
  rw [d] at d'; cases d'; rfl
theorem NV.uniq {h : Heap} {env : Env} {x : Str} {v v' : Value} (a : NV h env x v) (b : NV h env x v') : v = v' := by
  rcases a with ⟨k, m, n, e⟩ | ⟨k, cc, n, e⟩ <;> rcases b with ⟨k', m', n', e'⟩ | ⟨k', cc', n', e'⟩
  · rw [Ns_uniq n n', e'] at e; exact (Option.some.inj e).symm
  · rw [k] at k'; cases k'
  · rw [k] at k'; cases k'
  · rw [n] at n'; cases n'
    exact Option.some.inj (cell_uniq e e')
theorem NV.kh {F : Addr → Prop} {h h' : Heap} {env : Env} {x : Str} {v : Value} (k : Kh F h h') (a : NV h env x v) : NV h' env x v := by
  rcases a with ⟨kk, m, n, e⟩ | ⟨kk, cc, n, e⟩
  · exact .inl ⟨kk, m, k.ns n, e⟩
  · exact .inr ⟨kk, cc, n, k.cell e⟩

def RepE (h : Heap) (H : Addr → Prop) (fe : FE) (v : Value) : Ent → Prop
  | .val av => Rep (vis h H) v av
  | .own xs => xs.length ≤ 1048576 ∧ ∃ a vs, v = .ref a ∧ IsL h a vs ∧ H a ∧ fe.h.get? a = none ∧ RepL (vis h H) vs xs

theorem RepE.kh {F H : Addr → Prop} {h h' : Heap} {fe : FE} (k : Kh F h h') {v : Value} : ∀ {t : Ent}, RepE h H fe v t → RepE h' H fe v t
  | .val _, r => Rep.mono k.vis r
  | .own _, ⟨z, a, vs, e, l, q, w, r⟩ => ⟨z, a, vs, e, k.isL l, q, w, RepL.mono k.vis r⟩

/-- a frame -/
structure Fm (c : Cx) (F : Addr → Prop) (names : List Str) (env : Env) (ρ : List (Option Ent)) (fe : FE) (H : Addr → Prop) (h : Heap) : Prop where
  keep : Kh F fe.h h
  base : c.h0.StaysIn fe.h
  baseF : ∀ b, F b → c.h0.get? b = none
  hle : ∀ b, fe.H b → H b
  hlt : ∀ b, H b → ∃ o, h.get? b = some o
  felt : ∀ b, fe.H b → ∃ o, fe.h.get? b = some o
  kind : env.scope.kind = .function
  glob : env.globals = mainGlobals
  bi : env.builtins = builtinsNs
  ns : ∃ m, h.Ns env.locals m
  hl : H env.locals
  lnew : fe.h.get? env.locals = none
  hc : ∀ x cc, env.kindOf x = some .cell → env.cells.lookup x = some cc → H cc ∧ fe.h.get? cc = none
  cl : ∀ x, env.kindOf x = some .cell → ∃ cc v, env.cells.lookup x = some cc ∧ h.IsCell cc v
  capart : ∀ x y cc, env.cells.lookup x = some cc → env.cells.lookup y = some cc → x = y
  vals : ∀ (i : Nat) x t, names[i]? = some x → ρ[i]? = some (some t) → ∃ v, NV h env x v ∧ RepE h H fe v t
  apart : ∀ (i j : Nat) x y xs ys v, i ≠ j → names[i]? = some x → names[j]? = some y → ρ[i]? = some (some (.own xs)) → ρ[j]? = some (some (.own ys)) → NV h env x v → ¬ NV h env y v

theorem lt_of_kh {F : Addr → Prop} {h h' : Heap} (k : Kh F h h') {b : Addr} {o : Obj} (e : h.get? b = some o) : b < h'.objs.size := k.size e

theorem Fm.step {c : Cx} {F : Addr → Prop} {names : List Str} {env : Env} {ρ : List (Option Ent)} {fe : FE} {H : Addr → Prop} {h h' : Heap} (X : Fm c F names env ρ fe H h) (k : Kh F h h') : Fm c F names env ρ fe H h' where
  keep := X.keep.trans k
  base := X.base
  baseF := X.baseF
  hle := X.hle
  hlt := fun b q => let ⟨o, e⟩ := X.hlt b q; let ⟨sl, e'⟩ := (k b o e).2; ⟨_, e'⟩
  felt := X.felt
  kind := X.kind
  glob := X.glob
  bi := X.bi
  ns := let ⟨m, n⟩ := X.ns; ⟨m, k.ns n⟩
  hl := X.hl
  lnew := X.lnew
  hc := X.hc
  cl := fun x q => let ⟨cc, v, e, n⟩ := X.cl x q; ⟨cc, v, e, k.cell n⟩
  capart := X.capart
  vals := fun i x t a b => let ⟨v, n, r⟩ := X.vals i x t a b; ⟨v, n.kh k, r.kh k⟩
  apart := fun i j x y xs ys v ne a b p q n m => by
    obtain ⟨v₁, n₁, _⟩ := X.vals i x _ a p
    obtain ⟨v₂, n₂, _⟩ := X.vals j y _ b q
    have e₁ := (n₁.kh k).uniq n
    have e₂ := (n₂.kh k).uniq m
    subst e₁
    subst e₂
    exact X.apart i j x y xs ys _ ne a b p q n₁ n₂
end Mine
end
section
open PySem PySem.W PyProof.Rows
namespace Mine

/-- the exceptions that are served -/
inductive EX where
  | zde | ofe | te | ve | ae
deriving DecidableEq, Inhabited
def EX.name : EX → String
  | zde => "ZeroDivisionError" | ofe => "OverflowError" | te => "TypeError" | ve => "ValueError" | ae => "AttributeError"

inductive Res where
  | ok (v : AV)
  | exc (cls : EX)
  | stuck
deriving Inhabited

structure Rm (c : Cx) (q : Bool) (k : Nat) (A : Around) (h : Heap) : Prop where
  depth : A.depth + k < recursionLimit
  units : A.units + 8 * k < cLine
  hand : q = true → A.handled = none
  frames : ∃ l, A.frames = some l ∧ h.FunFrames c.h0 l

/-- frames' tables stay tables -/
def Nf (h h' : Heap) : Prop := ∀ b o, h.get? b = some o → (∀ vs, o.data ≠ .fields vs) → ∃ o', h'.get? b = some o' ∧ ∀ vs, o'.data ≠ .fields vs
theorem Kh.nf {F : Addr → Prop} {h h' : Heap} (k : Kh F h h') : Nf h h' := fun b o e n => by
  obtain ⟨sl, q⟩ := (k b o e).2
  exact ⟨_, q, n⟩
theorem Nf.trans {h₁ h₂ h₃ : Heap} (x : Nf h₁ h₂) (y : Nf h₂ h₃) : Nf h₁ h₃ := fun b o e n => let ⟨o', e', n'⟩ := x b o e n; y b o' e' n'
theorem Nf.frames {h h' base : Heap} (k : Nf h h') : ∀ {l : List Env}, h.FunFrames base l → h'.FunFrames base l
  | [], _ => trivial
  | _ :: _, ⟨hk, ⟨L, o, hf, hn, ho, hd⟩, hr⟩ => by
    obtain ⟨o', e', n'⟩ := k L o ho hd
    exact ⟨hk, ⟨L, o', hf, hn, e', n'⟩, Nf.frames k hr⟩
theorem Rm.nf {c : Cx} {q : Bool} {k : Nat} {A : Around} {h h' : Heap} (X : Rm c q k A h) (n : Nf h h') : Rm c q k A h' :=
  ⟨X.depth, X.units, X.hand, let ⟨l, a, b⟩ := X.frames; ⟨l, a, n.frames b⟩⟩
theorem Rm.kp {c : Cx} {q : Bool} {k : Nat} {A : Around} {s s' : Shared} (X : Rm c q k A s.heap) (n : Kp A s s') : Rm c q k A s'.heap := X.nf n.kh.nf
theorem Fm.kp {c : Cx} {A : Around} {names : List Str} {env : Env} {ρ : List (Option Ent)} {fe : FE} {H : Addr → Prop} {s s' : Shared} (X : Fm c (FrA A) names env ρ fe H s.heap) (k : Kp A s s') : Fm c (FrA A) names env ρ fe H s'.heap := X.step k.kh

/-- an exception that has come up from s to s' -/
def Xp (A : Around) (s s' : Shared) (x : Value) (cls : EX) : Prop :=
  ∃ e a0, x = .ref e ∧ Kp A s s' ∧ s.heap.get? e = none ∧
    ((∃ ob, s'.heap.get? e = some ob ∧ ob.cls = .type cls.name ∧ ob.data = .fields #[a0, .none, .none, .none, .bool false, .none]) ∨ s'.heap.TracedW s.heap e (.type cls.name) a0)

theorem none_back {F : Addr → Prop} {h h' : Heap} (k : Kh F h h') {b : Addr} (e : h'.get? b = none) : h.get? b = none := by
  cases q : h.get? b with
  | none => rfl
  | some o => obtain ⟨sl, r⟩ := (k b o q).2; rw [e] at r; cases r

theorem Xp.trans {A : Around} {s₁ s₂ s₃ : Shared} {x : Value} {cls : EX} (k : Kp A s₁ s₂) (X : Xp A s₂ s₃ x cls) : Xp A s₁ s₃ x cls := by
  obtain ⟨e, a0, rfl, k', n, r⟩ := X
  refine ⟨e, a0, rfl, k.trans k', none_back k.kh n, r.imp id fun t => ?_⟩
  obtain ⟨oe, vs, T, oT, ts, he, hc, hd, h1, hT, r⟩ := t
  exact ⟨oe, vs, T, oT, ts, he, hc, hd, h1, none_back k.kh hT, r⟩

def Post (q : Bool) (A : Around) (H : Addr → Prop) (r : Res) (s : Shared) (Q : Value → Shared → Prop) (E : Value → Shared → Prop) : Prop :=
  match r with
  | .ok av => ∀ v s', Kp A s s' → Rep (vis s'.heap H) v av → Q v s'
  | .exc cls => q = true ∧ ∀ x s', Xp A s s' x cls → E x s'
  | .stuck => False

theorem Post.kp {q : Bool} {A : Around} {H : Addr → Prop} {r : Res} {s s' : Shared} {Q E : Value → Shared → Prop} (P : Post q A H r s Q E) (k : Kp A s s') : Post q A H r s' Q E := by
  cases r with
  | ok av => exact fun v s'' k' R => P v s'' (k.trans k') R
  | exc cls => exact ⟨P.1, fun x s'' X => P.2 x s'' (X.trans k)⟩
  | stuck => exact P

/-- hidden things live -/
def Live (H : Addr → Prop) (h : Heap) : Prop := ∀ b, H b → ∃ o, h.get? b = some o
theorem Live.kp {A : Around} {H : Addr → Prop} {s s' : Shared} (L : Live H s.heap) (k : Kp A s s') : Live H s'.heap := fun b q => by
  obtain ⟨o, e⟩ := L b q
  obtain ⟨sl, r⟩ := (k.kh b o e).2
  exact ⟨_, r⟩
theorem Live.fresh {H : Addr → Prop} {h : Heap} (L : Live H h) : ¬ H h.objs.size := fun q => by
  obtain ⟨o, e⟩ := L _ q
  exact absurd (Heap.lt_size e) (Nat.lt_irrefl _)
theorem Rep.kp {A : Around} {H : Addr → Prop} {s s' : Shared} {v : Value} {x : AV} (r : Rep (vis s.heap H) v x) (k : Kp A s s') : Rep (vis s'.heap H) v x := Rep.mono k.kh.vis r
theorem RepL.kp {A : Around} {H : Addr → Prop} {s s' : Shared} {v : List Value} {x : List AV} (r : RepL (vis s.heap H) v x) (k : Kp A s s') : RepL (vis s'.heap H) v x := RepL.mono k.kh.vis r

/-- a tree that comes to r -/
def Tr (c : Cx) (q : Bool) (A : Around) (H : Addr → Prop) (t : Sem Value) (r : Res) (s : Shared) : Prop := ∀ Q E, Post q A H r s Q E → wpAny c.M A t Q E s
/-- a tree that comes to a list of values -/
def TrL (c : Cx) (A : Around) (H : Addr → Prop) (t : Sem (List Value)) (xs : List AV) (s : Shared) : Prop :=
  ∀ Q E, (∀ vs s', Kp A s s' → RepL (vis s'.heap H) vs xs → Q vs s') → wpAny c.M A t Q E s
/-- a test that comes to b -/
def TrB (c : Cx) (A : Around) (t : Sem Bool) (b : Bool) (s : Shared) : Prop := ∀ Q E, (∀ s', Kp A s s' → Q b s') → wpAny c.M A t Q E s

/-- a top-level list may be hidden -/
def RepO (h : Heap) (H : Addr → Prop) (v : Value) : AV → Prop
  | .lst xs => xs.length ≤ 1048576 ∧ ∃ a vs, v = .ref a ∧ IsL h a vs ∧ RepL (vis h H) vs xs
  | x => Rep (vis h H) v x
theorem RepO.of {h : Heap} {H : Addr → Prop} {v : Value} : ∀ {x : AV}, Rep (vis h H) v x → RepO h H v x
  | .lst xs, r => by
    simp only [Rep] at r
    obtain ⟨z, a, vs, n, e, ⟨_, o, q, k, d, f, _⟩, l⟩ := r
    exact ⟨z, a, vs, e, ⟨o, n, q, k, d, f⟩, l⟩
  | .none, r | .bool _, r | .int _, r | .float _, r | .str _, r | .bytes _, r | .type _, r | .ref _, r | .range _ _ _, r | .tup _, r => r
theorem RepO.kp {A : Around} {H : Addr → Prop} {s s' : Shared} {v : Value} (k : Kp A s s') : ∀ {x : AV}, RepO s.heap H v x → RepO s'.heap H v x
  | .lst _, ⟨z, a, vs, e, l, r⟩ => ⟨z, a, vs, e, k.kh.isL l, r.kp k⟩
  | .none, r | .bool _, r | .int _, r | .float _, r | .str _, r | .bytes _, r | .type _, r | .ref _, r | .range _ _ _, r | .tup _, r => Rep.kp (x := _) r k

/-- as Tr, the list may be hidden -/
def PostO (A : Around) (H : Addr → Prop) (av : AV) (s : Shared) (Q : Value → Shared → Prop) : Prop := ∀ v s', Kp A s s' → RepO s'.heap H v av → Q v s'
def TrO (c : Cx) (q : Bool) (A : Around) (H : Addr → Prop) (t : Sem Value) (r : Res) (s : Shared) : Prop := ∀ Q E, (match r with
  | .ok av => PostO A H av s Q
  | .exc cls => Post q A H (.exc cls) s Q E
  | .stuck => False) → wpAny c.M A t Q E s

theorem Tr.toO {c : Cx} {q : Bool} {A : Around} {H : Addr → Prop} {t : Sem Value} {r : Res} {s : Shared} (X : Tr c q A H t r s) : TrO c q A H t r s := fun Q E P => by
  cases r with
  | ok av => exact X Q E fun v s' k r => P v s' k (.of r)
  | exc cls => exact X Q E P
  | stuck => exact P.elim

theorem NV.load {M : Model} {A : Around} {E : Value → Shared → Prop} {s : Shared} {env : Env} {x : Str} {v : Value} {Q : Value → Shared → Prop} (hk : env.scope.kind = .function) (n : NV s.heap env x v) (h : Q v s) : wpAny M A (loadName env x) Q E s := by
  rcases n with ⟨k, m, n, e⟩ | ⟨k, cc, n, e⟩
  · exact wpAny_loadName_local hk k n e h
  · exact wpAny_loadName_cell hk k n e h

section
variable {c : Cx} {q : Bool} {k : Nat} {A : Around} {s : Shared} {H : Addr → Prop}

theorem Tr.pureK {v : Value} {av : AV} {tk : Nat} (r : Rep (vis s.heap H) v av) {Q E : Value → Shared → Prop} (P : Post q A H (.ok av) s Q E) : Q v { s with toks := tk } := P v _ Kp.toks r

theorem tr_const_int {env : Env} {i : Int} {kk pos} : Tr c q A H (eval (.Constant (.int i) kk pos) env) (.ok (.int i)) s := fun _ _ P => wpAny_Constant_int (P _ _ Kp.toks ⟨_, rfl⟩)
theorem tr_const_bool {env : Env} {b : Bool} {kk pos} : Tr c q A H (eval (.Constant (.bool b) kk pos) env) (.ok (.bool b)) s := fun _ _ P => wpAny_Constant_bool (P _ _ (Kp.refl _ _) rfl)
theorem tr_const_none {env : Env} {kk pos} : Tr c q A H (eval (.Constant .none kk pos) env) (.ok .none) s := fun _ _ P => wpAny_Constant_none (P _ _ (Kp.refl _ _) rfl)
theorem tr_const_str {env : Env} {x : Str} {kk pos} : Tr c q A H (eval (.Constant (.str x) kk pos) env) (.ok (.str x)) s := fun _ _ P => wpAny_Constant_str (P _ _ Kp.toks ⟨_, rfl⟩)

theorem tr_name {names : List Str} {env : Env} {ρ : List (Option Ent)} {fe : FE} {i : Nat} {x : Str} {pos : Pos} {av : AV} (F : Fm c (FrA A) names env ρ fe H s.heap) (hx : names[i]? = some x) (hv : ρ[i]? = some (some (.val av)))
    (hd : (x == ("__debug__" : Str)) = false) : Tr c q A H (eval (.Name x pos) env) (.ok av) s := fun _ _ P => by
  obtain ⟨v, n, r⟩ := F.vals i x _ hx hv
  exact wpAny_Name (n.load F.kind (P _ _ (Kp.refl _ _) r)) hd
theorem tr_name_own {names : List Str} {env : Env} {ρ : List (Option Ent)} {fe : FE} {i : Nat} {x : Str} {pos : Pos} {xs : List AV} (F : Fm c (FrA A) names env ρ fe H s.heap) (hx : names[i]? = some x) (hv : ρ[i]? = some (some (.own xs)))
    (hd : (x == ("__debug__" : Str)) = false) : TrO c q A H (eval (.Name x pos) env) (.ok (.lst xs)) s := fun _ _ P => by
  obtain ⟨v, n, z, a, vs, e, l, _, _, r⟩ := F.vals i x _ hx hv
  exact wpAny_Name (n.load F.kind (P _ _ (Kp.refl _ _) ⟨z, a, vs, e, l, r⟩)) hd

/-- sequencing -/
theorem TrO.bindO {t : Sem Value} {av : AV} {Q E : Value → Shared → Prop} (X : TrO c q A H t (.ok av) s) (h : ∀ v s', Kp A s s' → RepO s'.heap H v av → Q v s') : wpAny c.M A t Q E s := X Q E h
theorem Tr.bindK {t : Sem Value} {av : AV} {Q E : Value → Shared → Prop} (X : Tr c q A H t (.ok av) s) (h : ∀ v s', Kp A s s' → Rep (vis s'.heap H) v av → Q v s') : wpAny c.M A t Q E s := X Q E h

end
end Mine
end
section
open PySem PySem.W PyProof.Rows
namespace Mine

/-- built-ins by name -/
inductive BI where
  | len | sum | abs | range | min | max | list | tuple | type | isinstance | chr | bytes | sorted | iter | next | set | frozenset | str | int | bool | float | zip | enumerate | hasattr | dict
deriving DecidableEq, Inhabited
def BI.name : BI → String
  | len => "len" | sum => "sum" | abs => "abs" | range => "range" | min => "min" | max => "max" | list => "list" | tuple => "tuple" | type => "type" | isinstance => "isinstance" | chr => "chr" | bytes => "bytes"
  | sorted => "sorted" | iter => "iter" | next => "next" | set => "set" | frozenset => "frozenset" | str => "str" | int => "int" | bool => "bool" | float => "float" | zip => "zip" | enumerate => "enumerate" | hasattr => "hasattr" | dict => "dict"
/-- methods by name -/
inductive MI where
  | index | count | join
deriving DecidableEq, Inhabited
def MI.name : MI → String
  | index => "index" | count => "count" | join => "join"

mutual
inductive PE where
  | const (v : AV)
  | name (i : Nat)
  | glob (b : BI)
  | bin (op : Operator) (l r : PE)
  | un (op : UnaryOp) (x : PE)
  | cmp (op : CmpOp) (l r : PE)
  | bop (op : BoolOp) (xs : PEs)
  | ife (t a b : PE)
  | list (xs : PEs)
  | tup (xs : PEs)
  | sub (o i : PE)
  | slice (o a b s : PE)
  | call (f : Nat) (xs : PEs)
  | bcall (f : BI) (xs : PEs)
  | meth (o : PE) (m : MI) (xs : PEs)
  | comp (caps : List Nat) (elt src : PE) (cond : PEs)
inductive PEs where
  | nil
  | cons (e : PE) (es : PEs)
end

def RepOL (h : Heap) (H : Addr → Prop) : List Value → List AV → Prop
  | [], [] => True
  | v :: vs, x :: xs => RepO h H v x ∧ RepOL h H vs xs
  | _, _ => False
theorem RepOL.kp {A : Around} {H : Addr → Prop} {s s' : Shared} (k : Kp A s s') : ∀ {vs : List Value} {xs : List AV}, RepOL s.heap H vs xs → RepOL s'.heap H vs xs
  | [], [], _ => trivial
  | [], _ :: _, r => r.elim
  | _ :: _, [], r => r.elim
  | _ :: _, _ :: _, r => ⟨r.1.kp k, RepOL.kp k r.2⟩

/-- what an iterator over a value hands out -/
structure Itr (c : Cx) (A : Around) (I : Addr) (fp : Addr → Prop) (P : Nat → Value → Prop) (n : Nat) (St : Nat → Heap → Prop) : Prop where
  fld : ∀ i h, St i h → ∃ o fs, h.get? I = some o ∧ o.data = .fields fs ∧ ¬ okC o.cls
  frame : ∀ i h h', St i h → (∀ b o, fp b → h.get? b = some o → ((∃ fs, o.data = .fields fs) → h'.get? b = some o) ∧ ∃ sl, h'.get? b = some { o with slots := sl }) → St i h'
  item : ∀ i (s : Shared) (Q : Option Value → Shared → Prop) (E : Value → Shared → Prop), i < n → St i s.heap →
    (∀ v h' tk, P i v → St (i + 1) h' → (∀ b o, b ≠ I → s.heap.get? b = some o → h'.get? b = some o) → (∃ o, h'.get? I = some o) → Q (some v) { s with heap := h', toks := tk }) → wpAny c.M A (pyNext (.ref I)) Q E s
  done : ∀ (s : Shared) (Q : Option Value → Shared → Prop) (E : Value → Shared → Prop), St n s.heap →
    (∀ h' tk, (∀ b o, b ≠ I → s.heap.get? b = some o → h'.get? b = some o) → Q none { s with heap := h', toks := tk }) → wpAny c.M A (pyNext (.ref I)) Q E s
  self : ∀ i (s : Shared) (Q : Value → Shared → Prop) (E : Value → Shared → Prop), St i s.heap → Q (.ref I) s → wpAny c.M A (pyIter (.ref I)) Q E s

/-- the words that are served -/
structure OpsF where
  bin : Operator → AV → AV → Res
  inpl : Operator → AV → AV → Res
  un : UnaryOp → AV → Res
  cmp : CmpOp → AV → AV → Option Bool
  truth : AV → Option Bool
  idx : AV → AV → Res
  slice : AV → AV → AV → AV → Res
  bcall : BI → List AV → Res
  meth : MI → AV → List AV → Res
  items : AV → Option (List AV)

structure OpsOk (c : Cx) (O : OpsF) : Prop where
  bin : ∀ {q k A} {s : Shared} {H op a b va vb}, Rm c q (k + 1) A s.heap → Live H s.heap → RepO s.heap H va a → RepO s.heap H vb b → Tr c q A H (binaryOp op va vb) (O.bin op a b) s
  inpl : ∀ {q k A} {s : Shared} {H op a b va vb}, Rm c q (k + 1) A s.heap → Live H s.heap → RepO s.heap H va a → RepO s.heap H vb b → Tr c q A H (inplaceOp op va vb) (O.inpl op a b) s
  un : ∀ {q k A} {s : Shared} {H op a va}, Rm c q (k + 1) A s.heap → Live H s.heap → RepO s.heap H va a → Tr c q A H (unaryOp op va) (O.un op a) s
  cmp : ∀ {q k A} {s : Shared} {H op a b va vb r}, Rm c q (k + 1) A s.heap → Live H s.heap → RepO s.heap H va a → RepO s.heap H vb b → O.cmp op a b = some r → Tr c q A H (compareOp op va vb) (.ok (.bool r)) s
  truth : ∀ {q k A} {s : Shared} {H a va r}, Rm c q (k + 1) A s.heap → Live H s.heap → RepO s.heap H va a → O.truth a = some r → TrB c A (truthy va) r s
  idx : ∀ {q k A} {s : Shared} {H a b va vb}, Rm c q (k + 1) A s.heap → Live H s.heap → RepO s.heap H va a → RepO s.heap H vb b → Tr c q A H (getItem va vb) (O.idx a b) s
  idxT : ∀ {s : Shared} {H a va b}, RepO s.heap H va a → O.idx a b ≠ .stuck → ∃ T id, s.TypeIs va T ∧ typeLookup (.type T) "__getitem__" = pure (some (.builtin id))
  slice : ∀ {q k A} {s : Shared} {H a x y z va r ux uy uz}, Rm c q (k + 1) A s.heap → Live H s.heap → RepO s.heap H va a → Rep (vis s.heap H) ux x → Rep (vis s.heap H) uy y → Rep (vis s.heap H) uz z →
    s.heap.get? r = some { cls := .type "slice", data := .fields #[ux, uy, uz] } → Tr c q A H (getItem va (.ref r)) (O.slice a x y z) s
  sliceT : ∀ {s : Shared} {H a va x y z}, RepO s.heap H va a → O.slice a x y z ≠ .stuck → ∃ T id, s.TypeIs va T ∧ typeLookup (.type T) "__getitem__" = pure (some (.builtin id))
  bcall : ∀ {q k A} {s : Shared} {H f v xs vs}, q = true → Rm c q (k + 1) A s.heap → c.h0.StaysIn s.heap → Live H s.heap → RepOL s.heap H vs xs → bootBuiltins (f.name : Str) = some v → Tr c q A H (PySem.call v vs) (O.bcall f xs) s
  itemsR : ∀ {a xs}, O.items a = some xs → ∀ b, a ≠ .ref b
  items : ∀ {q k A} {s : Shared} {H a va xs}, Rm c q (k + 1) A s.heap → q = true → Live H s.heap → RepO s.heap H va a → O.items a = some xs → ∀ Q E,
    (∀ I fp P St h' tk, (∀ b o, s.heap.get? b = some o → h'.get? b = some o) → s.heap.get? I = none → fp I → (∀ b, fp b → ∃ o, h'.get? b = some o) → (∀ b, fp b → b = I ∨ va = .ref b) → xs.length ≤ 1048576 → Itr c A I fp P xs.length St → St 0 h' →
      (∀ (i : Nat) v x, P i v → xs[i]? = some x → Rep (vis s.heap H) v x) → Q (.ref I) { s with heap := h', toks := tk }) → wpAny c.M A (pyIter va) Q E s

def FnObj (c : Cx) (f : Str) : Prop := ∃ a o fd, c.mg f = some (.ref a) ∧ c.h0.get? a = some o ∧ o.data = .func fd

/-- a def's contract -/
def Calls (c : Cx) (k : Nat) (f : Str) (args : List AV) (r : Res) : Prop :=
  ∀ q A s H vs a, q = true → Rm c q k A s.heap → c.h0.StaysIn s.heap → Live H s.heap → RepL (vis s.heap H) vs args → c.mg f = some (.ref a) → Tr c q A H (call (.ref a) vs) r s

/-- the defs that may be called -/
structure CallsOk (c : Cx) (k : Nat) (call : Nat → List AV → Res) (fname : Nat → Str) : Prop where
  ok : ∀ f args, call f args ≠ .stuck → Calls c k (fname f) args (call f args) ∧ FnObj c (fname f)

structure PR where
  v : Res
  o : Res
  t : Option Bool

def Res.bind : Res → (AV → Res) → Res
  | .ok v, f => f v
  | _, _ => .stuck
def Res.truth (tr : AV → Option Bool) : Res → Option Bool
  | .ok v => tr v
  | _ => none
def ofB : Option Bool → Res
  | some b => .ok (.bool b)
  | none => .stuck
def PR.of (tr : AV → Option Bool) (r : Res) : PR := ⟨r, r, r.truth tr⟩
def seqV : List PR → Option (List AV)
  | [] => some []
  | ⟨.ok v, _, _⟩ :: r => (seqV r).map (v :: ·)
  | _ => none
def seqO : List PR → Option (List AV)
  | [] => some []
  | ⟨_, .ok v, _⟩ :: r => (seqO r).map (v :: ·)
  | _ => none
def onSome (x : Option (List AV)) (f : List AV → Res) : Res := match x with
  | some l => f l
  | none => .stuck
def allT (op : BoolOp) : List PR → Option Bool
  | [] => some (op == .And)
  | x :: r => match op, x.t with
    | .And, some false => some false
    | .Or, some true => some true
    | _, some _ => allT op r
    | _, none => none
def bopV (tr : AV → Option Bool) (op : BoolOp) : List PR → Res
  | [] => .stuck
  | [x] => x.v
  | x :: y :: r => match x.v with
    | .ok v => (match op, tr v with
      | .And, some false | .Or, some true => .ok v
      | _, some _ => bopV tr op (y :: r)
      | _, none => .stuck)
    | _ => .stuck
def mapF (f : AV → Option (Option AV)) : List AV → Option (List AV)
  | [] => some []
  | x :: r => match f x with
    | some (some y) => (mapF f r).map (y :: ·)
    | some none => mapF f r
    | none => none
def mask (caps : List Nat) (ρ : List (Option Ent)) : List (Option Ent) := ρ.mapIdx fun i e => if caps.contains i then e else none
def compF (ts : List PR → Option Bool) (conds : List PR) (e : PR) : Option (Option AV) := match ts conds with
  | some true => (match e.v with | .ok v => some (some v) | _ => none)
  | some false => some none
  | none => none
def slicePart : Res → Option AV
  | .ok (.int i) => some (.int i)
  | .ok .none => some .none
  | _ => none

section
variable (O : OpsF) (cal : Nat → List AV → Res) (q : Bool)
mutual
def pe (ρ : List (Option Ent)) : PE → PR
  | .const v => .of O.truth (.ok v)
  | .name i => match ρ[i]? with
    | some (some (.val v)) => .of O.truth (.ok v)
    | some (some (.own xs)) => ⟨.stuck, .ok (.lst xs), O.truth (.lst xs)⟩
    | _ => .of O.truth .stuck
  | .glob b => .of O.truth (.ok (.type b.name))
  | .bin op l r => .of O.truth ((pe ρ l).o.bind fun a => (pe ρ r).o.bind fun b => O.bin op a b)
  | .un op x => ⟨(pe ρ x).o.bind fun a => O.un op a, (pe ρ x).o.bind fun a => O.un op a, match op with | .Not => (pe ρ x).t.map (!·) | _ => ((pe ρ x).o.bind fun a => O.un op a).truth O.truth⟩
  | .cmp op l r => .of O.truth ((pe ρ l).o.bind fun a => (pe ρ r).o.bind fun b => ofB (O.cmp op a b))
  | .bop op xs => ⟨bopV O.truth op (pes ρ xs), bopV O.truth op (pes ρ xs), allT op (pes ρ xs)⟩
  | .ife t a b => match (pe ρ t).t with
    | some true => ⟨(pe ρ a).v, (pe ρ a).v, (pe ρ a).t⟩
    | some false => ⟨(pe ρ b).v, (pe ρ b).v, (pe ρ b).t⟩
    | none => ⟨.stuck, .stuck, none⟩
  | .list xs => .of O.truth (onSome (seqV (pes ρ xs)) fun l => if l.length ≤ 100 then .ok (.lst l) else .stuck)
  | .tup xs => .of O.truth (onSome (seqV (pes ρ xs)) fun l => if l.length ≤ 100 then .ok (.tup l) else .stuck)
  | .sub o i => .of O.truth ((pe ρ o).o.bind fun a => (pe ρ i).o.bind fun b => O.idx a b)
  | .slice o a b s => .of O.truth ((pe ρ o).o.bind fun v => (pe ρ a).v.bind fun x => (pe ρ b).v.bind fun y => (pe ρ s).v.bind fun z => O.slice v x y z)
  | .call f xs => .of O.truth (onSome (seqV (pes ρ xs)) fun l => match q with | true => cal f l | false => .stuck)
  | .bcall f xs => .of O.truth (onSome (seqO (pes ρ xs)) fun l => match q with | true => O.bcall f l | false => .stuck)
  | .meth o m xs => .of O.truth ((pe ρ o).o.bind fun a => onSome (seqO (pes ρ xs)) fun l => O.meth m a l)
  | .comp caps elt src conds => .of O.truth (match q with
    | true => (pe ρ src).o.bind fun a => onSome (O.items a) fun l => onSome (mapF (fun x => compF (allT .And) (pes (mask caps ρ ++ [some (.val x)]) conds) (pe (mask caps ρ ++ [some (.val x)]) elt)) l) fun ys => .ok (.lst ys)
    | false => .stuck)
def pes (ρ : List (Option Ent)) : PEs → List PR
  | .nil => []
  | .cons e es => pe ρ e :: pes ρ es
end
end
end Mine
end
section
open PySem PySem.W PyProof.Rows
namespace Mine

/-- kept, but for what is written -/
def Kv (F W : Addr → Prop) (h h' : Heap) : Prop := ∀ b o, ¬ W b → h.get? b = some o → ((¬ F b ∨ ∃ fs, o.data = .fields fs) → h'.get? b = some o) ∧ ∃ sl, h'.get? b = some { o with slots := sl }
theorem Kv.refl (F W : Addr → Prop) (h : Heap) : Kv F W h h := fun _ o _ e => ⟨fun _ => e, o.slots, e⟩
theorem Kv.trans {F W : Addr → Prop} {h₁ h₂ h₃ : Heap} (x : Kv F W h₁ h₂) (y : Kv F W h₂ h₃) : Kv F W h₁ h₃ := fun b o w e =>
  ⟨fun n => (y b o w ((x b o w e).1 n)).1 n, by obtain ⟨sl, e₂⟩ := (x b o w e).2; obtain ⟨sl', e₃⟩ := (y b _ w e₂).2; exact ⟨sl', e₃⟩⟩
theorem Kh.kv {F W : Addr → Prop} {h h' : Heap} (k : Kh F h h') : Kv F W h h' := fun b o _ e => k b o e
theorem Kv.kh {F W : Addr → Prop} {h h' : Heap} (k : Kv F W h h') (n : ∀ b o, h.get? b = some o → ¬ W b) : Kh F h h' := fun b o e => k b o (n b o e) e
theorem Kv.mono {F W W' : Addr → Prop} {h h' : Heap} (k : Kv F W h h') (w : ∀ b, W b → W' b) : Kv F W' h h' := fun b o n e => k b o (fun q => n (w b q)) e
theorem Kv.vis {F W H : Addr → Prop} {h h' : Heap} (x : Kv F W h h') (w : ∀ b, W b → H b) : ∀ a c d, vis h H a c d → Mine.vis h' H a c d := by
  rintro a c d ⟨n, o, e, r1, r2, r3, r4, r5⟩
  by_cases hd : ∃ fs, d = .fields fs
  · exact ⟨n, o, (x a o (fun k => n (w a k)) e).1 (.inr (by rw [r2]; exact hd)), r1, r2, r3, r4, r5⟩
  · obtain ⟨sl, q⟩ := (x a o (fun k => n (w a k)) e).2
    exact ⟨n, _, q, r1, r2, r3, r4, fun z => absurd z hd⟩
theorem Kv.of_sameBut {F W : Addr → Prop} {h h' : Heap} {a : Addr} (x : Heap.SameBut a h h') (w : W a) : Kv F W h h' := fun b o n e => by
  have : h'.get? b = some o := (x.2 b (fun q => n (q ▸ w))).trans e
  exact ⟨fun _ => this, o.slots, this⟩
theorem Kv.of_but {F W : Addr → Prop} {h h' : Heap} {a : Addr} (x : ∀ b o, b ≠ a → h.get? b = some o → h'.get? b = some o) (w : W a) : Kv F W h h' := fun b o n e => by
  have := x b o (fun q => n (q ▸ w)) e
  exact ⟨fun _ => this, o.slots, this⟩

theorem closure_ok {env : Env} : ∀ (names : List (Str × NameKind)) (acc : List (Str × Addr)), (∀ y, (y, NameKind.free) ∈ names → (env.cells.lookup y).isSome = true) →
    ∃ cl, (forIn names acc fun (p : Str × NameKind) (cs : List (Str × Addr)) => (if (p.2 == NameKind.free) = true then do let a ← cellOf env p.1; pure (ForInStep.yield ((p.1, a) :: cs)) else pure (ForInStep.yield cs) : Sem (ForInStep (List (Str × Addr))))) = pure cl ∧
      (∀ y cc, cl.lookup y = some cc → env.cells.lookup y = some cc ∨ acc.lookup y = some cc) ∧ (∀ y, (y, NameKind.free) ∈ names ∨ (∃ cc, acc.lookup y = some cc ∧ env.cells.lookup y = some cc) → cl.lookup y = env.cells.lookup y)
  | [], acc, _ => ⟨acc, by rw [List.forIn_nil], fun _ _ e => .inr e, fun y h => by
      rcases h with h | ⟨cc, a, b⟩
      · cases h
      · rw [a, b]⟩
  | (n, kd) :: r, acc, h => by
    rw [List.forIn_cons]
    by_cases hk : (kd == NameKind.free) = true
    · have hkf : kd = .free := by simpa using hk
      subst hkf
      obtain ⟨a, ha⟩ := Option.isSome_iff_exists.mp (h n (List.mem_cons_self ..))
      obtain ⟨cl, e, p1, p2⟩ := closure_ok r ((n, a) :: acc) fun y hy => h y (List.mem_cons_of_mem _ hy)
      refine ⟨cl, ?_, fun y cc q => ?_, fun y hy => ?_⟩
      · simp only [beq_self_eq_true, if_true]
        have : cellOf env n = pure a := by unfold cellOf; rw [ha]
        rw [this]
        simpa using e
      · rcases p1 y cc q with q | q
        · exact .inl q
        · rw [List.lookup_cons] at q
          cases hb : y == n with
          | true => rw [hb] at q; cases q; rw [beq_iff_eq.mp hb]; exact .inl ha
          | false => rw [hb] at q; exact .inr q
      · refine p2 y ?_
        by_cases hyn : y = n
        · subst hyn; exact .inr ⟨a, by simp, ha⟩
        · rcases hy with hy | ⟨cc, q1, q2⟩
          · rcases List.mem_cons.mp hy with e' | hy
            · cases e'; exact absurd rfl hyn
            · exact .inl hy
          · refine .inr ⟨cc, ?_, q2⟩
            rw [List.lookup_cons]
            have : (y == n) = false := by simpa using hyn
            rw [this]; exact q1
    · obtain ⟨cl, e, p1, p2⟩ := closure_ok r acc fun y hy => h y (List.mem_cons_of_mem _ hy)
      refine ⟨cl, ?_, p1, fun y hy => p2 y ?_⟩
      · rw [if_neg hk]; simpa using e
      · rcases hy with hy | hy
        · rcases List.mem_cons.mp hy with e' | hy
          · cases e'; exact absurd rfl hk
          · exact .inl hy
        · exact .inr hy
theorem closureFor_ok {env : Env} {scope : Scope} (h : ∀ y, (y, NameKind.free) ∈ scope.names → (env.cells.lookup y).isSome = true) :
    ∃ cl, closureFor scope env = pure cl ∧ (∀ y cc, cl.lookup y = some cc → env.cells.lookup y = some cc) ∧ (∀ y, (y, NameKind.free) ∈ scope.names → cl.lookup y = env.cells.lookup y) := by
  obtain ⟨cl, e, p1, p2⟩ := closure_ok scope.names [] h
  refine ⟨cl, ?_, fun y cc q => (p1 y cc q).elim id fun q => by simp at q, fun y hy => p2 y (.inl hy)⟩
  unfold closureFor
  simp only [bind_pure_comp] at e ⊢
  first
    | (rw [← e]; done)
    | (simpa using e)

/-- the tests of a comprehension -/
abbrev testsOf (ifs : List Expr) (env : Env) : Sem Bool := forIn ifs true fun c r => if r = true then do let ok ← isTrue c env (eval c env); pure (ForInStep.yield ok) else pure (ForInStep.yield r)

end Mine
end
section
open PySem PySem.W PyProof.Rows
namespace Mine

theorem lookup_relabel_free {env : Env} (hk : env.scope.kind = .function) : ∀ {names : List (Str × NameKind)} {x : Str}, names.lookup x = some .free → env.kindOf x = some .cell →
    (names.map fun (n, k) => if (k == NameKind.free && env.scope.kind == .function && env.kindOf n == some .cell) then (n, NameKind.cell) else (n, k)).lookup x = some .cell
  | [], _, h, _ => by simp at h
  | (n, k) :: r, x, h, hc => by
    have ih := @lookup_relabel_free env hk r x
    show List.lookup x ((if (k == NameKind.free && env.scope.kind == .function && env.kindOf n == some .cell) = true then (n, NameKind.cell) else (n, k)) :: _) = _
    cases hx : x == n with
    | true =>
      simp only [List.lookup_cons, hx] at h
      cases h
      have e : x = n := beq_iff_eq.mp hx
      subst e
      have : (NameKind.free == NameKind.free && env.scope.kind == .function && env.kindOf x == some .cell) = true := by rw [hk, hc]; decide
      rw [if_pos this]
      simp [List.lookup_cons]
    | false =>
      simp only [List.lookup_cons, hx] at h
      by_cases hcc : (k == NameKind.free && env.scope.kind == .function && env.kindOf n == some .cell) = true
      · rw [if_pos hcc]; simp only [List.lookup_cons, hx]; exact ih h hc
      · rw [if_neg hcc]; simp only [List.lookup_cons, hx]; exact ih h hc
theorem lookup_relabel_cell {env : Env} : ∀ {names : List (Str × NameKind)} {x : Str}, (∀ y ∈ names, y.2 ≠ .cell) →
    (names.map fun (n, k) => if (k == NameKind.free && env.scope.kind == .function && env.kindOf n == some .cell) then (n, NameKind.cell) else (n, k)).lookup x = some .cell → (x, NameKind.free) ∈ names ∧ env.kindOf x = some .cell
  | [], _, _, h => by simp at h
  | (n, k) :: r, x, hno, h => by
    have ih := @lookup_relabel_cell env r x fun y hy => hno y (List.mem_cons_of_mem _ hy)
    have h : List.lookup x ((if (k == NameKind.free && env.scope.kind == .function && env.kindOf n == some .cell) = true then (n, NameKind.cell) else (n, k)) :: (r.map fun (n, k) => if (k == NameKind.free && env.scope.kind == .function && env.kindOf n == some .cell) then (n, NameKind.cell) else (n, k))) = some .cell := h
    cases hx : x == n with
    | true =>
      have e : x = n := beq_iff_eq.mp hx
      subst e
      by_cases hcc : (k == NameKind.free && env.scope.kind == .function && env.kindOf x == some .cell) = true
      · simp only [Bool.and_eq_true, beq_iff_eq] at hcc
        obtain ⟨⟨h1, _⟩, h3⟩ := hcc
        subst h1
        exact ⟨List.mem_cons_self .., h3⟩
      · rw [if_neg hcc] at h
        simp only [List.lookup_cons, hx] at h
        cases h
        exact absurd rfl (hno (x, NameKind.cell) (List.mem_cons_self ..))
    | false =>
      have : List.lookup x (r.map fun (n, k) => if (k == NameKind.free && env.scope.kind == .function && env.kindOf n == some .cell) then (n, NameKind.cell) else (n, k)) = some .cell := by
        by_cases hcc : (k == NameKind.free && env.scope.kind == .function && env.kindOf n == some .cell) = true
        · rw [if_pos hcc] at h; simpa only [List.lookup_cons, hx] using h
        · rw [if_neg hcc] at h; simpa only [List.lookup_cons, hx] using h
      exact ⟨List.mem_cons_of_mem _ (ih this).1, (ih this).2⟩

theorem vis_new {Fr H H₃ : Addr → Prop} {h h₂ : Heap} (k : Kh Fr h h₂) (hN : ∀ b, H₃ b → H b ∨ h.get? b = none) : ∀ a c d, vis h H a c d → vis h₂ H₃ a c d := by
  rintro a c d ⟨n, o, e, r⟩
  obtain ⟨_, o', e', r'⟩ := k.vis (H := H) a c d ⟨n, o, e, r⟩
  refine ⟨fun z => ?_, o', e', r'⟩
  rcases hN a z with z | z
  · exact n z
  · rw [e] at z; cases z

theorem RepE.new {Fr H H₃ : Addr → Prop} {h h₂ : Heap} {fe : FE} (k : Kh Fr h h₂) (hH : ∀ b, H b → H₃ b) (hN : ∀ b, H₃ b → H b ∨ h.get? b = none) {v : Value} : ∀ {t : Ent}, RepE h H fe v t → RepE h₂ H₃ fe v t
  | .val _, r => Rep.mono (vis_new k hN) r
  | .own _, ⟨z, a, vs, e, l, q, w, r⟩ => ⟨z, a, vs, e, k.isL l, hH a q, w, RepL.mono (vis_new k hN) r⟩

theorem mask_get {caps : List Nat} {ρ : List (Option Ent)} {i : Nat} {t : Ent} (h : (mask caps ρ)[i]? = some (some t)) : i ∈ caps ∧ ρ[i]? = some (some t) := by
  unfold mask at h
  rw [List.getElem?_mapIdx] at h
  cases q : ρ[i]? with
  | none => rw [q] at h; simp at h
  | some e =>
    rw [q] at h
    simp only [Option.map_some, Option.some.injEq] at h
    split at h
    · rename_i hc
      exact ⟨by simpa using hc, by rw [h]⟩
    · cases h
theorem mask_length {caps : List Nat} {ρ : List (Option Ent)} : (mask caps ρ).length = ρ.length := by simp [mask]

structure CompOk (names : List Str) (env : Env) (scope : Scope) (x : Str) (caps : List Nat) : Prop where
  cell : ∀ y ∈ scope.names, y.2 ≠ .cell
  kind : scope.kind = .function
  loc : ∀ y ∈ scope.names, y.2 = .local → scope.names.lookup y.1 = some .local
  var : scope.names.lookup x = some .local
  free : ∀ y, (y, NameKind.free) ∈ scope.names → env.kindOf y = some .cell
  cap : ∀ i ∈ caps, ∀ y, names[i]? = some y → scope.names.lookup y = some .free

theorem mem_lookup {α : Type} : ∀ {l : List (Str × α)} {n : Str} {c : α}, l.lookup n = some c → (n, c) ∈ l := mem_of_lookup

theorem comp_fm {c : Cx} {Fr : Addr → Prop} {names : List Str} {env cenv : Env} {ρ : List (Option Ent)} {fe : FE} {H H₃ : Addr → Prop} {h h₂ : Heap} {scope : Scope} {x : Str} {caps : List Nat} {m : Str → Option Value} {v : Value} {item : AV}
    (F : Fm c Fr names env ρ fe H h) (hlen : ρ.length = names.length) (K : CompOk names env scope x caps) (k : Kh Fr h h₂) (hH : ∀ b, H b → H₃ b) (hN : ∀ b, H₃ b → H b ∨ h.get? b = none) (hL : Live H₃ h₂)
    (hC : h₂.Ns cenv.locals m) (hCH : H₃ cenv.locals) (hCn : h.get? cenv.locals = none) (hmx : m x = some v) (hr : Rep (vis h₂ H₃) v item) (hsc : cenv.scope = relabel scope env) (hg : cenv.globals = env.globals) (hb : cenv.builtins = env.builtins)
    (hcl1 : ∀ y cc, cenv.cells.lookup y = some cc → env.cells.lookup y = some cc) (hcl2 : ∀ y, (y, NameKind.free) ∈ scope.names → cenv.cells.lookup y = env.cells.lookup y) :
    Fm c Fr (names ++ [x]) cenv (mask caps ρ ++ [some (.val item)]) fe H₃ h₂ := by
  have kx : cenv.kindOf x = some .local := by
    show cenv.scope.names.lookup x = some .local
    rw [hsc]; exact lookup_relabel_local K.var
  have kc : ∀ y, scope.names.lookup y = some .free → cenv.kindOf y = some .cell := fun y hy => by
    show cenv.scope.names.lookup y = some .cell
    rw [hsc]; exact lookup_relabel_free F.kind hy (K.free y (mem_of_lookup hy))
  have get : ∀ (i : Nat) y t, (names ++ [x])[i]? = some y → (mask caps ρ ++ [some (.val item)])[i]? = some (some t) → (i = names.length ∧ y = x ∧ t = .val item) ∨ (i < names.length ∧ names[i]? = some y ∧ i ∈ caps ∧ ρ[i]? = some (some t)) := by
    intro i y t h1 h2
    by_cases hi : i < names.length
    · rw [List.getElem?_append_left hi] at h1
      rw [List.getElem?_append_left (by rw [mask_length, hlen]; exact hi)] at h2
      exact .inr ⟨hi, h1, mask_get h2⟩
    · have hge : names.length ≤ i := Nat.le_of_not_lt hi
      rw [List.getElem?_append_right hge] at h1
      rw [List.getElem?_append_right (by rw [mask_length, hlen]; exact hge), mask_length, hlen] at h2
      cases hz : i - names.length with
      | zero => rw [hz] at h1 h2; simp at h1 h2; exact .inl ⟨by omega, h1.symm, h2.symm⟩
      | succ n => rw [hz] at h1; simp at h1
  exact {
    keep := F.keep.trans k
    base := F.base
    baseF := F.baseF
    hle := fun b q => hH b (F.hle b q)
    hlt := hL
    felt := F.felt
    kind := by rw [hsc]; exact K.kind
    glob := hg.trans F.glob
    bi := hb.trans F.bi
    ns := ⟨m, hC⟩
    hl := hCH
    lnew := none_back F.keep hCn
    hc := fun y cc qk q => by
      have qk : cenv.scope.names.lookup y = some .cell := qk
      rw [hsc] at qk
      obtain ⟨_, q2⟩ := lookup_relabel_cell K.cell qk
      obtain ⟨a, b⟩ := F.hc y cc q2 (hcl1 y cc q)
      exact ⟨hH _ a, b⟩
    cl := fun y q => by
      have q : cenv.scope.names.lookup y = some .cell := q
      rw [hsc] at q
      obtain ⟨q1, q2⟩ := lookup_relabel_cell K.cell q
      obtain ⟨cc, w, e, n⟩ := F.cl y q2
      exact ⟨cc, w, (hcl2 y q1).trans e, k.cell n⟩
    capart := fun y z cc a b => F.capart y z cc (hcl1 y cc a) (hcl1 z cc b)
    vals := fun i y t h1 h2 => by
      rcases get i y t h1 h2 with ⟨_, rfl, rfl⟩ | ⟨_, n1, n2, n3⟩
      · exact ⟨v, .inl ⟨kx, m, hC, hmx⟩, hr⟩
      · obtain ⟨w, nv, r⟩ := F.vals i y t n1 n3
        have hfr := K.cap i n2 y n1
        have hcell := K.free y (mem_of_lookup hfr)
        rcases nv with ⟨q, _⟩ | ⟨q, cc, e, n⟩
        · rw [hcell] at q; cases q
        · exact ⟨w, .inr ⟨kc y hfr, cc, (hcl2 y (mem_of_lookup hfr)).trans e, k.cell n⟩, r.new k hH hN⟩
    apart := fun i j y z xs ys w ne h1 h2 p1 p2 n1 n2 => by
      rcases get i y _ h1 p1 with ⟨_, _, e⟩ | ⟨_, a1, a2, a3⟩
      · cases e
      rcases get j z _ h2 p2 with ⟨_, _, e⟩ | ⟨_, b1, b2, b3⟩
      · cases e
      obtain ⟨w₁, nv₁, _⟩ := F.vals i y _ a1 a3
      obtain ⟨w₂, nv₂, _⟩ := F.vals j z _ b1 b3
      have tr : ∀ y w', scope.names.lookup y = some .free → NV h env y w' → NV h₂ cenv y w' := fun y w' hfr nv => by
        have hcell := K.free y (mem_of_lookup hfr)
        rcases nv with ⟨q, _⟩ | ⟨q, cc, e, n⟩
        · rw [hcell] at q; cases q
        · exact .inr ⟨kc y hfr, cc, (hcl2 y (mem_of_lookup hfr)).trans e, k.cell n⟩
      have e₁ := (tr y w₁ (K.cap i a2 y a1) nv₁).uniq n1
      have e₂ := (tr z w₂ (K.cap j b2 z b1) nv₂).uniq n2
      subst e₁; subst e₂
      exact F.apart i j y z xs ys _ ne a1 b1 a3 b3 nv₁ nv₂ }

theorem mapF_snoc {f : AV → Option (Option AV)} : ∀ {l : List AV} {ys : List AV} {x : AV}, mapF f l = some ys → mapF f (l ++ [x]) = match f x with | some (some y) => some (ys ++ [y]) | some none => some ys | none => none
  | [], ys, x, h => by
    simp only [mapF, Option.some.injEq] at h
    subst h
    simp only [List.nil_append, mapF]
    cases f x with
    | none => rfl
    | some r => cases r <;> rfl
  | z :: l, ys, x, h => by
    simp only [mapF, List.cons_append] at h ⊢
    cases hz : f z with
    | none => rw [hz] at h; cases h
    | some r =>
      rw [hz] at h
      cases r with
      | none => exact mapF_snoc h
      | some y =>
        simp only [Option.map_eq_some_iff] at h
        obtain ⟨ys', h1, rfl⟩ := h
        simp only [mapF_snoc h1]
        cases f x with
        | none => rfl
        | some r => cases r <;> rfl
theorem mapF_take {f : AV → Option (Option AV)} : ∀ {l : List AV} {ys : List AV} (j : Nat), mapF f l = some ys → ∃ zs, mapF f (l.take j) = some zs
  | _, _, 0, _ => ⟨[], by simp [mapF]⟩
  | [], _, _ + 1, _ => ⟨[], by simp [mapF]⟩
  | z :: l, ys, j + 1, h => by
    simp only [mapF, List.take_succ_cons] at h ⊢
    cases hz : f z with
    | none => rw [hz] at h; cases h
    | some r =>
      rw [hz] at h
      cases r with
      | none => exact mapF_take j h
      | some y =>
        simp only [Option.map_eq_some_iff] at h
        obtain ⟨ys', h1, _⟩ := h
        obtain ⟨zs, e⟩ := mapF_take j h1
        exact ⟨y :: zs, by simp [e]⟩
theorem mapF_length {f : AV → Option (Option AV)} : ∀ {l ys : List AV}, mapF f l = some ys → ys.length ≤ l.length
  | [], ys, h => by simp only [mapF, Option.some.injEq] at h; subst h; simp
  | z :: l, ys, h => by
    simp only [mapF] at h
    cases hz : f z with
    | none => rw [hz] at h; cases h
    | some r =>
      rw [hz] at h
      cases r with
      | none => have := mapF_length h; simp; omega
      | some y =>
        simp only [Option.map_eq_some_iff] at h
        obtain ⟨ys', h1, rfl⟩ := h
        have := mapF_length h1
        simp; omega
theorem mapF_step {f : AV → Option (Option AV)} {l ys : List AV} {j : Nat} {x : AV} {zs : List AV} (h : mapF f l = some ys) (hx : l[j]? = some x) (hz : mapF f (l.take j) = some zs) :
    (∃ y, f x = some (some y) ∧ mapF f (l.take (j + 1)) = some (zs ++ [y])) ∨ (f x = some none ∧ mapF f (l.take (j + 1)) = some zs) := by
  have e : l.take (j + 1) = l.take j ++ [x] := by rw [List.take_add_one, hx]; rfl
  obtain ⟨ws, hw⟩ := mapF_take (j + 1) h
  rw [e, mapF_snoc hz] at hw
  rw [e, mapF_snoc hz]
  cases hf : f x with
  | none => rw [hf] at hw; cases hw
  | some r =>
    cases r with
    | none => exact .inr ⟨rfl, rfl⟩
    | some y => exact .inl ⟨y, rfl, rfl⟩
end Mine
end
section
open PySem PySem.W PyProof.Rows
namespace Mine

/-- what a turn of a comprehension does with an item -/
def TurnOk (c : Cx) (q : Bool) (k : Nat) (A : Around) (names : List Str) (env : Env) (ρ : List (Option Ent)) (fe : FE) (scope : Scope) (x : Str) (caps : List Nat) (elt : Expr) (ifs : List Expr) (f : AV → Option (Option AV)) : Prop :=
  ∀ item (s₃ : Shared) H₃ cenv, cenv.scope = relabel scope env → Rm c q k A s₃.heap → Fm c (FrA A) (names ++ [x]) cenv (mask caps ρ ++ [some (.val item)]) fe H₃ s₃.heap →
    (∀ y, f item = some (some y) → TrB c A (testsOf ifs cenv) true s₃ ∧ ∀ s₄, Kp A s₃ s₄ → Tr c q A H₃ (eval elt cenv) (.ok y) s₄) ∧ (f item = some none → TrB c A (testsOf ifs cenv) false s₃)

theorem Kh.trans' {F W : Addr → Prop} {h₁ h₂ h₃ : Heap} (x : Kh F h₁ h₂) (y : Kv F W h₂ h₃) (n : ∀ b o, h₁.get? b = some o → ¬ W b) : Kh F h₁ h₃ := fun b o e =>
  ⟨fun z => (y b o (n b o e) ((x b o e).1 z)).1 z, by obtain ⟨sl, e₂⟩ := (x b o e).2; obtain ⟨sl', e₃⟩ := (y b _ (n b o e) e₂).2; exact ⟨sl', e₃⟩⟩

theorem get_push_none {h : Heap} {o : Obj} {b : Addr} (e : (h.push o).get? b = none) : h.get? b = none := by
  cases q : h.get? b with
  | none => rfl
  | some o' => rw [Heap.get?_push_of_some _ q] at e; cases e

theorem list_appendL {prog : Program} {w : World} {A : Around} {E : Value → Shared → Prop} {s : Shared} {l : Addr} {items : List Value} {x : Value} {Q : Value → Shared → Prop} (hsz : (List.toArray items).size ≤ sizeLine) (hl : IsL s.heap l items)
    (hQ : ∀ h', IsL h' l (items ++ [x]) → Heap.SameBut l s.heap h' → Q .none { s with heap := h' }) :
    wpAny (model prog w) A (call (.builtin "list.append") [.ref l, x]) Q E s := by
  obtain ⟨o, n, ho, hc, hd, hn⟩ := id hl
  obtain ⟨n', hd'⟩ := Obj.data_mapSeq hd (·.push x)
  refine wpAny_call_entry slot_list_append hl.isList.typeIs entry_list_append ?_ (args_list_append _ _)
  show wpAny _ _ (updateSeq l (·.push x) >>= fun _ => ret .none) _ _ s
  refine wpAny_bind ?_
  refine wpAny_updateSeq ho hd (wpAny_pure ⟨.none, rfl, hQ _ ?_ (Heap.SameBut.update ..)⟩)
  refine ⟨_, n', Heap.get?_update_self _ ho (Obj.isFreed_of_seq hd'), (Obj.cls_mapSeq ..).trans hc, by rw [hd']; simp, ?_⟩
  obtain ⟨oc, od, odt, os⟩ := o
  simp only at hd hn ⊢
  subst hd
  exact hn

theorem comp_core {c : Cx} {q : Bool} {k : Nat} {A : Around} {s₁ s₂ : Shared} {H : Addr → Prop} {fe : FE} {names : List Str} {env : Env} {ρ : List (Option Ent)} {elt iter : Expr} {x : Str} {px pos : Pos} {ifs : List Expr} {scope : Scope} {caps : List Nat}
    {cl : List (Str × Addr)} {I : Addr} {fp : Addr → Prop} {P : Nat → Value → Prop} {St : Nat → Heap → Prop} {l ys : List AV} {f : AV → Option (Option AV)} {E : Value → Shared → Prop} {RR : Value → Addr → Result → Shared → Prop}
    (hm : Rm c q k A s₁.heap) (F : Fm c (FrA A) names env ρ fe H s₁.heap) (hlen : ρ.length = names.length) (K : CompOk names env scope x caps)
    (hcl1 : ∀ y cc, cl.lookup y = some cc → env.cells.lookup y = some cc) (hcl2 : ∀ y, (y, NameKind.free) ∈ scope.names → cl.lookup y = env.cells.lookup y)
    (hs : ∃ h' tk, s₂ = { s₁ with heap := h', toks := tk }) (hk : ∀ b o, s₁.heap.get? b = some o → s₂.heap.get? b = some o) (hI : s₁.heap.get? I = none) (hIl : ∀ b, fp b → ∃ o, s₂.heap.get? b = some o) (hfI : fp I)
    (W : Itr c A I fp P l.length St) (hst : St 0 s₂.heap) (hsz : l.length ≤ 1048576) (hP : ∀ (i : Nat) v y, P i v → l[i]? = some y → Rep (vis s₁.heap H) v y)
    (hf : mapF f l = some ys) (T : TurnOk c q k A names env ρ fe scope x caps elt ifs f)
    (hR : ∀ D C h' tk m' vs, s₂.heap.get? D = none → s₂.heap.get? C = none → D ≠ C → h'.Ns C m' → IsL h' D vs → RepL (vis h' (fun b => H b ∨ b = C ∨ b = D ∨ b = I)) vs ys → Kv (FrA A) (fun b => b = I) s₂.heap h' →
      RR (.ref D) C (.ok .next) { s₂ with heap := h', toks := tk }) :
    wpAny c.M A (newList []) (fun acc s₃ => wpAny c.M A (newFunctionEnv scope env.globals cl [] env.qual none .none (some env)) (fun cenv s₄ =>
      codeAny c.M A (.compStart (.ListComp elt [⟨.Name x px, iter, ifs, 0⟩] scope pos) 0 (.ref I) acc { cenv with scope := relabel scope env }) (RR acc cenv.locals) s₄) E s₃) E s₂ := by
  refine wpAny_newObj_type (wpAny_newFunctionEnv K.cell (by intro y hy; simp at hy) (fun h₁ hns₁ hsb₁ => ?_) K.kind)
  dsimp only at hns₁ hsb₁ ⊢
  generalize hD : s₂.heap.objs.size = D
  generalize hH2 : s₂.heap.push { cls := .type "list", dict := none, data := .seq ([] : List Value).toArray } = H2 at hns₁ hsb₁ ⊢
  generalize hC : H2.objs.size = C at hns₁ hsb₁ ⊢
  have hCD : C = D + 1 := by rw [← hC, ← hH2, Heap.size_push, hD]
  have hDC : D ≠ C := by omega
  have hDn : s₂.heap.get? D = none := Heap.get?_none_of_le (by omega)
  have hCn : s₂.heap.get? C = none := Heap.get?_none_of_le (by omega)
  have hDn₁ : s₁.heap.get? D = none := by
    cases e : s₁.heap.get? D with
    | none => rfl
    | some o => have := hk _ _ e; rw [hDn] at this; cases this
  have hCn₁ : s₁.heap.get? C = none := by
    cases e : s₁.heap.get? C with
    | none => rfl
    | some o => have := hk _ _ e; rw [hCn] at this; cases this
  have old : ∀ b o, s₂.heap.get? b = some o → h₁.get? b = some o := fun b o e => by
    have e1 : H2.get? b = some o := by rw [← hH2]; exact Heap.get?_push_of_some _ e
    refine hsb₁.extBut b o (fun q => ?_) (Heap.get?_push_of_some _ e1)
    rw [q, hCn] at e; cases e
  have hacc : IsL h₁ D [] := by
    have e1 : H2.get? D = some { cls := .type "list", dict := none, data := .seq ([] : List Value).toArray } := by rw [← hH2, ← hD]; exact Heap.get?_push_size _ rfl
    exact ⟨_, _, hsb₁.extBut _ _ hDC (Heap.get?_push_of_some _ e1), rfl, rfl, rfl⟩
  obtain ⟨hI0, tkI, rfl⟩ := hs
  dsimp only at *
  obtain ⟨oI, hoI⟩ := hIl I hfI
  have hIC : I ≠ C := fun q => by rw [q, hCn] at hoI; cases hoI
  have hID : I ≠ D := fun q => by rw [q, hDn] at hoI; cases hoI
  have fpC : ∀ b, fp b → b ≠ C ∧ b ≠ D := fun b hb => by
    obtain ⟨o, ho⟩ := hIl b hb
    exact ⟨fun q => by (rw [q, hCn] at ho; cases ho), fun q => by (rw [q, hDn] at ho; cases ho)⟩
  generalize hH3 : (fun b => H b ∨ b = C ∨ b = D ∨ b = I) = H₃
  have hHH : ∀ b, H b → H₃ b := fun b z => by rw [← hH3]; exact .inl z
  have hW3 : ∀ b, (b = C ∨ b = D ∨ b = I) → H₃ b := fun b z => by rw [← hH3]; exact .inr z
  have hHN : ∀ b, H₃ b → H b ∨ s₁.heap.get? b = none := fun b z => by
    rw [← hH3] at z
    rcases z with z | z | z | z
    · exact .inl z
    · exact .inr (z ▸ hCn₁)
    · exact .inr (z ▸ hDn₁)
    · exact .inr (z ▸ hI)
  have hkH1 : Kh (FrA A) s₁.heap h₁ := Kh.of_keeps fun b o e => old b o (hk b o e)
  have hst₁ : St 0 h₁ := W.frame _ _ _ hst fun b o _ e => ⟨fun _ => old b o e, o.slots, old b o e⟩
  have loop : ∀ s₃ : Shared, s₃ = { s₁ with heap := h₁, toks := tkI + ([] : List (Str × Value)).length } →
      codeAny c.M A (.compLoop (.ListComp elt [⟨.Name x px, iter, ifs, 0⟩] scope pos) 0 (.ref I) (.ref D) (compEnvC scope cl C env)) (RR (.ref D) C) s₃ := by
    rintro s₃ rfl
    refine codeAny_compLoop_tests (fun n s' => ∃ h' tk m' j zs vs, s' = { s₁ with heap := h', toks := tk } ∧ St j h' ∧ j ≤ l.length ∧ n = l.length + 1 - j ∧ IsL h' D vs ∧ mapF f (l.take j) = some zs ∧
      RepL (vis h' H₃) vs zs ∧ h'.Ns C m' ∧ Kv (FrA A) (fun b => b = C ∨ b = D ∨ b = I) h₁ h' ∧ (∃ o, h'.get? I = some o)) ?_ (l.length + 1)
      ⟨h₁, _, _, 0, [], [], rfl, hst₁, Nat.zero_le _, rfl, hacc, by simp [mapF], by simp [RepL], hns₁, Kv.refl _ _ _, oI, old _ _ hoI⟩
    rintro n s' ⟨h', tk, m', j, zs, vs, rfl, hst', hj, rfl, hD', hzs, hvs, hC', hkv, hoI'⟩
    by_cases hlt : j < l.length
    · obtain ⟨item, hit⟩ : ∃ y, l[j]? = some y := ⟨l[j], by simp [hlt]⟩
      refine W.item j _ _ _ hlt hst' fun v h₂ tk₂ hPv hst₂ hk₂ hI₂ => ?_
      dsimp only
      obtain ⟨oI₂, hoI₂⟩ := hI₂
      have kv₂ : Kv (FrA A) (fun b => b = C ∨ b = D ∨ b = I) h' h₂ := Kv.of_but hk₂ (.inr (.inr rfl))
      obtain ⟨oC, esC, epC, hoC, rC⟩ := hC'
      have hC₂ : h₂.Ns C m' := ⟨oC, esC, epC, hk₂ C oC (Ne.symm hIC) hoC, rC⟩
      have hD₂ : IsL h₂ D vs := hD'.at' fun o e => hk₂ D o (Ne.symm hID) e
      refine wpAny_assign_Name (wpAny_storeName_local (env := compEnvC scope cl C env) (lookup_relabel_local K.var) hC₂ (fun h₃ hn₃ hs₃ => ?_) (by simp [compEnvC, relabel, K.kind]))
      have kv₃ : Kv (FrA A) (fun b => b = C ∨ b = D ∨ b = I) h₂ h₃ := Kv.of_sameBut hs₃ (.inl rfl)
      have kv13 := (hkv.trans kv₂).trans kv₃
      have kh₃ : Kh (FrA A) s₁.heap h₃ := hkH1.trans' kv13 fun b o e => by
        rintro (z | z | z)
        · rw [z, hCn₁] at e; cases e
        · rw [z, hDn₁] at e; cases e
        · rw [z, hI] at e; cases e
      have hD₃ : IsL h₃ D vs := hD₂.at' fun o e => hs₃.extBut D o hDC e
      have hst₃ : St (j + 1) h₃ := W.frame _ _ _ hst₂ fun b o hb e => ⟨fun _ => hs₃.extBut b o (fpC b hb).1 e, o.slots, hs₃.extBut b o (fpC b hb).1 e⟩
      have hoI₃ : h₃.get? I = some oI₂ := hs₃.extBut I oI₂ hIC hoI₂
      have live₃ : Live H₃ h₃ := fun b z => by
        rw [← hH3] at z
        rcases z with z | rfl | rfl | rfl
        · obtain ⟨o, e⟩ := F.hlt b z
          obtain ⟨sl, e'⟩ := (kh₃ b o e).2
          exact ⟨_, e'⟩
        · obtain ⟨o, _, _, e, _⟩ := hn₃; exact ⟨o, e⟩
        · obtain ⟨o, _, e, _⟩ := hD₃; exact ⟨o, e⟩
        · exact ⟨_, hoI₃⟩
      have F₃ : Fm c (FrA A) (names ++ [x]) (compEnvC scope cl C env) (mask caps ρ ++ [some (.val item)]) fe H₃ h₃ :=
        comp_fm F hlen K kh₃ hHH hHN live₃ hn₃ (hW3 C (.inl rfl)) hCn₁ (by simp) (Rep.mono (vis_new kh₃ hHN) (hP j v item hPv hit)) rfl rfl rfl hcl1 hcl2
      have hm₃ : Rm c q k A h₃ := hm.nf kh₃.nf
      have TT := T item { s₁ with heap := h₃, toks := tk₂ + 1 } H₃ (compEnvC scope cl C env) rfl hm₃ F₃
      rcases mapF_step hf hit hzs with ⟨y, hy, hzs'⟩ | ⟨hy, hzs'⟩
      · obtain ⟨t1, t2⟩ := TT.1 y hy
        refine t1 _ _ fun s₄ k₄ => ?_
        simp only [if_true]
        refine t2 s₄ k₄ _ _ fun yv s₅ k₅ ry => ?_
        have k35 := k₄.trans k₅
        obtain ⟨h₅, tk₅, e₅, kh₅⟩ := k35
        subst e₅
        have hD₅ := kh₅.isL hD₃
        have hvl : vs.length ≤ 1048576 := by
          have e1 := hvs.length
          have e2 := mapF_length hzs
          have e3 : (l.take j).length ≤ l.length := by rw [List.length_take]; omega
          omega
        have hsz' : (List.toArray vs).size ≤ sizeLine := by
          rw [List.size_toArray, show sizeLine = 16777216 from by decide]
          omega
        refine list_appendL hsz' hD₅ fun h₆ hl₆ hs₆ => ?_
        have kv56 : Kv (FrA A) (fun b => b = C ∨ b = D ∨ b = I) h₅ h₆ := Kv.of_sameBut hs₆ (.inr (.inl rfl))
        refine ⟨l.length + 1 - (j + 1), by omega, h₆, tk₅, (fun z => if z = x then some v else m' z), j + 1, zs ++ [y], vs ++ [yv], rfl, ?_, hlt, rfl, hl₆, hzs', ?_, ?_, ((kv13.trans kh₅.kv).trans kv56), ?_⟩
        · refine W.frame _ _ _ hst₃ fun b o hb e => ⟨fun hf => hs₆.extBut b _ (fpC b hb).2 ((kh₅ b o e).1 (.inr hf)), ?_⟩
          obtain ⟨sl, e'⟩ := (kh₅ b o e).2
          exact ⟨sl, hs₆.extBut b _ (fpC b hb).2 e'⟩
        · have kvis : ∀ a cc d, vis h₅ H₃ a cc d → vis h₆ H₃ a cc d := kv56.vis hW3
          have kvis2 : ∀ a cc d, vis h' H₃ a cc d → vis h₆ H₃ a cc d := fun a cc d z => kvis a cc d (kh₅.vis a cc d ((kv₂.trans kv₃).vis hW3 a cc d z))
          exact RepL.append (RepL.mono kvis2 hvs) (by simp only [RepL]; exact ⟨Rep.mono kvis ry, trivial⟩)
        · exact (kh₅.ns hn₃).sameBut hs₆ (Ne.symm hDC)
        · obtain ⟨sl, e'⟩ := (kh₅ I _ hoI₃).2
          exact ⟨_, hs₆.extBut I _ hID e'⟩
      · refine TT.2 hy _ _ fun s₄ k₄ => ?_
        simp only [Bool.false_eq_true, if_false]
        obtain ⟨h₄, tk₄, rfl, kh₄⟩ := k₄
        refine ⟨l.length + 1 - (j + 1), by omega, h₄, tk₄, (fun z => if z = x then some v else m' z), j + 1, zs, vs, rfl, ?_, hlt, rfl, kh₄.isL hD₃, hzs', ?_, kh₄.ns hn₃, kv13.trans kh₄.kv, ?_⟩
        · exact W.frame _ _ _ hst₃ fun b o hb e => ⟨fun hf => (kh₄ b o e).1 (.inr hf), (kh₄ b o e).2⟩
        · exact RepL.mono (fun a cc d z => kh₄.vis a cc d ((kv₂.trans kv₃).vis hW3 a cc d z)) hvs
        · obtain ⟨sl, e'⟩ := (kh₄ I _ hoI₃).2
          exact ⟨_, e'⟩
    · have hjl : j = l.length := by omega
      subst hjl
      refine W.done _ _ _ hst' fun h₂ tk₂ hk₂ => ?_
      have kv₂ : Kv (FrA A) (fun b => b = C ∨ b = D ∨ b = I) h' h₂ := Kv.of_but hk₂ (.inr (.inr rfl))
      rw [List.take_length, hf] at hzs
      cases hzs
      obtain ⟨oC, esC, epC, hoC, rC⟩ := hC'
      refine hR D C h₂ tk₂ m' vs hDn hCn hDC ⟨oC, esC, epC, hk₂ C oC (Ne.symm hIC) hoC, rC⟩ (hD'.at' fun o e => hk₂ D o (Ne.symm hID) e) ?_ ?_
      · rw [hH3]; exact RepL.mono (kv₂.vis hW3) hvs
      · intro b o nb e
        have e1 := old b o e
        have nC : ¬ (b = C ∨ b = D ∨ b = I) := by
          rintro (z | z | z)
          · rw [z, hCn] at e; cases e
          · rw [z, hDn] at e; cases e
          · exact nb z
        exact (hkv.trans kv₂) b o nC e1
  exact codeAny_compStart_list (loop _ rfl) (W.self 0 _ _ _ hst₁ (loop _ rfl))
end Mine
end
section
open PySem PySem.W PyProof.Rows
namespace Mine

def encC : AV → Const → Bool
  | .int i, .int j => i == j
  | .bool a, .bool b => a == b
  | .none, .none => true
  | .str s, .str t => s == t
  | _, _ => false

def BI.isTy : BI → Bool
  | .range | .list | .tuple | .type | .bytes | .set | .frozenset | .str | .int | .bool | .float | .zip | .enumerate | .dict => true
  | _ => false
theorem BI.boot_ty : ∀ {b : BI}, b.isTy = true → bootBuiltins (Str.ofString b.name) = some (.type b.name)
  | .range, _ => by decide +kernel
  | .list, _ => by decide +kernel
  | .tuple, _ => by decide +kernel
  | .type, _ => by decide +kernel
  | .bytes, _ => by decide +kernel
  | .set, _ => by decide +kernel
  | .frozenset, _ => by decide +kernel
  | .str, _ => by decide +kernel
  | .int, _ => by decide +kernel
  | .bool, _ => by decide +kernel
  | .float, _ => by decide +kernel
  | .zip, _ => by decide +kernel
  | .enumerate, _ => by decide +kernel
  | .dict, _ => by decide +kernel
def BI.val (b : BI) : Value := if b.isTy then .type b.name else .builtin b.name
theorem BI.boot : ∀ (b : BI), bootBuiltins (Str.ofString b.name) = some b.val
  | .range => by decide +kernel
  | .list => by decide +kernel
  | .tuple => by decide +kernel
  | .type => by decide +kernel
  | .bytes => by decide +kernel
  | .set => by decide +kernel
  | .frozenset => by decide +kernel
  | .str => by decide +kernel
  | .int => by decide +kernel
  | .bool => by decide +kernel
  | .float => by decide +kernel
  | .zip => by decide +kernel
  | .enumerate => by decide +kernel
  | .dict => by decide +kernel
  | .len => by decide +kernel
  | .sum => by decide +kernel
  | .abs => by decide +kernel
  | .min => by decide +kernel
  | .max => by decide +kernel
  | .isinstance => by decide +kernel
  | .chr => by decide +kernel
  | .sorted => by decide +kernel
  | .iter => by decide +kernel
  | .next => by decide +kernel
  | .hasattr => by decide +kernel

def isGlob (ks : List (Str × NameKind)) (x : Str) : Bool := ks.lookup x == some NameKind.globalImplicit && !(x == ("__debug__" : Str)) && !(x == ("__name__" : Str))

def relab (ks : List (Str × NameKind)) (names : List (Str × NameKind)) : List (Str × NameKind) :=
  names.map fun p => if (p.2 == NameKind.free && ks.lookup p.1 == some NameKind.cell) then (p.1, NameKind.cell) else (p.1, p.2)

def compOkB (ks : List (Str × NameKind)) (ns : List Str) (scope : Scope) (x : Str) (caps : List Nat) : Bool :=
  scope.names.all (fun y => !(y.2 == .cell)) && scope.kind == .function && scope.names.all (fun y => !(y.2 == .local) || scope.names.lookup y.1 == some .local) && scope.names.lookup x == some .local &&
  scope.names.all (fun y => !(y.2 == .free) || ks.lookup y.1 == some .cell) && caps.all (fun i => match ns[i]? with | some y => scope.names.lookup y == some .free | none => true)

section
variable (frees : List Str) (fname : Nat → Str)
mutual
def encE (ks : List (Str × NameKind)) (ns : List Str) : PE → Expr → Bool
  | .const v, ex => (match ex with | .Constant c _ _ => encC v c | _ => false)
  | .name i, ex => (match ex with | .Name x _ => ns[i]? == some x && !(x == ("__debug__" : Str)) | _ => false)
  | .glob b, ex => (match ex with | .Name x _ => b.isTy && x == Str.ofString b.name && isGlob ks x && frees.contains x | _ => false)
  | .bin op l r, ex => (match ex with | .BinOp l' op' r' _ => op == op' && encE ks ns l l' && encE ks ns r r' | _ => false)
  | .un op x, ex => (match ex with | .UnaryOp op' x' _ => op == op' && encE ks ns x x' | _ => false)
  | .cmp op l r, ex => (match ex with | .Compare l' [op'] [r'] _ => op == op' && encE ks ns l l' && encE ks ns r r' && !(behindInMarks op r') | _ => false)
  | .bop op xs, ex => (match ex with | .BoolOp op' xs' _ => op == op' && encEs ks ns xs xs' | _ => false)
  | .ife t a b, ex => (match ex with | .IfExp t' a' b' _ => encE ks ns t t' && encE ks ns a a' && encE ks ns b b' | _ => false)
  | .list xs, ex => (match ex with | .List es _ => encEs ks ns xs es | _ => false)
  | .tup xs, ex => (match ex with | .Tuple es _ _ => encEs ks ns xs es | _ => false)
  | .sub o i, ex => (match ex with | .Subscript o' i' _ => encE ks ns o o' && encE ks ns i i' | _ => false)
  | .slice o a b s, ex => (match ex with | .Subscript o' (.Slice a' b' s' _) _ => encE ks ns o o' && (match a' with | some e => encE ks ns a e | none => (match a with | .const .none => true | _ => false)) &&
      (match b' with | some e => encE ks ns b e | none => (match b with | .const .none => true | _ => false)) && (match s' with | some e => encE ks ns s e | none => (match s with | .const .none => true | _ => false)) | _ => false)
  | .call f xs, ex => (match ex with | .Call (.Name x _) es [] _ => x == fname f && isGlob ks x && encEs ks ns xs es | _ => false)
  | .bcall f xs, ex => (match ex with | .Call (.Name x _) es [] _ => x == Str.ofString f.name && isGlob ks x && frees.contains x && encEs ks ns xs es | _ => false)
  | .meth _ _ _, _ => false
  | .comp caps elt src conds, ex => (match ex with
    | .ListComp e' [⟨.Name x _, it, ifs, 0⟩] scope _ => encE ks ns src it && compOkB ks ns scope x caps && encE (relab ks scope.names) (ns ++ [x]) elt e' && encEs (relab ks scope.names) (ns ++ [x]) conds ifs
    | _ => false)
def encEs (ks : List (Str × NameKind)) (ns : List Str) : PEs → List Expr → Bool
  | .nil, es => (match es with | [] => true | _ => false)
  | .cons p ps, es => (match es with | e :: r => encE ks ns p e && encEs ks ns ps r | _ => false)
end
end

theorem compOk_of {ks : List (Str × NameKind)} {ns : List Str} {scope : Scope} {x : Str} {caps : List Nat} {env : Env} (hks : env.scope.names = ks) (h : compOkB ks ns scope x caps = true) : CompOk ns env scope x caps := by
  simp only [compOkB, Bool.and_eq_true, List.all_eq_true, Bool.not_eq_true', beq_eq_false_iff_ne, beq_iff_eq, Bool.or_eq_true] at h
  obtain ⟨⟨⟨⟨⟨h1, h2⟩, h3⟩, h4⟩, h5⟩, h6⟩ := h
  refine ⟨h1, h2, fun y hy e => (h3 y hy).resolve_left fun n => n e, h4, fun y hy => ?_, fun i hi y hy => ?_⟩
  · have := (h5 _ hy).resolve_left fun n => n rfl
    show env.scope.names.lookup y = some .cell
    rw [hks]; exact this
  · have := h6 i hi
    rw [hy] at this
    exact beq_iff_eq.mp this

theorem relab_eq {ks : List (Str × NameKind)} {scope : Scope} {env : Env} (hks : env.scope.names = ks) (hk : env.scope.kind = .function) : (relabel scope env).names = relab ks scope.names := by
  unfold relabel relab
  simp only [hk]
  refine List.map_congr_left fun p _ => ?_
  obtain ⟨n, k⟩ := p
  have : env.kindOf n = ks.lookup n := by rw [← hks]; rfl
  simp [this]

end Mine
end
section
open PySem PySem.W PyProof.Rows
namespace Mine

/-- an expression comes to what is told of it -/
structure PrOk (c : Cx) (q : Bool) (A : Around) (H : Addr → Prop) (ex : Expr) (env : Env) (p : PR) (s : Shared) : Prop where
  v : Tr c q A H (eval ex env) p.v s
  o : TrO c q A H (eval ex env) p.o s
  t : ∀ b, p.t = some b → TrB c A (isTrue ex env (eval ex env)) b s

theorem Tr.stuck {c : Cx} {q : Bool} {A : Around} {H : Addr → Prop} {t : Sem Value} {s : Shared} : Tr c q A H t .stuck s := fun _ _ P => P.elim
theorem TrO.stuck {c : Cx} {q : Bool} {A : Around} {H : Addr → Prop} {t : Sem Value} {s : Shared} : TrO c q A H t .stuck s := fun _ _ P => P.elim

def EsOk (c : Cx) (q : Bool) (A : Around) (H : Addr → Prop) (env : Env) : List Expr → List PR → Shared → Prop
  | [], [], _ => True
  | e :: es, p :: ps, s => (∀ x z, e ≠ .Starred x z) ∧ (∀ s', Kp A s s' → PrOk c q A H e env p s') ∧ EsOk c q A H env es ps s
  | _, _, _ => False
theorem EsOk.kp {c : Cx} {q : Bool} {A : Around} {H : Addr → Prop} {env : Env} : ∀ {es : List Expr} {ps : List PR} {s s' : Shared}, EsOk c q A H env es ps s → Kp A s s' → EsOk c q A H env es ps s'
  | [], [], _, _, _, _ => trivial
  | [], _ :: _, _, _, h, _ => h.elim
  | _ :: _, [], _, _, h, _ => h.elim
  | _ :: _, _ :: _, _, _, ⟨a, b, r⟩, k => ⟨a, fun s'' k' => b s'' (k.trans k'), r.kp k⟩

section
variable {c : Cx} {q : Bool} {k : Nat} {A : Around} {H : Addr → Prop} {env : Env}

theorem starEach_cons {e : Expr} {es : List Expr} (h : ∀ x z, e ≠ .Starred x z) : starEach (e :: es) env = (false, eval e env) :: starEach es env := by
  cases e <;> first | rfl | exact absurd rfl (h _ _)

theorem es_spliced {pos : Pos} : ∀ {es : List Expr} {ps : List PR} {s : Shared} {xs : List AV}, EsOk c q A H env es ps s → seqV ps = some xs → TrL c A H (spliced (backTo pos (starEach es env))) xs s
  | [], [], s, xs, _, hx => fun Q E P => by
    simp only [seqV, Option.some.injEq] at hx
    subst hx
    exact Calls.spliced_nil (P _ _ (Kp.refl _ _) (by simp [RepL]))
  | [], _ :: _, _, _, h, _ => h.elim
  | _ :: _, [], _, _, h, _ => h.elim
  | e :: es, p :: ps, s, xs, ⟨ns, a, r⟩, hx => fun Q E P => by
    obtain ⟨pv, po, pt⟩ := p
    cases pv with
    | ok v =>
      simp only [seqV, Option.map_eq_some_iff] at hx
      obtain ⟨xs', hx', rfl⟩ := hx
      rw [starEach_cons ns]
      show wpAny c.M A (spliced ((false, eval e env) :: backTo pos (starEach es env))) Q E s
      refine Calls.spliced_cons ((a s (Kp.refl _ _)).v _ _ fun w s₁ k₁ r₁ => ?_)
      refine es_spliced (r.kp k₁) hx' _ _ fun ws s₂ k₂ r₂ => P _ _ (k₁.trans k₂) ?_
      simp only [RepL]
      exact ⟨r₁.kp k₂, r₂⟩
    | exc _ => simp [seqV] at hx
    | stuck => simp [seqV] at hx

theorem es_splicedO {pos : Pos} : ∀ {es : List Expr} {ps : List PR} {s : Shared} {xs : List AV}, EsOk c q A H env es ps s → seqO ps = some xs → ∀ (Q : List Value → Shared → Prop) (E : Value → Shared → Prop),
    (∀ vs s', Kp A s s' → RepOL s'.heap H vs xs → Q vs s') → wpAny c.M A (spliced (backTo pos (starEach es env))) Q E s
  | [], [], s, xs, _, hx => fun Q E P => by
    simp only [seqO, Option.some.injEq] at hx
    subst hx
    exact Calls.spliced_nil (P _ _ (Kp.refl _ _) trivial)
  | [], _ :: _, _, _, h, _ => h.elim
  | _ :: _, [], _, _, h, _ => h.elim
  | e :: es, p :: ps, s, xs, ⟨ns, a, r⟩, hx => fun Q E P => by
    obtain ⟨pv, po, pt⟩ := p
    cases po with
    | ok v =>
      simp only [seqO, Option.map_eq_some_iff] at hx
      obtain ⟨xs', hx', rfl⟩ := hx
      rw [starEach_cons ns]
      show wpAny c.M A (spliced ((false, eval e env) :: backTo pos (starEach es env))) Q E s
      refine Calls.spliced_cons ((a s (Kp.refl _ _)).o _ _ fun w s₁ k₁ r₁ => ?_)
      refine es_splicedO (r.kp k₁) hx' _ _ fun ws s₂ k₂ r₂ => P _ _ (k₁.trans k₂) ?_
      exact ⟨r₁.kp k₂, r₂⟩
    | exc _ => simp [seqO] at hx
    | stuck => simp [seqO] at hx

theorem es_allTrue {op : BoolOp} : ∀ {es : List Expr} {ps : List PR} {s : Shared} {b : Bool}, EsOk c q A H env es ps s → allT op ps = some b → TrB c A (allTrue op es env) b s
  | [], [], s, b, _, hx => fun Q E P => by
    simp only [allT, Option.some.injEq] at hx
    subst hx
    exact wpAny_pure (P _ (Kp.refl _ _))
  | [], _ :: _, _, _, h, _ => h.elim
  | _ :: _, [], _, _, h, _ => h.elim
  | e :: es, p :: ps, s, b, ⟨_, a, r⟩, hx => fun Q E P => by
    obtain ⟨pv, po, pt⟩ := p
    cases op with
    | And =>
      refine wpAny_allTrue_And_cons ?_
      cases pt with
      | none => simp [allT] at hx
      | some t =>
        refine (a s (Kp.refl _ _)).t t rfl _ _ fun s₁ k₁ => ?_
        cases t with
        | false => simp only [allT, Option.some.injEq] at hx; subst hx; exact P _ k₁
        | true => simp only [allT] at hx; exact es_allTrue (r.kp k₁) hx _ _ fun s₂ k₂ => P _ (k₁.trans k₂)
    | Or =>
      refine wpAny_allTrue_Or_cons ?_
      cases pt with
      | none => simp [allT] at hx
      | some t =>
        refine (a s (Kp.refl _ _)).t t rfl _ _ fun s₁ k₁ => ?_
        cases t with
        | true => simp only [allT, Option.some.injEq] at hx; subst hx; exact P _ k₁
        | false => simp only [allT] at hx; exact es_allTrue (r.kp k₁) hx _ _ fun s₂ k₂ => P _ (k₁.trans k₂)

theorem es_tests : ∀ {es : List Expr} {ps : List PR} {s : Shared} {b : Bool}, EsOk c q A H env es ps s → allT .And ps = some b → TrB c A (testsOf es env) b s
  | [], [], s, b, _, hx => fun Q E P => by
    simp only [allT, Option.some.injEq] at hx
    subst hx
    unfold testsOf
    rw [List.forIn_nil]
    exact wpAny_pure (P _ (Kp.refl _ _))
  | [], _ :: _, _, _, h, _ => h.elim
  | _ :: _, [], _, _, h, _ => h.elim
  | e :: es, p :: ps, s, b, ⟨_, a, r⟩, hx => fun Q E P => by
    obtain ⟨pv, po, pt⟩ := p
    unfold testsOf
    rw [List.forIn_cons]
    simp only [if_true]
    cases pt with
    | none => simp [allT] at hx
    | some t =>
      refine wpAny_bind (wpAny_bind ((a s (Kp.refl _ _)).t t rfl _ _ fun s₁ k₁ => ?_))
      refine wpAny_pure ?_
      cases t with
      | false =>
        simp only [allT, Option.some.injEq] at hx
        subst hx
        have skip : ∀ (l : List Expr), (forIn l false fun c r => if r = true then do let ok ← isTrue c env (eval c env); pure (ForInStep.yield ok) else pure (ForInStep.yield r) : Sem Bool) = pure false := by
          intro l
          induction l with
          | nil => rw [List.forIn_nil]
          | cons y l ih => rw [List.forIn_cons]; simpa using ih
        show wpAny c.M A (forIn es false _) _ _ _
        rw [skip]
        exact wpAny_pure (P _ k₁)
      | true =>
        simp only [allT] at hx
        exact es_tests (r.kp k₁) hx _ _ fun s₂ k₂ => P _ (k₁.trans k₂)
end

section
variable {c : Cx} {O : OpsF} (OK : OpsOk c O) {q : Bool} {k : Nat} {A : Around} {H : Addr → Prop} {env : Env}
include OK

theorem es_boolOp {pos : Pos} {op : BoolOp} {ns : List Str} {ρ : List (Option Ent)} {fe : FE} : ∀ {es : List Expr} {ps : List PR} {s : Shared}, Rm c q (k + 1) A s.heap → Fm c (FrA A) ns env ρ fe H s.heap → EsOk c q A H env es ps s →
    Tr c q A H (boolOp pos op (evalEach es env)) (bopV O.truth op ps) s
  | [], [], _, _, _, _ => Tr.stuck
  | [], _ :: _, _, _, _, h => h.elim
  | _ :: _, [], _, _, _, h => h.elim
  | [e], [p], s, _, _, ⟨_, a, _⟩ => (a s (Kp.refl _ _)).v
  | [_], _ :: _ :: _, _, _, _, h => h.2.2.elim
  | _ :: _ :: _, [_], _, _, _, h => h.2.2.elim
  | e :: e' :: es, p :: p' :: ps, s, hm, F, ⟨_, a, r⟩ => fun Q E P => by
    show wpAny c.M A (do
      let v ← eval e env
      standAt pos
      let t ← holding [v] (truthy v)
      match op, t with
      | .And, false | .Or, true => pure v
      | _, _ => boolOp pos op (evalEach (e' :: es) env)) Q E s
    obtain ⟨pv, po, pt⟩ := p
    cases pv with
    | exc _ => exact P.elim
    | stuck => exact P.elim
    | ok v =>
      simp only [bopV] at P
      refine wpAny_bind ((a s (Kp.refl _ _)).v _ _ fun w s₁ k₁ r₁ => wpAny_bind (wpAny_standAt (wpAny_bind (wpAny_holding ?_))))
      cases ht : O.truth v with
      | none => rw [ht] at P; cases op <;> exact P.elim
      | some b =>
        rw [ht] at P
        refine OK.truth (hm.kp k₁) (Live.kp F.hlt k₁) (.of r₁) ht _ _ fun s₂ k₂ => ?_
        have P' := P.kp (k₁.trans k₂)
        cases op <;> cases b
        · exact wpAny_pure (P _ _ (k₁.trans k₂) (r₁.kp k₂))
        · exact es_boolOp (hm.kp (k₁.trans k₂)) (F.kp (k₁.trans k₂)) (r.kp (k₁.trans k₂)) _ _ P'
        · exact es_boolOp (hm.kp (k₁.trans k₂)) (F.kp (k₁.trans k₂)) (r.kp (k₁.trans k₂)) _ _ P'
        · exact wpAny_pure (P _ _ (k₁.trans k₂) (r₁.kp k₂))

theorem isT_value {s : Shared} {ns : List Str} {ρ : List (Option Ent)} {fe : FE} {ex : Expr} {r : Res} {b : Bool} (hm : Rm c q (k + 1) A s.heap) (F : Fm c (FrA A) ns env ρ fe H s.heap) (X : TrO c q A H (eval ex env) r s) (ht : r.truth O.truth = some b)
    (he : isTrue ex env (eval ex env) = (do let v ← eval ex env; standAt ex.pos; holding [v] (truthy v))) : TrB c A (isTrue ex env (eval ex env)) b s := fun Q E P => by
  cases r with
  | exc _ => cases ht
  | stuck => cases ht
  | ok v =>
    refine wpAny_isTrue_value (X _ _ fun w s₁ k₁ r₁ => ?_) he
    exact OK.truth (hm.kp k₁) (Live.kp F.hlt k₁) r₁ ht _ _ fun s₂ k₂ => P _ (k₁.trans k₂)

theorem prOk_of {s : Shared} {ns : List Str} {ρ : List (Option Ent)} {fe : FE} {ex : Expr} {r : Res} (hm : Rm c q (k + 1) A s.heap) (F : Fm c (FrA A) ns env ρ fe H s.heap) (X : Tr c q A H (eval ex env) r s)
    (he : isTrue ex env (eval ex env) = (do let v ← eval ex env; standAt ex.pos; holding [v] (truthy v))) : PrOk c q A H ex env (.of O.truth r) s :=
  ⟨X, X.toO, fun _ hb => isT_value OK hm F X.toO hb he⟩
end
end Mine
end
section
open PySem PySem.W PyProof.Rows
namespace Mine

theorem rep_fresh_list {H : Addr → Prop} {s : Shared} {vs : List Value} {xs : List AV} (hL : Live H s.heap) (hz : xs.length ≤ 1048576) (r : RepL (vis s.heap H) vs xs) :
    Rep (vis (s.heap.push { cls := .type "list", data := .seq vs.toArray }) H) (.ref s.heap.objs.size) (.lst xs) := by
  simp only [Rep]
  exact ⟨hz, _, vs, _, rfl, ⟨hL.fresh, _, Heap.get?_push_size _ rfl, rfl, rfl, rfl, .inl rfl, fun _ => rfl⟩, RepL.mono (Kh.of_keeps (F := fun _ => False) fun b o e => Heap.get?_push_of_some _ e).vis r⟩
theorem rep_fresh_tup {H : Addr → Prop} {s : Shared} {vs : List Value} {xs : List AV} (hL : Live H s.heap) (hz : xs.length ≤ 1048576) (r : RepL (vis s.heap H) vs xs) :
    Rep (vis (s.heap.push { cls := .type "tuple", data := .seq vs.toArray }) H) (.ref s.heap.objs.size) (.tup xs) := by
  simp only [Rep]
  exact ⟨hz, _, vs, _, rfl, ⟨hL.fresh, _, Heap.get?_push_size _ rfl, rfl, rfl, rfl, .inr (.inl rfl), fun _ => rfl⟩, RepL.mono (Kh.of_keeps (F := fun _ => False) fun b o e => Heap.get?_push_of_some _ e).vis r⟩
theorem Kp.push {A : Around} {s : Shared} (o : Obj) : Kp A s { s with heap := s.heap.push o } := ⟨_, _, rfl, Kh.of_keeps fun _ _ e => Heap.get?_push_of_some _ e⟩
theorem line_ok {n : Nat} (h : n ≤ 1048576) : n ≤ sizeLine := by rw [show sizeLine = 16777216 from by decide]; omega

section
variable {c : Cx} {O : OpsF} (OK : OpsOk c O) {q : Bool} {k : Nat} {A : Around} {H : Addr → Prop} {env : Env} {ns : List Str} {ρ : List (Option Ent)} {fe : FE} {s : Shared}

theorem Fm.base' {h : Heap} (F : Fm c (FrA A) ns env ρ fe H h) : c.h0.StaysIn h := fun b o e => ((F.keep b o (F.base b o e)).1 (.inl fun f => by rw [F.baseF b f] at e; cases e))
theorem stays_ns {a b : Heap} (k : a.StaysIn b) {d : Addr} {m : Str → Option Value} (n : a.Ns d m) : b.Ns d m := let ⟨o, es, ep, e, r⟩ := n; ⟨o, es, ep, k _ _ e, r⟩

theorem ld_glob {x : Str} {pos : Pos} {v : Value} {Q E : Value → Shared → Prop} (F : Fm c (FrA A) ns env ρ fe H s.heap) (hk : env.kindOf x = some .globalImplicit) (hd : (x == ("__debug__" : Str)) = false) (hv : c.mg x = some v) (h : Q v s) :
    wpAny c.M A (eval (.Name x pos) env) Q E s :=
  Calls.Name_function_global F.kind hk (Calls.loadGlobal_global (by rw [F.glob]; exact stays_ns F.base' c.g) hv h) hd
theorem ld_boot {x : Str} {pos : Pos} {v : Value} {Q E : Value → Shared → Prop} (F : Fm c (FrA A) ns env ρ fe H s.heap) (hk : env.kindOf x = some .globalImplicit) (hd : (x == ("__debug__" : Str)) = false) (hn : x ≠ "__name__") (hf : c.mg x = none) (hv : bootBuiltins x = some v) (h : Q v s) :
    wpAny c.M A (eval (.Name x pos) env) Q E s :=
  Calls.Name_function_global F.kind hk (Calls.loadGlobal_builtin (by rw [F.glob]; exact stays_ns F.base' c.g) hf (by rw [F.bi]; exact stays_ns F.base' c.b) ((c.builtins x hn).trans hv) h) hd

include OK
theorem tr_listcomp {elt iter : Expr} {x : Str} {px pos : Pos} {ifs : List Expr} {scope : Scope} {caps : List Nat} {a : AV} {l ys : List AV} {f : AV → Option (Option AV)} (hq : q = true) (hm : Rm c q (k + 1) A s.heap) (F : Fm c (FrA A) ns env ρ fe H s.heap) (hlen : ρ.length = ns.length)
    (K : CompOk ns env scope x caps) (hs : ∀ x, foldedSetIterable iter env x = pure x) (X : TrO c q A H (eval iter env) (.ok a) s) (hit : O.items a = some l) (hf : mapF f l = some ys) (T : TurnOk c q (k + 1) A ns env ρ fe scope x caps elt ifs f) :
    Tr c q A H (eval (.ListComp elt [⟨.Name x px, iter, ifs, 0⟩] scope pos) env) (.ok (.lst ys)) s := fun Q E P => by
  obtain ⟨cl, hclos, hcl1, hcl2⟩ := closureFor_ok (env := env) (scope := scope) fun y hy => by
    obtain ⟨cc, _, e, _⟩ := F.cl y (K.free y hy)
    rw [e]; rfl
  rw [eval_ListComp]
  refine wpAny_comprehension_free (use := none) rfl hs hclos K.kind K.loc (X _ _ fun xv s₁ k₁ r₁ => ?_)
  have F₁ := F.kp k₁
  refine OK.items (hm.kp k₁) hq F₁.hlt r₁ hit _ _ fun I fp PP St h' tk hk hI hfI hl _ hsz W hst hP => ?_
  refine comp_core (RR := fun acc C => compPost c.M A E none Q acc C) (s₁ := s₁) (hm.kp k₁) F₁ hlen K hcl1 hcl2 ⟨_, _, rfl⟩ hk hI hl hfI W hst hsz hP hf T ?_
  intro D C h'' tk' m' vs hD hC hDC hn hl hr hkv
  refine ⟨m', hn, fun h₃ hs₃ => P _ _ ?_ ?_⟩
  · refine k₁.trans ⟨h₃, tk', rfl, ?_⟩
    have k1 : Kh (FrA A) s₁.heap h'' := (Kh.of_keeps hk).trans' hkv fun b o e z => by rw [z, hI] at e; cases e
    refine k1.trans' (Kv.of_sameBut (W := fun b => b = C) hs₃ rfl) fun b o e z => ?_
    have := hk b o e
    rw [z, hC] at this; cases this
  · simp only [Rep]
    have hl₃ : IsL h₃ D vs := hl.at' fun o e => hs₃.extBut D o hDC e
    obtain ⟨o, n, e, c1, d1, f1⟩ := hl₃
    refine ⟨Nat.le_trans (mapF_length hf) hsz, D, vs, n, rfl, ⟨fun z => ?_, o, e, c1, d1, f1, .inl rfl, fun ⟨_, z⟩ => by cases z⟩, ?_⟩
    · obtain ⟨o', e'⟩ := F₁.hlt D z
      have := hk D o' e'
      rw [hD] at this; cases this
    · have r2 := RepL.mono ((Kv.of_sameBut (F := FrA A) (W := fun b => b = C) hs₃ rfl).vis (H := fun b => H b ∨ b = C ∨ b = D ∨ b = I) fun b z => .inr (.inl z)) hr
      exact RepL.mono (vis_hide fun b z => .inl z) r2
end
end Mine
end
section
open PySem PySem.W PyProof.Rows
namespace Mine

theorem encE_notStar {frees : List Str} {fname : Nat → Str} {ks : List (Str × NameKind)} {ns : List Str} {p : PE} {ex : Expr} (h : encE frees fname ks ns p ex = true) : ∀ x z, ex ≠ .Starred x z := by
  rintro x z rfl
  cases p <;> simp [encE] at h
theorem encE_notSet {frees : List Str} {fname : Nat → Str} {ks : List (Str × NameKind)} {ns : List Str} {p : PE} {ex : Expr} (h : encE frees fname ks ns p ex = true) (env : Env) : ∀ x, foldedSetIterable ex env x = pure x := by
  intro x
  cases ex <;> first | rfl | (cases p <;> simp [encE] at h)
theorem encE_notSlice {frees : List Str} {fname : Nat → Str} {ks : List (Str × NameKind)} {ns : List Str} {p : PE} {ex : Expr} (h : encE frees fname ks ns p ex = true) : ∀ a b z w, ex ≠ .Slice a b z w := by
  rintro a b z w rfl
  cases p <;> simp [encE] at h
theorem subscripted_plain {ex : Expr} (h : ∀ a b z w, ex ≠ .Slice a b z w) (o i : Value) : subscripted ex false o i = operate [o, i] (getItem o i) := by
  cases ex <;> first | rfl | exact absurd rfl (h _ _ _ _)
theorem isGlob_of {ks : List (Str × NameKind)} {x : Str} {env : Env} (hks : env.scope.names = ks) (h : isGlob ks x = true) : env.kindOf x = some .globalImplicit ∧ (x == ("__debug__" : Str)) = false ∧ x ≠ "__name__" := by
  simp only [isGlob, Bool.and_eq_true, Bool.not_eq_true', beq_iff_eq] at h
  refine ⟨?_, h.1.2, by simpa using h.2⟩
  show env.scope.names.lookup x = _
  rw [hks]; exact h.1.1

theorem Rm.down {c : Cx} {q : Bool} {k : Nat} {A : Around} {h : Heap} (X : Rm c q (k + 1) A h) : Rm c q k A h := ⟨by have := X.depth; omega, by have := X.units; omega, X.hand, X.frames⟩
theorem pes_nil {frees : List Str} {fname : Nat → Str} {ks : List (Str × NameKind)} {ns : List Str} {ps : PEs} (h : encEs frees fname ks ns ps [] = true) : ps = .nil := by
  cases ps with
  | nil => rfl
  | cons _ _ => simp [encEs] at h
theorem encEs_head {frees : List Str} {fname : Nat → Str} {ks : List (Str × NameKind)} {ns : List Str} {ps : PEs} {e : Expr} {es : List Expr} (h : encEs frees fname ks ns ps (e :: es) = true) : ∀ x z, e ≠ .Starred x z := by
  cases ps with
  | nil => simp [encEs] at h
  | cons p ps => simp only [encEs, Bool.and_eq_true] at h; exact encE_notStar h.1
theorem star_plain {frees : List Str} {fname : Nat → Str} {ks : List (Str × NameKind)} {ns : List Str} {pos : Pos} {env : Env} : ∀ {ps : PEs} {es : List Expr}, encEs frees fname ks ns ps es = true → (backTo pos (starEach es env)).any (·.1) = false
  | _, [], _ => rfl
  | .nil, _ :: _, h => by simp [encEs] at h
  | .cons p ps, e :: es, h => by
    have h' := h
    simp only [encEs, Bool.and_eq_true] at h
    rw [starEach_cons (encEs_head h')]
    show (false || (backTo pos (starEach es env)).any (·.1)) = false
    rw [star_plain h.2]; rfl

section
variable {c : Cx} {O : OpsF} (OK : OpsOk c O) {k : Nat} {cal : Nat → List AV → Res} {fname : Nat → Str} (CO : CallsOk c k cal fname) {frees : List Str} (hfree : ∀ x ∈ frees, c.mg x = none)
include OK CO hfree

mutual
theorem pe_sound : ∀ (e : PE) {q : Bool} {ks : List (Str × NameKind)} {ns : List Str} {ρ : List (Option Ent)} {ex : Expr} {env : Env} {A : Around} {s : Shared} {fe : FE} {H : Addr → Prop},
    encE frees fname ks ns e ex = true → env.scope.names = ks → Rm c q (k + 1) A s.heap → Fm c (FrA A) ns env ρ fe H s.heap → ρ.length = ns.length → PrOk c q A H ex env (pe O cal q ρ e) s
  | .const v, q, ks, ns, ρ, ex, env, A, s, fe, H, he, hks, hm, F, hlen => by
    simp only [encE] at he
    split at he
    case h_2 => cases he
    rename_i c' kk pos
    simp only [pe]
    refine prOk_of OK hm F ?_ rfl
    cases v <;> cases c' <;> simp [encC] at he
    · exact tr_const_none
    · subst he; exact tr_const_bool
    · subst he; exact tr_const_int
    · subst he; exact tr_const_str
  | .name i, q, ks, ns, ρ, ex, env, A, s, fe, H, he, hks, hm, F, hlen => by
    simp only [encE] at he
    split at he
    case h_2 => cases he
    rename_i x pos
    simp only [Bool.and_eq_true, beq_iff_eq, Bool.not_eq_true'] at he
    simp only [pe]
    split
    · rename_i v hv
      exact prOk_of OK hm F (tr_name F he.1 hv he.2) rfl
    · rename_i xs hv
      have X := tr_name_own (q := q) (pos := pos) F he.1 hv he.2
      exact ⟨Tr.stuck, X, fun b hb => isT_value OK hm F (r := .ok (.lst xs)) X hb rfl⟩
    · exact prOk_of OK hm F Tr.stuck rfl
  | .glob b, q, ks, ns, ρ, ex, env, A, s, fe, H, he, hks, hm, F, hlen => by
    simp only [encE] at he
    split at he
    case h_2 => cases he
    rename_i x pos
    simp only [Bool.and_eq_true, beq_iff_eq, List.contains_iff_mem] at he
    obtain ⟨⟨⟨h1, h2⟩, h3⟩, h4⟩ := he
    obtain ⟨g1, g2, g3⟩ := isGlob_of hks h3
    simp only [pe]
    refine prOk_of OK hm F ?_ rfl
    exact fun Q E P => ld_boot F g1 g2 g3 (hfree x h4) (by rw [h2]; exact BI.boot_ty h1) (P _ _ (Kp.refl _ _) (by simp [Rep]))
  | .bin op l r, q, ks, ns, ρ, ex, env, A, s, fe, H, he, hks, hm, F, hlen => by
    simp only [encE] at he
    split at he
    case h_2 => cases he
    rename_i l' op' r' pos
    simp only [Bool.and_eq_true, beq_iff_eq] at he
    obtain ⟨⟨rfl, h1⟩, h2⟩ := he
    simp only [pe]
    refine prOk_of OK hm F ?_ rfl
    have X := (pe_sound l h1 hks hm F hlen).o
    cases hl : (pe O cal q ρ l).o with
    | exc _ => exact Tr.stuck
    | stuck => exact Tr.stuck
    | ok a =>
      rw [hl] at X
      cases hr : (pe O cal q ρ r).o with
      | exc _ => exact Tr.stuck
      | stuck => exact Tr.stuck
      | ok b =>
        exact fun Q E P => wpAny_BinOp (X _ _ fun va s₁ k₁ r₁ => by
          have Y := (pe_sound r h2 hks (hm.kp k₁) (F.kp k₁) hlen).o
          rw [hr] at Y
          exact Y _ _ fun vb s₂ k₂ r₂ => OK.bin (hm.kp (k₁.trans k₂)) (F.kp (k₁.trans k₂)).hlt (r₁.kp k₂) r₂ _ _ (P.kp (k₁.trans k₂)))
  | .un op x, q, ks, ns, ρ, ex, env, A, s, fe, H, he, hks, hm, F, hlen => by
    simp only [encE] at he
    split at he
    case h_2 => cases he
    rename_i op' x' pos
    simp only [Bool.and_eq_true, beq_iff_eq] at he
    obtain ⟨rfl, h1⟩ := he
    simp only [pe]
    have I := pe_sound x h1 hks hm F hlen
    have X := I.o
    have T : Tr c q A H (eval (.UnaryOp op x' pos) env) ((pe O cal q ρ x).o.bind fun a => O.un op a) s := by
      cases hl : (pe O cal q ρ x).o with
      | exc _ => exact Tr.stuck
      | stuck => exact Tr.stuck
      | ok a =>
        rw [hl] at X
        exact fun Q E P => wpAny_UnaryOp (X _ _ fun va s₁ k₁ r₁ => OK.un (hm.kp k₁) (F.kp k₁).hlt r₁ _ _ (P.kp k₁))
    refine ⟨T, T.toO, fun b hb => ?_⟩
    cases op with
    | Not =>
      simp only [Option.map_eq_some_iff] at hb
      obtain ⟨b', hb', rfl⟩ := hb
      exact fun Q E P => wpAny_isTrue_Not (I.t b' hb' _ _ P)
    | Invert => exact isT_value OK hm F T.toO hb rfl
    | UAdd => exact isT_value OK hm F T.toO hb rfl
    | USub => exact isT_value OK hm F T.toO hb rfl
  | .cmp op l r, q, ks, ns, ρ, ex, env, A, s, fe, H, he, hks, hm, F, hlen => by
    simp only [encE] at he
    split at he
    case h_2 => cases he
    rename_i l' op' r' pos
    all_goals
      simp only [Bool.and_eq_true, beq_iff_eq, Bool.not_eq_true'] at he
      obtain ⟨⟨⟨rfl, h1⟩, h2⟩, h3⟩ := he
      simp only [pe]
      have X := (pe_sound l h1 hks hm F hlen).o
      cases hl : (pe O cal q ρ l).o with
      | exc _ => exact ⟨Tr.stuck, TrO.stuck, fun b hb => by cases hb⟩
      | stuck => exact ⟨Tr.stuck, TrO.stuck, fun b hb => by cases hb⟩
      | ok a =>
        rw [hl] at X
        cases hr : (pe O cal q ρ r).o with
        | exc _ => exact ⟨Tr.stuck, TrO.stuck, fun b hb => by cases hb⟩
        | stuck => exact ⟨Tr.stuck, TrO.stuck, fun b hb => by cases hb⟩
        | ok b =>
          simp only [Res.bind]
          cases hc : O.cmp op a b with
          | none => exact ⟨Tr.stuck, TrO.stuck, fun b hb => by cases hb⟩
          | some t =>
            have core : ∀ (Q : Value → Shared → Prop) (E : Value → Shared → Prop), (∀ s', Kp A s s' → Q (.bool t) s') → wpAny c.M A (eval l' env) (fun va s₁ => wpAny c.M A (eval r' env) (fun vb s₂ => wpAny c.M A (compareOp op va vb) Q E s₂) E s₁) E s := fun Q E P => X _ _ fun va s₁ k₁ r₁ => by
              have Y := (pe_sound r h2 hks (hm.kp k₁) (F.kp k₁) hlen).o
              rw [hr] at Y
              exact Y _ _ fun vb s₂ k₂ r₂ => OK.cmp (hm.kp (k₁.trans k₂)) (F.kp (k₁.trans k₂)).hlt (r₁.kp k₂) r₂ hc _ _ fun v s₃ k₃ r₃ => by
                simp only [Rep] at r₃
                subst r₃
                exact P _ ((k₁.trans k₂).trans k₃)
            have T : Tr c q A H (eval (.Compare l' [op] [r'] pos) env) (.ok (.bool t)) s := fun Q E P => wpAny_Compare1 (core _ _ fun s' k' => P _ _ k' (by simp [Rep])) h3
            refine ⟨T, T.toO, fun b hb => ?_⟩
            have hb : O.truth (.bool t) = some b := hb
            exact fun Q E P => wpAny_isTrue_Compare1 (core (fun cv s₃ => wpAny c.M A (truthy cv) Q E s₃) E fun s' k' => OK.truth (hm.kp k') (F.kp k').hlt (a := .bool t) (by simp [RepO, Rep]) hb _ _ fun s'' k'' => P _ (k'.trans k'')) h3
  | .bop op xs, q, ks, ns, ρ, ex, env, A, s, fe, H, he, hks, hm, F, hlen => by
    simp only [encE] at he
    split at he
    case h_2 => cases he
    rename_i op' xs' pos
    simp only [Bool.and_eq_true, beq_iff_eq] at he
    obtain ⟨rfl, h1⟩ := he
    simp only [pe]
    have I := pes_sound xs h1 hks hm F hlen
    have T : Tr c q A H (eval (.BoolOp op xs' pos) env) (bopV O.truth op (pes O cal q ρ xs)) s := fun Q E P => es_boolOp OK hm F I Q E P
    exact ⟨T, T.toO, fun b hb Q E P => wpAny_isTrue_BoolOp (es_allTrue I hb _ _ P)⟩
  | .ife t a b, q, ks, ns, ρ, ex, env, A, s, fe, H, he, hks, hm, F, hlen => by
    simp only [encE] at he
    split at he
    case h_2 => cases he
    rename_i t' a' b' pos
    simp only [Bool.and_eq_true] at he
    obtain ⟨⟨h1, h2⟩, h3⟩ := he
    simp only [pe]
    have I := pe_sound t h1 hks hm F hlen
    split
    · rename_i ht
      have T : Tr c q A H (eval (.IfExp t' a' b' pos) env) (pe O cal q ρ a).v s := fun Q E P => wpAny_IfExp (I.t _ ht _ _ fun s₁ k₁ => (pe_sound a h2 hks (hm.kp k₁) (F.kp k₁) hlen).v _ _ (P.kp k₁))
      exact ⟨T, T.toO, fun z hz Q E P => isTrue_IfExp (I.t _ ht _ _ fun s₁ k₁ => (pe_sound a h2 hks (hm.kp k₁) (F.kp k₁) hlen).t z hz _ _ fun s₂ k₂ => P _ (k₁.trans k₂))⟩
    · rename_i ht
      have T : Tr c q A H (eval (.IfExp t' a' b' pos) env) (pe O cal q ρ b).v s := fun Q E P => wpAny_IfExp (I.t _ ht _ _ fun s₁ k₁ => (pe_sound b h3 hks (hm.kp k₁) (F.kp k₁) hlen).v _ _ (P.kp k₁))
      exact ⟨T, T.toO, fun z hz Q E P => isTrue_IfExp (I.t _ ht _ _ fun s₁ k₁ => (pe_sound b h3 hks (hm.kp k₁) (F.kp k₁) hlen).t z hz _ _ fun s₂ k₂ => P _ (k₁.trans k₂))⟩
    · exact ⟨Tr.stuck, TrO.stuck, fun _ h => by cases h⟩
  | .list xs, q, ks, ns, ρ, ex, env, A, s, fe, H, he, hks, hm, F, hlen => by
    simp only [encE] at he
    split at he
    case h_2 => cases he
    rename_i es pos
    simp only [pe]
    refine prOk_of OK hm F ?_ rfl
    cases hs : seqV (pes O cal q ρ xs) with
    | none => exact Tr.stuck
    | some l =>
      simp only [onSome]
      split
      · rename_i hl
        exact fun Q E P => wpAny_List_spliced (es_spliced (pes_sound xs he hks hm F hlen) hs _ _ fun vs s₁ k₁ r₁ => ⟨by rw [r₁.length]; exact line_ok (by omega), P _ _ (k₁.trans (Kp.push _)) (rep_fresh_list (F.kp k₁).hlt (by omega) r₁)⟩)
      · exact Tr.stuck
  | .tup xs, q, ks, ns, ρ, ex, env, A, s, fe, H, he, hks, hm, F, hlen => by
    simp only [encE] at he
    split at he
    case h_2 => cases he
    rename_i es kk pos
    simp only [pe]
    refine prOk_of OK hm F ?_ rfl
    cases hs : seqV (pes O cal q ρ xs) with
    | none => exact Tr.stuck
    | some l =>
      simp only [onSome]
      split
      · rename_i hl
        exact fun Q E P => wpAny_Tuple_spliced (es_spliced (pes_sound xs he hks hm F hlen) hs _ _ fun vs s₁ k₁ r₁ => ⟨by rw [r₁.length]; exact line_ok (by omega), P _ _ (k₁.trans (Kp.push _)) (rep_fresh_tup (F.kp k₁).hlt (by omega) r₁)⟩)
      · exact Tr.stuck
  | .sub o i, q, ks, ns, ρ, ex, env, A, s, fe, H, he, hks, hm, F, hlen => by
    simp only [encE] at he
    split at he
    case h_2 => cases he
    rename_i o' i' pos
    simp only [Bool.and_eq_true] at he
    obtain ⟨h1, h2⟩ := he
    simp only [pe]
    refine prOk_of OK hm F ?_ rfl
    have X := (pe_sound o h1 hks hm F hlen).o
    cases hl : (pe O cal q ρ o).o with
    | exc _ => exact Tr.stuck
    | stuck => exact Tr.stuck
    | ok a =>
      rw [hl] at X
      cases hr : (pe O cal q ρ i).o with
      | exc _ => exact Tr.stuck
      | stuck => exact Tr.stuck
      | ok b =>
        simp only [Res.bind]
        intro Q E P
        refine Subscript_ (X _ _ fun va s₁ k₁ r₁ => ?_)
        have Y := (pe_sound i h2 hks (hm.kp k₁) (F.kp k₁) hlen).o
        rw [hr] at Y
        refine Y _ _ fun vb s₂ k₂ r₂ => ?_
        have hne : O.idx a b ≠ .stuck := fun z => by rw [z] at P; exact P
        obtain ⟨T, id, hT, hid⟩ := OK.idxT (r₁.kp k₂) hne
        exact tail_any hT hid (OK.idx (hm.kp (k₁.trans k₂)) (F.kp (k₁.trans k₂)).hlt (r₁.kp k₂) r₂ _ _ (P.kp (k₁.trans k₂))) (subscripted_plain (encE_notSlice h2) _ _)
  | .slice o a b st, q, ks, ns, ρ, ex, env, A, s, fe, H, he, hks, hm, F, hlen => by
    simp only [encE] at he
    split at he
    case h_2 => cases he
    rename_i o' a' b' s' p' pos
    simp only [Bool.and_eq_true] at he
    obtain ⟨⟨⟨h1, h2⟩, h3⟩, h4⟩ := he
    simp only [pe]
    refine prOk_of OK hm F ?_ rfl
    have X := (pe_sound o h1 hks hm F hlen).o
    have part : ∀ (p : PE) (x : Option Expr), (∀ e, encE frees fname ks ns p e = true → ∀ s₁, Kp A s s₁ → Tr c q A H (eval e env) (pe O cal q ρ p).v s₁) → (match x with | some e => encE frees fname ks ns p e | none => (match p with | .const .none => true | _ => false)) = true → ∀ (s₁ : Shared) (v : AV), Kp A s s₁ → (pe O cal q ρ p).v = .ok v →
        (∀ Q E, (∀ w s₂, Kp A s₁ s₂ → Rep (vis s₂.heap H) w v → Q w s₂) → wpAny c.M A (evalPart x env) Q E s₁) := by
      intro p x I hx s₁ v k₁ hv Q E P
      cases x with
      | none =>
        cases p <;> simp only [Bool.false_eq_true] at hx
        rename_i z
        cases z <;> simp only [Bool.false_eq_true] at hx
        simp only [pe, PR.of] at hv
        cases hv
        exact wpAny_evalPart_none (P _ _ (Kp.refl _ _) (by simp [Rep]))
      | some e =>
        have Y := I e hx s₁ k₁
        rw [hv] at Y
        exact wpAny_evalPart_some (Y _ _ P)
    cases hl : (pe O cal q ρ o).o with
    | exc _ => exact Tr.stuck
    | stuck => exact Tr.stuck
    | ok ov =>
      rw [hl] at X
      cases ha : (pe O cal q ρ a).v with
      | exc _ => exact Tr.stuck
      | stuck => exact Tr.stuck
      | ok av =>
        cases hb : (pe O cal q ρ b).v with
        | exc _ => exact Tr.stuck
        | stuck => exact Tr.stuck
        | ok bv =>
          cases hs : (pe O cal q ρ st).v with
          | exc _ => exact Tr.stuck
          | stuck => exact Tr.stuck
          | ok sv =>
            simp only [Res.bind]
            intro Q E P
            refine Subscript_ (X _ _ fun va s₁ k₁ r₁ => wpAny_Slice ?_)
            refine part a a' (fun e he s₁ k₁ => (pe_sound a he hks (hm.kp k₁) (F.kp k₁) hlen).v) h2 s₁ av k₁ ha _ _ fun wa s₂ k₂ ra => part b b' (fun e he s₁ k₁ => (pe_sound b he hks (hm.kp k₁) (F.kp k₁) hlen).v) h3 s₂ bv (k₁.trans k₂) hb _ _ fun wb s₃ k₃ rb => part st s' (fun e he s₁ k₁ => (pe_sound st he hks (hm.kp k₁) (F.kp k₁) hlen).v) h4 s₃ sv ((k₁.trans k₂).trans k₃) hs _ _ fun ws s₄ k₄ rs => ?_
            have k5 : Kp A s₄ { s₄ with heap := s₄.heap.push { cls := .type "slice", data := .fields #[wa, wb, ws] } } := Kp.push _
            have kk := (((k₁.trans k₂).trans k₃).trans k₄).trans k5
            have hne : O.slice ov av bv sv ≠ .stuck := fun z => by rw [z] at P; exact P
            have ro := (r₁.kp (((k₂.trans k₃).trans k₄).trans k5))
            obtain ⟨T, id, hT, hid⟩ := OK.sliceT ro hne
            refine tail_any (ops := ?_) hT hid (OK.slice (hm.kp kk) (F.kp kk).hlt ro (ra.kp ((k₃.trans k₄).trans k5)) (rb.kp (k₄.trans k5)) (rs.kp k5) (Heap.get?_push_size _ rfl) _ _ (P.kp kk)) ?_
            · exact match s' with | none => [.ref s₄.heap.objs.size, va] | some _ => [va, .ref s₄.heap.objs.size]
            · cases s' <;> rfl
  | .call f xs, q, ks, ns, ρ, ex, env, A, s, fe, H, he, hks, hm, F, hlen => by
    simp only [encE] at he
    split at he
    case h_2 => cases he
    rename_i x px es pos
    simp only [Bool.and_eq_true, beq_iff_eq] at he
    obtain ⟨⟨h1, h2⟩, h3⟩ := he
    subst h1
    obtain ⟨g1, g2, _⟩ := isGlob_of hks h2
    simp only [pe]
    refine prOk_of OK hm F ?_ rfl
    cases hs : seqV (pes O cal q ρ xs) with
    | none => exact Tr.stuck
    | some l =>
      cases q with
      | false => exact Tr.stuck
      | true =>
        simp only [onSome]
        intro Q E P
        have hne : cal f l ≠ .stuck := fun z => by rw [z] at P; exact P
        obtain ⟨hc, fa, fo, fd, hg, ho, hd⟩ := CO.ok f l hne
        refine wpAny_Call_NameR (ld_glob F g1 g2 hg ?_)
        refine Calls.callWith_function (o := fo) (fd := fd) ?_
        have fin : ∀ vs s₁, Kp A s s₁ → RepL (vis s₁.heap H) vs l → (s₁.heap.get? fa = some fo ∧ fo.data = .func fd) ∧ wpAny c.M A (PySem.call (.ref fa) ([] ++ vs) []) Q E s₁ := fun vs s₁ k₁ r₁ =>
          ⟨⟨(F.kp k₁).base' fa fo ho, hd⟩, hc true A s₁ H vs fa rfl (hm.kp k₁).down (F.kp k₁).base' (F.kp k₁).hlt r₁ hg _ _ (P.kp k₁)⟩
        have I := pes_sound xs h3 hks hm F hlen
        have S := es_spliced (pos := pos) I hs
        cases es with
        | nil => exact PySem.evalArgs_none (by
            have := pes_nil h3
            subst this
            simp only [pes, seqV, Option.some.injEq] at hs
            subst hs
            exact fin [] s (Kp.refl _ _) (by simp [RepL]))
        | cons e es =>
          have hst : starEach (e :: es) env = (false, eval e env) :: starEach es env := starEach_cons (encEs_head h3)
          have S' := S (fun vs s' => (s'.heap.get? fa = some fo ∧ fo.data = .func fd) ∧ wpAny c.M A (PySem.call (.ref fa) ([] ++ vs) []) Q E s') E fun vs s' k' r' => fin vs s' k' r'
          rw [hst] at S' ⊢
          exact Calls.evalArgs_plain S'
  | .bcall f xs, q, ks, ns, ρ, ex, env, A, s, fe, H, he, hks, hm, F, hlen => by
    simp only [encE] at he
    split at he
    case h_2 => cases he
    rename_i x px es pos
    simp only [Bool.and_eq_true, beq_iff_eq, List.contains_iff_mem] at he
    obtain ⟨⟨⟨h1, h2⟩, h3⟩, h4⟩ := he
    obtain ⟨g1, g2, g3⟩ := isGlob_of hks h2
    have hb := BI.boot f
    rw [← h1] at hb
    simp only [pe]
    refine prOk_of OK hm F ?_ rfl
    cases hs : seqO (pes O cal q ρ xs) with
    | none => exact Tr.stuck
    | some l =>
      simp only [onSome]
      have hq : q = true ∨ q = false := by cases q <;> simp
      rcases hq with hq | hq
      case inr => rw [hq]; exact Tr.stuck
      intro Q E P
      have P : Post q A H (O.bcall f l) s Q E := by rw [hq] at P; exact hq ▸ P
      refine wpAny_Call_NameR (ld_boot F g1 g2 g3 (hfree x h3) hb ?_)
      have I := pes_sound xs h4 hks hm F hlen
      have fin : ∀ vs s₁, Kp A s s₁ → RepOL s₁.heap H vs l → wpAny c.M A (PySem.call f.val ([] ++ vs) []) Q E s₁ := fun vs s₁ k₁ r₁ => OK.bcall hq (hm.kp k₁) (F.kp k₁).base' (F.kp k₁).hlt r₁ (BI.boot f) _ _ (P.kp k₁)
      have args : wpAny c.M A (evalArgs f.val true (backTo pos (starEach es env)) []) (fun a s₁ => wpAny c.M A (PySem.call f.val ([] ++ a.pos) a.kw) Q E s₁) E s := by
        have S := es_splicedO (pos := pos) I hs
        cases es with
        | nil => exact PySem.evalArgs_none (by
            have := pes_nil h4
            subst this
            simp only [pes, seqO, Option.some.injEq] at hs
            subst hs
            exact fin [] s (Kp.refl _ _) trivial)
        | cons e es =>
          have hst : starEach (e :: es) env = (false, eval e env) :: starEach es env := starEach_cons (encEs_head h4)
          have S' := S (fun vs s' => wpAny c.M A (PySem.call f.val ([] ++ vs) []) Q E s') E fun vs s' k' r' => fin vs s' k' r'
          rw [hst] at S' ⊢
          exact Calls.evalArgs_plain S'
      have plain := star_plain (pos := pos) (env := env) h4
      unfold BI.val at args ⊢
      split at args
      · rw [if_pos (by assumption)]; exact PySem.callWith_type plain args
      · rw [if_neg (by assumption)]; exact Calls.callWith_builtin plain args
  | .meth o m xs, q, ks, ns, ρ, ex, env, A, s, fe, H, he, hks, hm, F, hlen => by
    simp [encE] at he
  | .comp caps elt src conds, q, ks, ns, ρ, ex, env, A, s, fe, H, he, hks, hm, F, hlen => by
    simp only [encE] at he
    split at he
    case h_2 => cases he
    rename_i e' x px it ifs scope pos
    all_goals
      simp only [Bool.and_eq_true] at he
      obtain ⟨⟨⟨h1, h2⟩, h3⟩, h4⟩ := he
      simp only [pe]
      refine prOk_of OK hm F ?_ rfl
      cases q with
      | false => exact Tr.stuck
      | true =>
        have X := (pe_sound src h1 hks hm F hlen).o
        cases hl : (pe O cal true ρ src).o with
        | exc _ => exact Tr.stuck
        | stuck => exact Tr.stuck
        | ok a =>
          rw [hl] at X
          simp only [Res.bind]
          cases hi : O.items a with
          | none => exact Tr.stuck
          | some l =>
            simp only [onSome]
            split
            · rename_i ys hf
              refine tr_listcomp OK rfl hm F hlen (compOk_of hks h2) (encE_notSet h1 env) X hi hf ?_
              intro item s₃ H₃ cenv hsc hm₃ F₃
              have hks' : cenv.scope.names = relab ks scope.names := by rw [hsc]; exact relab_eq hks F.kind
              have hlen' : (mask caps ρ ++ [some (Ent.val item)]).length = (ns ++ [x]).length := by simp [mask_length, hlen]
              have Ic := pes_sound conds h4 hks' hm₃ F₃ hlen'
              refine ⟨fun y hy => ?_, fun hn => ?_⟩
              · unfold compF at hy
                dsimp only at hy
                split at hy
                · rename_i ht
                  split at hy
                  · rename_i v hv
                    simp only [Option.some.injEq] at hy
                    subst hy
                    refine ⟨es_tests Ic ht, fun s₄ k₄ => ?_⟩
                    have Y := (pe_sound elt h3 hks' (hm₃.kp k₄) (F₃.kp k₄) hlen').v
                    rw [hv] at Y
                    exact Y
                  · cases hy
                · cases hy
                · cases hy
              · unfold compF at hn
                dsimp only at hn
                split at hn
                · split at hn <;> cases hn
                · rename_i ht
                  exact es_tests Ic ht
                · cases hn
            · exact Tr.stuck
theorem pes_sound : ∀ (es : PEs) {q : Bool} {ks : List (Str × NameKind)} {ns : List Str} {ρ : List (Option Ent)} {exs : List Expr} {env : Env} {A : Around} {s : Shared} {fe : FE} {H : Addr → Prop},
    encEs frees fname ks ns es exs = true → env.scope.names = ks → Rm c q (k + 1) A s.heap → Fm c (FrA A) ns env ρ fe H s.heap → ρ.length = ns.length → EsOk c q A H env exs (pes O cal q ρ es) s
  | .nil, q, ks, ns, ρ, exs, env, A, s, fe, H, he, hks, hm, F, hlen => by
    cases exs with
    | nil => simp only [pes]; exact trivial
    | cons _ _ => simp [encEs] at he
  | .cons p ps, q, ks, ns, ρ, exs, env, A, s, fe, H, he, hks, hm, F, hlen => by
    cases exs with
    | nil => simp [encEs] at he
    | cons e r =>
      simp only [encEs, Bool.and_eq_true] at he
      simp only [pes]
      exact ⟨encE_notStar he.1, fun s' k' => pe_sound p he.1 hks (hm.kp k') (F.kp k') hlen, pes_sound ps he.2 hks hm F hlen⟩
end
end
end Mine
end
section
open PySem PySem.W PyProof.Rows
namespace Mine

theorem not_isL_ns {h : Heap} {a : Addr} {m : Str → Option Value} (n : h.Ns a m) (vs : List Value) : ¬ IsL h a vs := fun ⟨o, k, e, _, d, _⟩ => by
  obtain ⟨o', es, ep, e', d', _⟩ := n
  rw [e] at e'; cases e'
  rw [d] at d'; cases d'
theorem not_isL_cell {h : Heap} {a : Addr} {v : Option Value} (n : h.IsCell a v) (vs : List Value) : ¬ IsL h a vs := fun ⟨o, k, e, _, d, _⟩ => by
  obtain ⟨o', e', d'⟩ := n
  rw [e] at e'; cases e'
  rw [d] at d'; cases d'

theorem RepE.same {H : Addr → Prop} {h h' : Heap} {fe : FE} {a : Addr} (hs : Heap.SameBut a h h') (hH : H a) (hn : ∀ vs, ¬ IsL h a vs) {v : Value} : ∀ {t : Ent}, RepE h H fe v t → RepE h' H fe v t
  | .val _, r => Rep.mono ((Kv.of_sameBut (F := fun _ => False) (W := fun b => b = a) hs rfl).vis fun b z => z ▸ hH) r
  | .own _, ⟨z, b, vs, e, l, q, w, r⟩ => ⟨z, b, vs, e, l.at' fun o e' => (hs.2 b fun y => hn vs (y ▸ l)).trans e', q, w, RepL.mono ((Kv.of_sameBut (F := fun _ => False) (W := fun b => b = a) hs rfl).vis fun b z => z ▸ hH) r⟩

theorem get_set {ρ : List (Option Ent)} {i j : Nat} {t u : Ent} (h : (ρ.set i (some t))[j]? = some (some u)) : (j = i ∧ u = t) ∨ (j ≠ i ∧ ρ[j]? = some (some u)) := by
  rw [List.getElem?_set] at h
  split at h
  · rename_i e
    split at h
    · simp only [Option.some.injEq] at h
      exact .inl ⟨e.symm, h.symm⟩
    · cases h
  · rename_i e
    exact .inr ⟨Ne.symm e, h⟩

/-- nothing else stands at that name -/
def OneName (ns : List Str) (i : Nat) (x : Str) : Prop := ∀ j : Nat, ns[j]? = some x → j = i

theorem fm_store {c : Cx} {Fr : Addr → Prop} {ns : List Str} {env : Env} {ρ : List (Option Ent)} {fe : FE} {H : Addr → Prop} {h h' : Heap} {i : Nat} {x : Str} {t : Ent} {v : Value} {a : Addr} (F : Fm c Fr ns env ρ fe H h) (hx : ns[i]? = some x) (hnd : OneName ns i x)
    (hs : Heap.SameBut a h h') (hH : H a) (hfe : fe.h.get? a = none) (hn : ∀ vs, ¬ IsL h a vs) (hlive : ∃ o, h'.get? a = some o) (nx : NV h' env x v) (ny : ∀ y w, y ≠ x → NV h env y w → NV h' env y w) (hns : ∃ m, h'.Ns env.locals m)
    (hcl : ∀ x, env.kindOf x = some .cell → ∃ cc v, env.cells.lookup x = some cc ∧ h'.IsCell cc v) (r : RepE h H fe v t)
    (ap : ∀ xs, t = .own xs → ∀ (j : Nat) y ys, j ≠ i → ns[j]? = some y → ρ[j]? = some (some (.own ys)) → ¬ NV h env y v) : Fm c Fr ns env (ρ.set i (some t)) fe H h' where
  keep := fun b o e => by
    have hb : b ≠ a := fun z => by rw [z, hfe] at e; cases e
    have k := F.keep b o e
    exact ⟨fun n => (hs.2 b hb).trans (k.1 n), by obtain ⟨sl, q⟩ := k.2; exact ⟨sl, (hs.2 b hb).trans q⟩⟩
  base := F.base
  baseF := F.baseF
  hle := F.hle
  hlt := fun b q => by
    by_cases hb : b = a
    · rw [hb]; exact hlive
    · obtain ⟨o, e⟩ := F.hlt b q
      exact ⟨o, (hs.2 b hb).trans e⟩
  felt := F.felt
  kind := F.kind
  glob := F.glob
  bi := F.bi
  ns := hns
  hl := F.hl
  lnew := F.lnew
  hc := F.hc
  cl := hcl
  capart := F.capart
  vals := fun j y u hj hu => by
    rcases get_set hu with ⟨rfl, rfl⟩ | ⟨ne, hu⟩
    · rw [hx] at hj; cases hj
      exact ⟨v, nx, r.same hs hH hn⟩
    · obtain ⟨w, nw, rw'⟩ := F.vals j y u hj hu
      refine ⟨w, ny y w (fun z => ne ?_) nw, rw'.same hs hH hn⟩
      subst z; exact hnd j hj
  apart := fun j l y z xs ys w ne hj hl hu hv n1 n2 => by
    rcases get_set hu with ⟨ej, eu⟩ | ⟨nej, hu'⟩
    · subst ej
      rcases get_set hv with ⟨el, _⟩ | ⟨nel, hv⟩
      · exact ne el.symm
      · rw [hx] at hj; cases hj
        obtain ⟨w₂, nw₂, _⟩ := F.vals l z _ hl hv
        have hzx : z ≠ x := fun q => nel (by subst q; exact hnd l hl)
        have e1 := (ny z w₂ hzx nw₂).uniq n2
        have e2 := nx.uniq n1
        subst e1; subst e2
        exact ap xs eu.symm l z ys nel hl hv nw₂
    · have hyx : y ≠ x := fun q => nej (by subst q; exact hnd j hj)
      obtain ⟨w₁, nw₁, _⟩ := F.vals j y _ hj hu'
      have e1 := (ny y w₁ hyx nw₁).uniq n1
      subst e1
      rcases get_set hv with ⟨el, ev⟩ | ⟨nel, hv⟩
      · subst el
        rw [hx] at hl; cases hl
        have e2 := nx.uniq n2
        subst e2
        exact ap ys ev.symm j y xs nej hj hu' nw₁
      · have hzx : z ≠ x := fun q => nel (by subst q; exact hnd l hl)
        obtain ⟨w₂, nw₂, _⟩ := F.vals l z _ hl hv
        have e2 := (ny z w₂ hzx nw₂).uniq n2
        subst e2
        exact F.apart j l y z xs ys _ ne hj hl hu' hv nw₁ nw₂

section
variable {c : Cx} {q : Bool} {k : Nat} {A : Around} {H : Addr → Prop} {env : Env} {ns : List Str} {ρ : List (Option Ent)} {fe : FE} {s : Shared}

theorem wp_store {i : Nat} {x : Str} {v : Value} {t : Ent} {Q : Unit → Shared → Prop} {E : Value → Shared → Prop} (F : Fm c (FrA A) ns env ρ fe H s.heap) (hx : ns[i]? = some x) (hnd : OneName ns i x) (hk : env.kindOf x = some .local ∨ env.kindOf x = some .cell)
    (r : RepE s.heap H fe v t) (ap : ∀ xs, t = .own xs → ∀ (j : Nat) y ys, j ≠ i → ns[j]? = some y → ρ[j]? = some (some (.own ys)) → ¬ NV s.heap env y v)
    (h : ∀ h' tk, Fm c (FrA A) ns env (ρ.set i (some t)) fe H h' → Kv (FrA A) H s.heap h' → Nf s.heap h' → (∃ a, (a = env.locals ∨ ∃ y, env.kindOf y = some .cell ∧ env.cells.lookup y = some a) ∧ Heap.SameBut a s.heap h') → Q () { s with heap := h', toks := tk }) : wpAny c.M A (storeName env x v) Q E s := by
  rcases hk with hk | hk
  · obtain ⟨m, hm⟩ := F.ns
    refine wpAny_storeName_local hk hm (fun h' hn hs => ?_) (by rw [F.kind]; rfl)
    refine h h' _ (fm_store (v := v) F hx hnd hs F.hl F.lnew (not_isL_ns hm) (let ⟨o, _, _, e, _⟩ := hn; ⟨o, e⟩) (.inl ⟨hk, _, hn, by simp⟩) ?_ ⟨_, hn⟩ ?_ r ap) (Kv.of_sameBut hs F.hl) ?_ ⟨_, .inl rfl, hs⟩
    · rintro y w hy (⟨ky, m', n', e'⟩ | ⟨ky, cc, ec, n'⟩)
      · rw [Ns_uniq hm n'] at hn
        exact .inl ⟨ky, _, hn, by simp [hy, e']⟩
      · refine .inr ⟨ky, cc, ec, n'.sameBut hs fun z => ?_⟩
        obtain ⟨o, e, d⟩ := n'
        obtain ⟨o', _, _, e', d', _⟩ := hm
        rw [z, e'] at e; cases e; rw [d'] at d; cases d
    · intro y hy
      obtain ⟨cc, w, ec, n'⟩ := F.cl y hy
      refine ⟨cc, w, ec, n'.sameBut hs fun z => ?_⟩
      obtain ⟨o, e, d⟩ := n'
      obtain ⟨o', _, _, e', d', _⟩ := hm
      rw [z, e'] at e; cases e; rw [d'] at d; cases d
    · intro b o e nf
      by_cases hb : b = env.locals
      · obtain ⟨o', _, _, e', d', _⟩ := hn
        exact ⟨o', hb ▸ e', fun vs z => by rw [d'] at z; cases z⟩
      · exact ⟨o, (hs.2 b hb).trans e, nf⟩
  · obtain ⟨cc, v₀, hc, hcell⟩ := F.cl x hk
    obtain ⟨m, hm⟩ := F.ns
    refine wpAny_storeName_cell F.kind hk hc hcell fun h' hv hs => ?_
    have hLc : env.locals ≠ cc := fun z => by
      obtain ⟨o, e, d⟩ := hcell
      obtain ⟨o', _, _, e', d', _⟩ := hm
      rw [← z, e'] at e; cases e; rw [d'] at d; cases d
    refine h h' s.toks (fm_store (v := v) F hx hnd hs (F.hc x cc hk hc).1 (F.hc x cc hk hc).2 (not_isL_cell hcell) (let ⟨o, e, _⟩ := hv; ⟨o, e⟩) (.inr ⟨hk, cc, hc, hv⟩) ?_ ⟨m, hm.sameBut hs hLc⟩ ?_ r ap) (Kv.of_sameBut hs (F.hc x cc hk hc).1) ?_ ⟨_, .inr ⟨x, hk, hc⟩, hs⟩
    · rintro y w hy (⟨ky, m', n', e'⟩ | ⟨ky, cy, ey, n'⟩)
      · exact .inl ⟨ky, m', n'.sameBut hs hLc, e'⟩
      · exact .inr ⟨ky, cy, ey, n'.sameBut hs fun z => hy (F.capart y x cc (z ▸ ey) hc)⟩
    · intro y hy
      obtain ⟨cy, w, ey, n'⟩ := F.cl y hy
      by_cases hyx : y = x
      · subst hyx; exact ⟨cc, _, hc, hv⟩
      · exact ⟨cy, w, ey, n'.sameBut hs fun z => hyx (F.capart y x cc (z ▸ ey) hc)⟩
    · intro b o e nf
      by_cases hb : b = cc
      · obtain ⟨o', e', d'⟩ := hv
        exact ⟨o', hb ▸ e', fun vs z => by rw [d'] at z; cases z⟩
      · exact ⟨o, (hs.2 b hb).trans e, nf⟩

/-- more is hidden -/
theorem Fm.hide {Fr : Addr → Prop} {h h₂ : Heap} {H₂ : Addr → Prop} (F : Fm c Fr ns env ρ fe H h) (kk : Kh Fr h h₂) (hH : ∀ b, H b → H₂ b) (hN : ∀ b, H₂ b → H b ∨ h.get? b = none) (hL : Live H₂ h₂) : Fm c Fr ns env ρ fe H₂ h₂ :=
  let G := F.step kk
  { keep := G.keep, base := G.base, baseF := G.baseF, hle := fun b z => hH b (F.hle b z), hlt := hL, felt := G.felt, kind := G.kind, glob := G.glob, bi := G.bi, ns := G.ns, hl := hH _ G.hl, lnew := G.lnew,
    hc := fun x cc y z => ⟨hH _ (G.hc x cc y z).1, (G.hc x cc y z).2⟩, cl := G.cl, capart := G.capart,
    vals := fun i x t a b => let ⟨v, n, r⟩ := F.vals i x t a b; ⟨v, n.kh kk, r.new kk hH hN⟩
    apart := G.apart }
end
end Mine
end
section
open PySem PySem.W PyProof.Rows
namespace Mine

mutual
inductive PS where
  | expr (e : PE)
  | assign (i : Nat) (o : Bool) (e : PE)
  | aug (i : Nat) (op : Operator) (e : PE)
  | append (i : Nat) (e : PE) (fz : Option Nat)
  | ite (t : PE) (a b : PSs)
  | for_ (i : Nat) (src : PE) (body : PSs)
  | while_ (n : Nat) (t : PE) (body : PSs)
  | ret (e : PE)
  | retOwn (i : Nat)
  | brk
  | cont
  | pass
  | try_ (body : PSs) (hs : PHs)
inductive PSs where
  | nil
  | cons (s : PS) (r : PSs)
inductive PHs where
  | nil
  | cons (x : EX) (body : PSs) (r : PHs)
end

inductive FR where
  | next (ρ : List (Option Ent))
  | brk (ρ : List (Option Ent))
  | cont (ρ : List (Option Ent))
  | ret (v : AV)
  | exc (x : EX) (ρ : List (Option Ent))
  | stuck

def forF (f : AV → List (Option Ent) → FR) : List AV → List (Option Ent) → FR
  | [], ρ => .next ρ
  | x :: r, ρ => match f x ρ with
    | .next ρ' => forF f r ρ'
    | .cont ρ' => forF f r ρ'
    | .brk ρ' => .next ρ'
    | .ret v => .ret v
    | .exc _ _ => .stuck
    | .stuck => .stuck
def whileF (t : List (Option Ent) → Option Bool) (f : List (Option Ent) → FR) : Nat → List (Option Ent) → FR
  | 0, _ => .stuck
  | n + 1, ρ => match t ρ with
    | some true => (match f ρ with
      | .next ρ' => whileF t f n ρ'
      | .cont ρ' => whileF t f n ρ'
      | .brk ρ' => .next ρ'
      | .ret v => .ret v
      | .exc _ _ => .stuck
      | .stuck => .stuck)
    | some false => .next ρ
    | none => .stuck

section
variable (O : OpsF) (cal : Nat → List AV → Res)
def appV (ρ : List (Option Ent)) (i : Nat) (r : Res) : FR := match ρ[i]?, r with
  | some (some (.own xs)), .ok v => if xs.length < 1000000 then .next (ρ.set i (some (.own (xs ++ [v])))) else .stuck
  | _, _ => .stuck
def resS (r : Res) (ρ : List (Option Ent)) (f : AV → FR) : FR := match r with
  | .ok v => f v
  | .exc x => .exc x ρ
  | .stuck => .stuck
mutual
def px (q : Bool) (ρ : List (Option Ent)) : PS → FR
  | .expr e => resS (pe O cal q ρ e).v ρ fun _ => .next ρ
  | .assign i o e => match o with
    | false => resS (pe O cal q ρ e).v ρ fun v => .next (ρ.set i (some (.val v)))
    | true => match e with
      | .list xs => (match (pe O cal q ρ (.list xs)).v with | .ok (.lst ys) => .next (ρ.set i (some (.own ys))) | _ => .stuck)
      | _ => .stuck
  | .aug i op e => match (pe O cal q ρ (.name i)).v, (pe O cal q ρ e).o with
    | .ok a, .ok b => resS (O.inpl op a b) ρ fun v => .next (ρ.set i (some (.val v)))
    | _, _ => .stuck
  | .append i e fz => match fz with
    | none => appV ρ i (pe O cal q ρ e).v
    | some j => (match ρ[j]? with
      | some (some (.own ys)) => appV (ρ.set j (some (.val (.lst ys)))) i (pe O cal q (ρ.set j (some (.val (.lst ys)))) e).v
      | _ => .stuck)
  | .ite t a b => match (pe O cal q ρ t).t with
    | some true => pxs q ρ a
    | some false => pxs q ρ b
    | none => .stuck
  | .for_ i src body => match q, (pe O cal q ρ src).v with
    | true, .ok v => (match O.items v with | some l => forF (fun x ρ => pxs true (ρ.set i (some (.val x))) body) l ρ | none => .stuck)
    | _, _ => .stuck
  | .while_ n t body => whileF (fun ρ => (pe O cal q ρ t).t) (fun ρ => pxs q ρ body) n ρ
  | .ret e => resS (pe O cal q ρ e).v ρ fun v => .ret v
  | .retOwn i => match ρ[i]? with
    | some (some (.own xs)) => .ret (.lst xs)
    | _ => .stuck
  | .brk => .brk ρ
  | .cont => .cont ρ
  | .pass => .next ρ
  | .try_ body hs => match q with
    | true => (match pxs true ρ body with
      | .exc x ρ' => phs x ρ' hs
      | r => r)
    | false => .stuck
def pxs (q : Bool) (ρ : List (Option Ent)) : PSs → FR
  | .nil => .next ρ
  | .cons s r => match px q ρ s with
    | .next ρ' => pxs q ρ' r
    | f => f
def phs (x : EX) (ρ : List (Option Ent)) : PHs → FR
  | .nil => .stuck
  | .cons y body r => if x = y then (match pxs false ρ body with | .exc _ _ => .stuck | f => f) else phs x ρ r
end
end

def nameAt (ks : List (Str × NameKind)) (ns : List Str) (i : Nat) (x : Str) : Bool :=
  ns[i]? == some x && (ks.lookup x == some .local || ks.lookup x == some .cell) && (List.range ns.length).all fun j => j == i || !(ns[j]? == some x)

def isComp : PE → Bool
  | .comp .. => true
  | _ => false

section
variable (frees : List Str) (fname : Nat → Str) (ks : List (Str × NameKind)) (ns : List Str)
mutual
def encS : PS → Stmt → Bool
  | .expr e, st => (match st with | .Expr ex _ => encE frees fname ks ns e ex && !(isComp e) | _ => false)
  | .assign i _ e, st => (match st with | .Assign [.Name x _] ex _ => nameAt ks ns i x && encE frees fname ks ns e ex | _ => false)
  | .aug i op e, st => (match st with | .AugAssign (.Name x _) op' ex _ => nameAt ks ns i x && !(x == ("__debug__" : Str)) && op == op' && encE frees fname ks ns e ex | _ => false)
  | .append i e _, st => (match st with | .Expr (.Call (.Attribute (.Name x _) m apos) [ex] [] pos) _ => nameAt ks ns i x && !(x == ("__debug__" : Str)) && m == ("append" : Str) && apos.endLine == pos.line && encE frees fname ks ns e ex | _ => false)
  | .ite t a b, st => (match st with | .If t' a' b' _ => encE frees fname ks ns t t' && encSs a a' && encSs b b' | _ => false)
  | .for_ i src body, st => (match st with | .For (.Name x _) it body' [] _ => nameAt ks ns i x && encE frees fname ks ns src it && encSs body body' | _ => false)
  | .while_ _ t body, st => (match st with | .While t' body' [] _ => encE frees fname ks ns t t' && encSs body body' | _ => false)
  | .ret e, st => (match st with | .Return (some ex) _ => encE frees fname ks ns e ex | _ => false)
  | .retOwn i, st => (match st with | .Return (some (.Name x _)) _ => ns[i]? == some x && !(x == ("__debug__" : Str)) | _ => false)
  | .brk, st => (match st with | .Break _ => true | _ => false)
  | .cont, st => (match st with | .Continue _ => true | _ => false)
  | .pass, st => (match st with | .Pass _ => true | _ => false)
  | .try_ body hs, st => (match st with | .Try body' hs' [] [] _ => encSs body body' && encHs hs hs' && !hs'.isEmpty | _ => false)
def encSs : PSs → List Stmt → Bool
  | .nil, l => (match l with | [] => true | _ => false)
  | .cons s r, l => (match l with | s' :: r' => encS s s' && encSs r r' | _ => false)
def encHs : PHs → List ExceptHandler → Bool
  | .nil, l => (match l with | [] => true | _ => false)
  | .cons y body r, l => (match l with | .ExceptHandler (some (.Name x _)) none (b₀ :: suite) _ :: r' => x == Str.ofString y.name && isGlob ks x && frees.contains x && encSs body (b₀ :: suite) && encHs r r' | _ => false)
end
end
end Mine
end
section
open PySem PySem.W PyProof.Rows
namespace Mine

/-- the frame after some statements -/
structure Nx (c : Cx) (A : Around) (ns : List Str) (env : Env) (fe : FE) (H : Addr → Prop) (ρ' : List (Option Ent)) (s : Shared) (H' : Addr → Prop) (s' : Shared) : Prop where
  rest : ∃ h' tk, s' = { s with heap := h', toks := tk }
  lv : ∀ b o, s.heap.get? b = some o → ∃ o', s'.heap.get? b = some o'
  hid : ∀ b, H' b → H b ∨ s.heap.get? b = none
  kv : Kv (FrA A) H s.heap s'.heap
  nf : Nf s.heap s'.heap
  fm : Fm c (FrA A) ns env ρ' fe H' s'.heap
  len : ρ'.length = ns.length

theorem Nx.trans {c : Cx} {A : Around} {ns : List Str} {env : Env} {fe : FE} {H H₁ H₂ : Addr → Prop} {ρ₁ ρ₂ : List (Option Ent)} {s s₁ s₂ : Shared} (x : Nx c A ns env fe H ρ₁ s H₁ s₁) (y : Nx c A ns env fe H₁ ρ₂ s₁ H₂ s₂) : Nx c A ns env fe H ρ₂ s H₂ s₂ where
  rest := by
    obtain ⟨h, t, rfl⟩ := x.rest
    obtain ⟨h', t', rfl⟩ := y.rest
    exact ⟨h', t', rfl⟩
  lv := fun b o e => let ⟨o', e'⟩ := x.lv b o e; y.lv b o' e'
  hid := fun b z => by
    rcases y.hid b z with z | z
    · exact x.hid b z
    · refine .inr ?_
      cases q : s.heap.get? b with
      | none => rfl
      | some o => obtain ⟨o', e'⟩ := x.lv b o q; rw [z] at e'; cases e'
  kv := fun b o n e => by
    have h1 : ¬ H₁ b := fun z => by
      rcases x.hid b z with z | z
      · exact n z
      · rw [e] at z; cases z
    obtain ⟨p1, sl, p2⟩ := x.kv b o n e
    obtain ⟨q1, sl', q2⟩ := y.kv b _ h1 p2
    refine ⟨fun f => ?_, sl', q2⟩
    exact (y.kv b o h1 (p1 f)).1 f
  nf := x.nf.trans y.nf
  fm := y.fm
  len := y.len

theorem Nx.of_kp {c : Cx} {A : Around} {ns : List Str} {env : Env} {fe : FE} {H : Addr → Prop} {ρ : List (Option Ent)} {s s' : Shared} (F : Fm c (FrA A) ns env ρ fe H s.heap) (hlen : ρ.length = ns.length) (k : Kp A s s') : Nx c A ns env fe H ρ s H s' :=
  ⟨let ⟨h, t, e, _⟩ := k; ⟨h, t, e⟩, fun b o e => let ⟨_, q⟩ := (k.kh b o e).2; ⟨_, q⟩, fun _ z => .inl z, k.kh.kv, k.kh.nf, F.kp k, hlen⟩

/-- what comes back -/
def Rt (A : Around) (fe : FE) (s s' : Shared) (w : Value) (v : AV) : Prop := (∃ h' tk, s' = { s with heap := h', toks := tk }) ∧ Kh (FrA A) fe.h s'.heap ∧ Rep (vis s'.heap fe.H) w v

def PostS (c : Cx) (q : Bool) (A : Around) (ns : List Str) (env : Env) (fe : FE) (H : Addr → Prop) (fr : FR) (s : Shared) (Q : Flow → Shared → Prop) (E : Value → Shared → Prop) : Prop :=
  match fr with
  | .next ρ' => ∀ H' s', Nx c A ns env fe H ρ' s H' s' → Q .next s'
  | .brk ρ' => ∀ H' s', Nx c A ns env fe H ρ' s H' s' → Q .brk s'
  | .cont ρ' => ∀ H' s', Nx c A ns env fe H ρ' s H' s' → Q .cont s'
  | .ret v => ∀ w s', Rt A fe s s' w v → Q (.ret w) s'
  | .exc x ρ' => q = true ∧ ∀ H' sr e s', Nx c A ns env fe H ρ' s H' sr → Xp A sr s' e x → E e s'
  | .stuck => False

theorem PostS.nx {c : Cx} {q : Bool} {A : Around} {ns : List Str} {env : Env} {fe : FE} {H H₁ : Addr → Prop} {ρ₁ : List (Option Ent)} {fr : FR} {s s₁ : Shared} {Q : Flow → Shared → Prop} {E : Value → Shared → Prop} (P : PostS c q A ns env fe H fr s Q E) (x : Nx c A ns env fe H ρ₁ s H₁ s₁) : PostS c q A ns env fe H₁ fr s₁ Q E := by
  cases fr with
  | next ρ' => exact fun H' s' y => P H' s' (x.trans y)
  | brk ρ' => exact fun H' s' y => P H' s' (x.trans y)
  | cont ρ' => exact fun H' s' y => P H' s' (x.trans y)
  | ret v => exact fun w s' y => P w s' ⟨by obtain ⟨h, t, rfl⟩ := x.rest; obtain ⟨h', t', rfl⟩ := y.1; exact ⟨h', t', rfl⟩, y.2.1, y.2.2⟩
  | exc x' ρ' => exact ⟨P.1, fun H' sr e s' y => P.2 H' sr e s' (x.trans y)⟩
  | stuck => exact P.elim

/-- a statement does what is told -/
def StOk (c : Cx) (q : Bool) (k : Nat) (ns : List Str) (env : Env) (ρ : List (Option Ent)) (t : Sem Flow) (fr : FR) : Prop :=
  ∀ A s fe H, Rm c q (k + 1) A s.heap → (∃ outer, A.frames = some (env :: outer)) → Fm c (FrA A) ns env ρ fe H s.heap → ρ.length = ns.length → ∀ Q E, PostS c q A ns env fe H fr s Q E → wpAny c.M A t Q E s

theorem nameAt_of {ks : List (Str × NameKind)} {ns : List Str} {i : Nat} {x : Str} {env : Env} (hks : env.scope.names = ks) (h : nameAt ks ns i x = true) :
    ns[i]? = some x ∧ (env.kindOf x = some .local ∨ env.kindOf x = some .cell) ∧ OneName ns i x := by
  simp only [nameAt, Bool.and_eq_true, Bool.or_eq_true, beq_iff_eq, List.all_eq_true, List.mem_range, Bool.not_eq_true', beq_eq_false_iff_ne] at h
  obtain ⟨⟨h1, h2⟩, h3⟩ := h
  refine ⟨h1, ?_, fun j hj => ?_⟩
  · show env.scope.names.lookup x = _ ∨ env.scope.names.lookup x = _
    rw [hks]; exact h2
  · have hlt : j < ns.length := by
      rcases Nat.lt_or_ge j ns.length with h | h
      · exact h
      · rw [List.getElem?_eq_none h] at hj; cases hj
    exact (h3 j hlt).resolve_right fun n => n hj

theorem swaps_no {e : PE} {frees : List Str} {fname : Nat → Str} {ks : List (Str × NameKind)} {ns : List Str} {ex : Expr} (h : encE frees fname ks ns e ex = true) (hc : isComp e = false) (t : Option Expr) (l : Nat) (env : Env) : swapsWith ex t l env = pure false := by
  cases ex <;> first | rfl | (cases e <;> simp [encE, isComp] at h hc)

section
variable {c : Cx} {O : OpsF} (OK : OpsOk c O) {k : Nat} {cal : Nat → List AV → Res} {fname : Nat → Str} (CO : CallsOk c k cal fname) {frees : List Str} (hfree : ∀ x ∈ frees, c.mg x = none)
  {A : Around} {s : Shared} {H : Addr → Prop} {fe : FE} {env : Env} {ns : List Str} {ρ : List (Option Ent)} {q : Bool}

/-- a store behind a pure step -/
theorem nx_store {i : Nat} {x : Str} {v : Value} {s₁ : Shared} {Q : Unit → Shared → Prop} {E : Value → Shared → Prop} (F : Fm c (FrA A) ns env ρ fe H s.heap) (hlen : ρ.length = ns.length) (k₁ : Kp A s s₁) (hx : ns[i]? = some x) (hnd : OneName ns i x)
    (hk : env.kindOf x = some .local ∨ env.kindOf x = some .cell) {av : AV} (r : Rep (vis s₁.heap H) v av) (h : ∀ H' s', Nx c A ns env fe H (ρ.set i (some (.val av))) s H' s' → Q () s') : wpAny c.M A (storeName env x v) Q E s₁ := by
  have N₁ := Nx.of_kp F hlen k₁
  refine wp_store (t := .val av) N₁.fm hx hnd hk r (fun _ e => by cases e) fun h' tk F' kv nf _ => ?_
  refine h H _ (N₁.trans ⟨⟨_, _, rfl⟩, fun b o e => ?_, fun _ z => .inl z, kv, nf, F', by simpa using hlen⟩)
  by_cases hb : H b
  · exact F'.hlt b hb
  · obtain ⟨sl, q⟩ := (kv b o hb e).2; exact ⟨_, q⟩

/-- an own list made anew -/
theorem nx_own {i : Nat} {x : Str} {xs : List AV} {vs : List Value} {s₁ : Shared} {a : Addr} {Q : Unit → Shared → Prop} {E : Value → Shared → Prop} (F : Fm c (FrA A) ns env ρ fe H s.heap) (hlen : ρ.length = ns.length) (k₁ : Kp A s s₁) (hx : ns[i]? = some x) (hnd : OneName ns i x)
    (hk : env.kindOf x = some .local ∨ env.kindOf x = some .cell) (hz : xs.length ≤ 1048576) (hnew : s.heap.get? a = none) (hl : IsL s₁.heap a vs) (r : RepL (vis s₁.heap (fun b => H b ∨ b = a)) vs xs)
    (h : ∀ H' s', Nx c A ns env fe H (ρ.set i (some (.own xs))) s H' s' → Q () s') : wpAny c.M A (storeName env x (.ref a)) Q E s₁ := by
  have live : Live (fun b => H b ∨ b = a) s₁.heap := fun b z => by
    rcases z with z | rfl
    · obtain ⟨o, e⟩ := F.hlt b z
      obtain ⟨sl, q⟩ := (k₁.kh b o e).2
      exact ⟨_, q⟩
    · obtain ⟨o, _, e, _⟩ := hl; exact ⟨o, e⟩
  have F₁ := F.hide k₁.kh (H₂ := fun b => H b ∨ b = a) (fun b z => .inl z) (fun b z => z.imp id fun (z : b = a) => by rw [z]; exact hnew) live
  have N₁ : Nx c A ns env fe H ρ s (fun b => H b ∨ b = a) s₁ := ⟨let ⟨h, t, e, _⟩ := k₁; ⟨h, t, e⟩, fun b o e => let ⟨_, q⟩ := (k₁.kh b o e).2; ⟨_, q⟩, fun b z => z.imp id fun (z : b = a) => by rw [z]; exact hnew, k₁.kh.kv, k₁.kh.nf, F₁, hlen⟩
  refine wp_store (t := .own xs) F₁ hx hnd hk ⟨hz, a, vs, rfl, hl, .inr rfl, none_back F.keep hnew, r⟩ (fun _ _ j y ys hj hy hr n => ?_) fun h' tk F' kv nf _ => ?_
  · obtain ⟨v, nv, _, a', vs', e', l', _⟩ := F.vals j y _ hy hr
    have := (nv.kh k₁.kh).uniq n
    subst this
    cases e'
    obtain ⟨o, _, e, _⟩ := l'
    rw [hnew] at e; cases e
  · refine h _ _ (N₁.trans ⟨⟨_, _, rfl⟩, fun b o e => ?_, fun _ z => .inl z, kv, nf, F', by simpa using hlen⟩)
    by_cases hb : H b ∨ b = a
    · exact F'.hlt b hb
    · obtain ⟨sl, q⟩ := (kv b o hb e).2; exact ⟨_, q⟩
end
end Mine
end
section
open PySem PySem.W PyProof.Rows
namespace Mine

/-- a hidden thing that is no part of the frame turns -/
theorem Fm.touch' {c : Cx} {Fr : Addr → Prop} {ns : List Str} {env : Env} {ρ : List (Option Ent)} {fe : FE} {H : Addr → Prop} {h h' : Heap} {a : Addr} (F : Fm c Fr ns env ρ fe H h) (hk : ∀ b o, b ≠ a → h.get? b = some o → h'.get? b = some o)
    (hH : H a) (hfe : fe.h.get? a = none) (hL : env.locals ≠ a) (hC : ∀ x cc, env.kindOf x = some .cell → env.cells.lookup x = some cc → cc ≠ a) (hnl : ∀ vs, ¬ IsL h a vs) (hl : ∃ o, h'.get? a = some o) : Fm c Fr ns env ρ fe H h' := by
  have kv : Kv (fun _ => False) (fun b => b = a) h h' := Kv.of_but hk rfl
  have vz : ∀ x cc d, vis h H x cc d → vis h' H x cc d := kv.vis fun b z => by rw [z]; exact hH
  have nsk : ∀ {m}, h.Ns env.locals m → h'.Ns env.locals m := fun {m} n => by
    obtain ⟨ob, es, ep, e, d, r⟩ := n
    exact ⟨ob, es, ep, hk _ ob hL e, d, r⟩
  have clk : ∀ {x b v}, env.kindOf x = some .cell → env.cells.lookup x = some b → h.IsCell b v → h'.IsCell b v := fun {x b v} qk q n => by
    obtain ⟨ob, e, d⟩ := n
    exact ⟨ob, hk b ob (hC x b qk q) e, d⟩
  have lk : ∀ {b vs}, IsL h b vs → IsL h' b vs := fun {b vs} n => n.at' fun o e => hk b o (fun z => hnl vs (z ▸ n)) e
  have nvk : ∀ {x v}, NV h env x v → NV h' env x v := fun {x v} n => by
    rcases n with ⟨k1, m, n, e⟩ | ⟨k1, cc, e, n⟩
    · exact .inl ⟨k1, m, nsk n, e⟩
    · exact .inr ⟨k1, cc, e, clk k1 e n⟩
  exact {
    keep := fun b o' e => by
      have hb : b ≠ a := fun z => by rw [z, hfe] at e; cases e
      obtain ⟨p1, sl, p2⟩ := F.keep b o' e
      exact ⟨fun n => hk b _ hb (p1 n), sl, hk b _ hb p2⟩
    base := F.base, baseF := F.baseF, hle := F.hle
    hlt := fun b z => by
      by_cases hb : b = a
      · rw [hb]; exact hl
      · obtain ⟨o', e⟩ := F.hlt b z; exact ⟨o', hk b o' hb e⟩
    felt := F.felt, kind := F.kind, glob := F.glob, bi := F.bi
    ns := let ⟨m, n⟩ := F.ns; ⟨m, nsk n⟩
    hl := F.hl, lnew := F.lnew, hc := F.hc
    cl := fun x z => let ⟨cc, v, e, n⟩ := F.cl x z; ⟨cc, v, e, clk z e n⟩
    capart := F.capart
    vals := fun i x t h1 h2 => by
      obtain ⟨v, n, r⟩ := F.vals i x t h1 h2
      refine ⟨v, nvk n, ?_⟩
      cases t with
      | val av => exact Rep.mono vz r
      | own xs => obtain ⟨z, b, vs, e, l, hh, w, rr⟩ := r; exact ⟨z, b, vs, e, lk l, hh, w, RepL.mono vz rr⟩
    apart := fun i j x y xs ys v ne h1 h2 r1 r2 n1 n2 => by
      obtain ⟨v₁, m₁, _⟩ := F.vals i x _ h1 r1
      obtain ⟨v₂, m₂, _⟩ := F.vals j y _ h2 r2
      have e₁ := (nvk m₁).uniq n1
      have e₂ := (nvk m₂).uniq n2
      subst e₁; subst e₂
      exact F.apart i j x y xs ys _ ne h1 h2 r1 r2 m₁ m₂ }

theorem Fm.touch {c : Cx} {Fr : Addr → Prop} {ns : List Str} {env : Env} {ρ : List (Option Ent)} {fe : FE} {H : Addr → Prop} {h h' : Heap} {a : Addr} {o : Obj} {fs : Array Value} (F : Fm c Fr ns env ρ fe H h) (hk : ∀ b o, b ≠ a → h.get? b = some o → h'.get? b = some o)
    (hH : H a) (hfe : fe.h.get? a = none) (ho : h.get? a = some o) (hd : o.data = .fields fs) (hcl : ∀ x cc, env.kindOf x = some .cell → env.cells.lookup x = some cc → cc ≠ a) (hl : ∃ o, h'.get? a = some o) : Fm c Fr ns env ρ fe H h' := by
  refine F.touch' hk hH hfe (fun z => ?_) hcl (fun vs n => ?_) hl
  · obtain ⟨m, o', _, _, e', d', _⟩ := F.ns
    rw [z, ho] at e'; cases e'; rw [hd] at d'; cases d'
  · obtain ⟨o', _, e', _, d', _⟩ := n
    rw [ho] at e'; cases e'; rw [hd] at d'; cases d'

/-- a thing of another kind turns -/
theorem Fm.touchV {c : Cx} {Fr : Addr → Prop} {ns : List Str} {env : Env} {ρ : List (Option Ent)} {fe : FE} {H : Addr → Prop} {h h' : Heap} {a : Addr} {o : Obj} {fs : Array Value} (F : Fm c Fr ns env ρ fe H h) (hk : ∀ b o, b ≠ a → h.get? b = some o → h'.get? b = some o)
    (hfe : fe.h.get? a = none) (ho : h.get? a = some o) (hd : o.data = .fields fs) (hcl : ¬ okC o.cls) (hl : ¬ H a) : Fm c Fr ns env ρ fe H h' := by
  have vz : ∀ x cc d, vis h H x cc d → vis h' H x cc d := by
    rintro x cc d ⟨n, o', e, r⟩
    refine ⟨n, o', hk x o' (fun z => ?_) e, r⟩
    rw [z, ho] at e; cases e
    exact hcl (r.1 ▸ r.2.2.2.1)
  have nsk : ∀ {b m}, h.Ns b m → h'.Ns b m := fun {b m} n => by
    obtain ⟨ob, es, ep, e, d, r⟩ := n
    refine ⟨ob, es, ep, hk b ob (fun z => ?_) e, d, r⟩
    rw [z, ho] at e; cases e; rw [hd] at d; cases d
  have clk : ∀ {b v}, h.IsCell b v → h'.IsCell b v := fun {b v} n => by
    obtain ⟨ob, e, d⟩ := n
    refine ⟨ob, hk b ob (fun z => ?_) e, d⟩
    rw [z, ho] at e; cases e; rw [hd] at d; cases d
  have lk : ∀ {b vs}, IsL h b vs → IsL h' b vs := fun {b vs} n => by
    obtain ⟨ob, m, e, c1, d, r⟩ := n
    refine ⟨ob, m, hk b ob (fun z => ?_) e, c1, d, r⟩
    rw [z, ho] at e; cases e; rw [hd] at d; cases d
  have nvk : ∀ {x v}, NV h env x v → NV h' env x v := fun {x v} n => by
    rcases n with ⟨k1, m, n, e⟩ | ⟨k1, cc, e, n⟩
    · exact .inl ⟨k1, m, nsk n, e⟩
    · exact .inr ⟨k1, cc, e, clk n⟩
  exact {
    keep := fun b o' e => by
      have hb : b ≠ a := fun z => by rw [z, hfe] at e; cases e
      obtain ⟨p1, sl, p2⟩ := F.keep b o' e
      exact ⟨fun n => hk b _ hb (p1 n), sl, hk b _ hb p2⟩
    base := F.base, baseF := F.baseF, hle := F.hle
    hlt := fun b z => by
      have hb : b ≠ a := fun y => hl (y ▸ z)
      obtain ⟨o', e⟩ := F.hlt b z; exact ⟨o', hk b o' hb e⟩
    felt := F.felt, kind := F.kind, glob := F.glob, bi := F.bi
    ns := let ⟨m, n⟩ := F.ns; ⟨m, nsk n⟩
    hl := F.hl, lnew := F.lnew, hc := F.hc
    cl := fun x z => let ⟨cc, v, e, n⟩ := F.cl x z; ⟨cc, v, e, clk n⟩
    capart := F.capart
    vals := fun i x t h1 h2 => by
      obtain ⟨v, n, r⟩ := F.vals i x t h1 h2
      refine ⟨v, nvk n, ?_⟩
      cases t with
      | val av => exact Rep.mono vz r
      | own xs => obtain ⟨z, b, vs, e, l, hh, w, rr⟩ := r; exact ⟨z, b, vs, e, lk l, hh, w, RepL.mono vz rr⟩
    apart := fun i j x y xs ys v ne h1 h2 r1 r2 n1 n2 => by
      obtain ⟨v₁, m₁, _⟩ := F.vals i x _ h1 r1
      obtain ⟨v₂, m₂, _⟩ := F.vals j y _ h2 r2
      have e₁ := (nvk m₁).uniq n1
      have e₂ := (nvk m₂).uniq n2
      subst e₁; subst e₂
      exact F.apart i j x y xs ys _ ne h1 h2 r1 r2 m₁ m₂ }

/-- a hidden thing that is no part of the frame is let go -/
theorem Fm.drop {c : Cx} {Fr : Addr → Prop} {ns : List Str} {env : Env} {ρ : List (Option Ent)} {fe : FE} {H : Addr → Prop} {h h' : Heap} {a : Addr} (F : Fm c Fr ns env ρ fe (fun b => H b ∨ b = a) h) (hk : ∀ b o, b ≠ a → h.get? b = some o → h'.get? b = some o)
    (hfe : fe.h.get? a = none) (hL : env.locals ≠ a) (hC : ∀ x cc, env.kindOf x = some .cell → env.cells.lookup x = some cc → cc ≠ a) (hnl : ∀ vs, ¬ IsL h a vs) (hle : ∀ b, fe.H b → H b) (hH : ¬ H a) : Fm c Fr ns env ρ fe H h' := by
  have vz : ∀ x cc d, vis h (fun b => H b ∨ b = a) x cc d → vis h' H x cc d := by
    rintro x cc d ⟨n, o, e, r⟩
    exact ⟨fun z => n (.inl z), o, hk x o (fun z => n (.inr z)) e, r⟩
  have nsk : ∀ {m}, h.Ns env.locals m → h'.Ns env.locals m := fun {m} n => by
    obtain ⟨ob, es, ep, e, d, r⟩ := n
    exact ⟨ob, es, ep, hk _ ob hL e, d, r⟩
  have clk : ∀ {x b v}, env.kindOf x = some .cell → env.cells.lookup x = some b → h.IsCell b v → h'.IsCell b v := fun {x b v} qk q n => by
    obtain ⟨ob, e, d⟩ := n
    exact ⟨ob, hk b ob (hC x b qk q) e, d⟩
  have lk : ∀ {b vs}, IsL h b vs → IsL h' b vs := fun {b vs} n => n.at' fun o e => hk b o (fun z => hnl vs (z ▸ n)) e
  have nvk : ∀ {x v}, NV h env x v → NV h' env x v := fun {x v} n => by
    rcases n with ⟨k1, m, n, e⟩ | ⟨k1, cc, e, n⟩
    · exact .inl ⟨k1, m, nsk n, e⟩
    · exact .inr ⟨k1, cc, e, clk k1 e n⟩
  exact {
    keep := fun b o' e => by
      have hb : b ≠ a := fun z => by rw [z, hfe] at e; cases e
      obtain ⟨p1, sl, p2⟩ := F.keep b o' e
      exact ⟨fun n => hk b _ hb (p1 n), sl, hk b _ hb p2⟩
    base := F.base, baseF := F.baseF, hle := hle
    hlt := fun b z => by
      have hb : b ≠ a := fun y => hH (y ▸ z)
      obtain ⟨o', e⟩ := F.hlt b (.inl z); exact ⟨o', hk b o' hb e⟩
    felt := F.felt, kind := F.kind, glob := F.glob, bi := F.bi
    ns := let ⟨m, n⟩ := F.ns; ⟨m, nsk n⟩
    hl := F.hl.resolve_right hL, lnew := F.lnew
    hc := fun x cc y z => ⟨(F.hc x cc y z).1.resolve_right (hC x cc y z), (F.hc x cc y z).2⟩
    cl := fun x z => let ⟨cc, v, e, n⟩ := F.cl x z; ⟨cc, v, e, clk z e n⟩
    capart := F.capart
    vals := fun i x t h1 h2 => by
      obtain ⟨v, n, r⟩ := F.vals i x t h1 h2
      refine ⟨v, nvk n, ?_⟩
      cases t with
      | val av => exact Rep.mono vz r
      | own xs => obtain ⟨z, b, vs, e, l, hh, w, rr⟩ := r; exact ⟨z, b, vs, e, lk l, hh.resolve_right fun y => hnl vs (y ▸ l), w, RepL.mono vz rr⟩
    apart := fun i j x y xs ys v ne h1 h2 r1 r2 n1 n2 => by
      obtain ⟨v₁, m₁, _⟩ := F.vals i x _ h1 r1
      obtain ⟨v₂, m₂, _⟩ := F.vals j y _ h2 r2
      have e₁ := (nvk m₁).uniq n1
      have e₂ := (nvk m₂).uniq n2
      subst e₁; subst e₂
      exact F.apart i j x y xs ys _ ne h1 h2 r1 r2 m₁ m₂ }

/-- an own list turned -/
theorem fm_own {c : Cx} {Fr : Addr → Prop} {ns : List Str} {env : Env} {ρ : List (Option Ent)} {fe : FE} {H : Addr → Prop} {h h' : Heap} {i : Nat} {x : Str} {a : Addr} {vs vs' : List Value} {xs xs' : List AV} (F : Fm c Fr ns env ρ fe H h) (hx : ns[i]? = some x) (hr : ρ[i]? = some (some (.own xs)))
    (hn : NV h env x (.ref a)) (hl : IsL h a vs) (hH : H a) (hfe : fe.h.get? a = none) (hs : Heap.SameBut a h h') (hl' : IsL h' a vs') (hz : xs'.length ≤ 1048576) (hv : RepL (vis h H) vs' xs') : Fm c Fr ns env (ρ.set i (some (.own xs'))) fe H h' := by
  obtain ⟨ol, nl, el, cl1, dl, _⟩ := id hl
  have vz : ∀ x cc d, vis h H x cc d → vis h' H x cc d := (Kv.of_sameBut (F := fun _ => False) (W := fun b => b = a) hs rfl).vis fun b z => by rw [z]; exact hH
  have nsk : ∀ {b m}, h.Ns b m → h'.Ns b m := fun {b m} n => by
    obtain ⟨ob, es, ep, e, d, r⟩ := n
    refine ⟨ob, es, ep, (hs.2 b fun z => ?_).trans e, d, r⟩
    rw [z, el] at e; cases e; rw [dl] at d; cases d
  have clk : ∀ {b v}, h.IsCell b v → h'.IsCell b v := fun {b v} n => by
    obtain ⟨ob, e, d⟩ := n
    refine ⟨ob, (hs.2 b fun z => ?_).trans e, d⟩
    rw [z, el] at e; cases e; rw [dl] at d; cases d
  have nvk : ∀ {x v}, NV h env x v → NV h' env x v := fun {x v} n => by
    rcases n with ⟨k1, m, n, e⟩ | ⟨k1, cc, e, n⟩
    · exact .inl ⟨k1, m, nsk n, e⟩
    · exact .inr ⟨k1, cc, e, clk n⟩
  exact {
    keep := fun b o' e => by
      have hb : b ≠ a := fun z => by rw [z, hfe] at e; cases e
      obtain ⟨p1, sl, p2⟩ := F.keep b o' e
      exact ⟨fun n => (hs.2 b hb).trans (p1 n), sl, (hs.2 b hb).trans p2⟩
    base := F.base, baseF := F.baseF, hle := F.hle
    hlt := fun b z => by
      by_cases hb : b = a
      · obtain ⟨o', _, e', _⟩ := hl'; exact ⟨o', hb ▸ e'⟩
      · obtain ⟨o', e⟩ := F.hlt b z; exact ⟨o', (hs.2 b hb).trans e⟩
    felt := F.felt, kind := F.kind, glob := F.glob, bi := F.bi
    ns := let ⟨m, n⟩ := F.ns; ⟨m, nsk n⟩
    hl := F.hl, lnew := F.lnew, hc := F.hc
    cl := fun x z => let ⟨cc, v, e, n⟩ := F.cl x z; ⟨cc, v, e, clk n⟩
    capart := F.capart
    vals := fun j y u h1 h2 => by
      rcases get_set h2 with ⟨rfl, rfl⟩ | ⟨ne, h2⟩
      · rw [hx] at h1; cases h1
        exact ⟨_, nvk hn, hz, a, vs', rfl, hl', hH, hfe, RepL.mono vz hv⟩
      · obtain ⟨v, n, r⟩ := F.vals j y u h1 h2
        refine ⟨v, nvk n, ?_⟩
        cases u with
        | val av => exact Rep.mono vz r
        | own ys =>
          obtain ⟨z, b, ws, e, l, hh, w, rr⟩ := r
          subst e
          have hb : b ≠ a := fun z => by
            subst z
            exact F.apart j i y x ys xs _ ne h1 hx h2 hr n hn
          exact ⟨z, b, ws, rfl, l.at' fun o e => (hs.2 b hb).trans e, hh, w, RepL.mono vz rr⟩
    apart := fun j l y z xs₁ ys v ne h1 h2 r1 r2 n1 n2 => by
      have old : ∀ {j : Nat} {y : Str} {us : List AV}, ns[j]? = some y → (ρ.set i (some (Ent.own xs')))[j]? = some (some (Ent.own us)) → ∃ us', ρ[j]? = some (some (Ent.own us')) := fun {j y us} _ g2 => by
        rcases get_set g2 with ⟨rfl, _⟩ | ⟨_, g2⟩
        · exact ⟨xs, hr⟩
        · exact ⟨us, g2⟩
      obtain ⟨u₁, g₁⟩ := old h1 r1
      obtain ⟨u₂, g₂⟩ := old h2 r2
      obtain ⟨v₁, m₁, _⟩ := F.vals j y _ h1 g₁
      obtain ⟨v₂, m₂, _⟩ := F.vals l z _ h2 g₂
      have e₁ := (nvk m₁).uniq n1
      have e₂ := (nvk m₂).uniq n2
      subst e₁; subst e₂
      exact F.apart j l y z u₁ u₂ _ ne h1 h2 g₁ g₂ m₁ m₂ }

/-- an own list is given away -/
theorem Fm.freeze {c : Cx} {Fr : Addr → Prop} {ns : List Str} {env : Env} {ρ : List (Option Ent)} {fe : FE} {H : Addr → Prop} {h : Heap} {j : Nat} {y : Str} {ys : List AV} (F : Fm c Fr ns env ρ fe H h) (hy : ns[j]? = some y) (hr : ρ[j]? = some (some (.own ys))) :
    ∃ H', (∀ b, H' b → H b) ∧ Fm c Fr ns env (ρ.set j (some (.val (.lst ys)))) fe H' h := by
  obtain ⟨v, nv, z, a, vs, e, l, hH, hfe, r⟩ := F.vals j y _ hy hr
  subst e
  have hL : env.locals ≠ a := fun q => by
    obtain ⟨m, n⟩ := F.ns
    exact not_isL_ns n vs (q ▸ l)
  have hC : ∀ x cc, env.kindOf x = some .cell → env.cells.lookup x = some cc → cc ≠ a := fun x cc hk q w => by
    obtain ⟨cc', v', e', n'⟩ := F.cl x hk
    rw [q] at e'; cases e'
    exact not_isL_cell n' vs (w ▸ l)
  refine ⟨fun b => H b ∧ b ≠ a, fun b q => q.1, ?_⟩
  have vz : ∀ x cc d, vis h H x cc d → vis h (fun b => H b ∧ b ≠ a) x cc d := fun x cc d q => ⟨fun w => q.1 w.1, q.2⟩
  exact {
    keep := F.keep, base := F.base, baseF := F.baseF
    hle := fun b q => ⟨F.hle b q, fun w => by obtain ⟨o, e⟩ := F.felt b q; rw [w, hfe] at e; cases e⟩
    hlt := fun b q => F.hlt b q.1
    felt := F.felt, kind := F.kind, glob := F.glob, bi := F.bi, ns := F.ns
    hl := ⟨F.hl, hL⟩, lnew := F.lnew
    hc := fun x cc y q => ⟨⟨(F.hc x cc y q).1, hC x cc y q⟩, (F.hc x cc y q).2⟩
    cl := F.cl, capart := F.capart
    vals := fun i x t h1 h2 => by
      rcases get_set h2 with ⟨rfl, rfl⟩ | ⟨ne, h2⟩
      · rw [hy] at h1; cases h1
        refine ⟨_, nv, ?_⟩
        obtain ⟨o, n, e, c1, d1, f1⟩ := l
        simp only [RepE, Rep]
        exact ⟨z, a, vs, n, rfl, ⟨fun w => w.2 rfl, o, e, c1, d1, f1, .inl rfl, fun ⟨_, z⟩ => by cases z⟩, RepL.mono vz r⟩
      · obtain ⟨w, nw, rw'⟩ := F.vals i x t h1 h2
        refine ⟨w, nw, ?_⟩
        cases t with
        | val av => exact Rep.mono vz rw'
        | own xs =>
          obtain ⟨z', a', vs', e', l', hH', hfe', r'⟩ := rw'
          subst e'
          refine ⟨z', a', vs', rfl, l', ⟨hH', fun q => ?_⟩, hfe', RepL.mono vz r'⟩
          subst q
          exact F.apart i j x y xs ys _ ne h1 hy h2 hr nw nv
    apart := fun i l x w xs us v ne h1 h2 r1 r2 n1 n2 => by
      rcases get_set r1 with ⟨_, q⟩ | ⟨_, r1⟩
      · cases q
      rcases get_set r2 with ⟨_, q⟩ | ⟨_, r2⟩
      · cases q
      exact F.apart i l x w xs us v ne h1 h2 r1 r2 n1 n2 }
end Mine
end
section
open PySem PySem.W PyProof.Rows
namespace Mine

theorem fly_kh {A : Around} {sr s' : Shared} {B h : Heap} {l : List Env} {base : Heap} (hk : Kp A sr s') (hfr : A.frames = some l) (ff : s'.heap.FunFrames base l)
    (hB : ∀ b o, s'.heap.get? b = some o → (∃ o', sr.heap.get? b = some o') → b ∉ l.filterMap (·.frame) → B.get? b = some o) (hst : B.StaysIn h) (hup : s'.heap.UpToSlots h) : Kh (FrA A) sr.heap h := fun b o e => by
  obtain ⟨p1, sl, p2⟩ := hk.kh b o e
  by_cases hb : b ∈ l.filterMap (·.frame)
  · obtain ⟨_, o', e', nf⟩ := ff.mem hb
    rw [p2] at e'; cases e'
    refine ⟨fun n => n.elim (fun n => absurd ⟨l, hfr, hb⟩ n) fun ⟨fs, z⟩ => absurd z (nf fs), ?_⟩
    obtain ⟨sl', q⟩ := hup b _ p2 nf
    exact ⟨sl', q⟩
  · have hF : ¬ FrA A b := fun ⟨l', e1, e2⟩ => by rw [hfr] at e1; cases e1; exact hb e2
    have := hst b o (hB b o (p1 (.inl hF)) ⟨o, e⟩ hb)
    exact ⟨fun _ => this, o.slots, this⟩

/-- an exception that the frame has taken note of -/
def Fly (A : Around) (l : List Env) (sr : Shared) (e : Addr) (cls : EX) (s' : Shared) : Prop := ∃ B a0 h tk, s' = { sr with heap := h, toks := tk } ∧ Heap.FlyingW B l e (.type cls.name) a0 h ∧ Kh (FrA A) sr.heap h ∧ (∀ b o, h.get? b = some o → (∃ o', sr.heap.get? b = some o') → b ∉ l.filterMap (·.frame) → B.get? b = some o) ∧ (∀ b, b ∈ l.filterMap (·.frame) → ∃ o, h.get? b = some o ∧ ∀ vs, o.data ≠ .fields vs)

theorem note_land {c : Cx} {A : Around} {sr s' : Shared} {e : Addr} {cls : EX} {env : Env} {outer : List Env} {Lf : Addr} {Q : Unit → Shared → Prop} {E : Value → Shared → Prop} (X : Xp A sr s' (.ref e) cls) (hfr : A.frames = some (env :: outer)) (hf : env.frame = some Lf)
    (ff : s'.heap.FunFrames c.h0 (env :: outer)) (K : ∀ s₃, Fly A (env :: outer) sr e cls s₃ → Q () s₃) :
    wpAny c.M A (noteFrame (.ref e) env) (fun _ s₂ => wpAny c.M A (setFlight (.ref e) none) Q E s₂) E s' := by
  obtain ⟨e', a0, he', hkp, hen, hX⟩ := X
  cases he'
  have fin : ∀ (B : Heap), B.StaysIn s'.heap → B.get? e = none → (∀ b o, s'.heap.get? b = some o → (∃ o', sr.heap.get? b = some o') → b ∉ (env :: outer).filterMap (·.frame) → B.get? b = some o) →
      ∀ h₂, Heap.HeldW B (env :: outer) e (.type cls.name) a0 Lf h₂ → s'.heap.UpToSlots h₂ → wpAny c.M A (setFlight (.ref e) none) Q E { s' with heap := h₂ } := by
    intro B hB1 hB2 hB3 h₂ hh hu
    refine wpAny_landsW hh fun h₃ hfl hu₃ => K _ ?_
    have kh := fly_kh hkp hfr ff hB3 hfl.1 (hu.trans hu₃)
    obtain ⟨h', tk', rfl, kk⟩ := hkp
    refine ⟨B, a0, h₃, tk', rfl, hfl, kh, fun b o q1 q2 q3 => ?_, fun b hb => ?_⟩
    · obtain ⟨o', q2⟩ := q2
      have hF : ¬ FrA A b := fun ⟨l', e1, e2⟩ => by rw [hfr] at e1; cases e1; exact q3 e2
      have e1 := (kk b o' q2).1 (.inl hF)
      have e2 := hB3 b o' e1 ⟨o', q2⟩ q3
      have e3 := hfl.1 b o' e2
      rw [q1] at e3; cases e3; exact e2
    · obtain ⟨_, o, e1, nf⟩ := hfl.2.2.1.mem hb
      exact ⟨o, e1, nf⟩
  rcases hX with ⟨ob, ho, hc, hd⟩ | ht
  · have hB0 : ∀ b o, s'.heap.get? b = some o → (∃ o', sr.heap.get? b = some o') → b ∉ (env :: outer).filterMap (·.frame) → (hideAll s'.heap (e :: (env :: outer).filterMap (·.frame))).get? b = some o := fun b o q1 q2 q3 => by
      refine hideAll_get _ q1 fun hm => ?_
      rcases List.mem_cons.mp hm with rfl | hm
      · obtain ⟨o', q2⟩ := q2; rw [hen] at q2; cases q2
      · exact q3 hm
    have hfB : s'.heap.FunFrames (hideAll s'.heap (e :: (env :: outer).filterMap (·.frame))) (env :: outer) := funFrames_hide ff fun v hv a ha => List.mem_cons_of_mem _ (List.mem_filterMap.mpr ⟨v, hv, ha⟩)
    unfold noteFrame
    simp only [hf]
    refine wpAny_bind (wpAny_field ho hd (x := .none) rfl ?_)
    rw [if_neg (by decide)]
    refine wpAny_entryW (base := hideAll s'.heap (e :: (env :: outer).filterMap (·.frame))) hfr hfB hf ho (fun b o q => of_hideAll _ q) (hideAll_none _ (List.mem_cons_self ..)) hd (by simp) (a0 := a0) rfl fun h₂ hN => ?_
    obtain ⟨k1, k2, k3, k4⟩ := hN
    rw [hc] at k3
    exact fin _ (fun b o q => of_hideAll _ q) (hideAll_none _ (List.mem_cons_self ..)) hB0 h₂ ⟨k1, hideAll_none _ (List.mem_cons_self ..), k2, k3⟩ k4
  · obtain ⟨oe, vs, T, oT, ts, he, hcl, hd, h1, hT, hTe, hoT, hdT, h3⟩ := ht
    have hB0 : ∀ b o, s'.heap.get? b = some o → (∃ o', sr.heap.get? b = some o') → b ∉ (env :: outer).filterMap (·.frame) → (hideAll s'.heap (e :: T :: (env :: outer).filterMap (·.frame))).get? b = some o := fun b o q1 q2 q3 => by
      obtain ⟨o', q2⟩ := q2
      refine hideAll_get _ q1 fun hm => ?_
      rcases List.mem_cons.mp hm with rfl | hm
      · rw [hen] at q2; cases q2
      · rcases List.mem_cons.mp hm with rfl | hm
        · rw [hT] at q2; cases q2
        · exact q3 hm
    have hfB : s'.heap.FunFrames (hideAll s'.heap (e :: T :: (env :: outer).filterMap (·.frame))) (env :: outer) := funFrames_hide ff fun v hv a ha => List.mem_cons_of_mem _ (List.mem_cons_of_mem _ (List.mem_filterMap.mpr ⟨v, hv, ha⟩))
    have hTB : (hideAll s'.heap (e :: T :: (env :: outer).filterMap (·.frame))).get? T = none := hideAll_none _ (List.mem_cons_of_mem _ (List.mem_cons_self ..))
    refine wpAny_noteFrame_onW (base := hideAll s'.heap (e :: T :: (env :: outer).filterMap (·.frame))) (a0 := a0) (cls := .type cls.name) hfr hfB hf ⟨oe, vs, T, oT, ts, he, hcl, hd, h1, hTB, hTe, hoT, hdT, h3⟩ (fun b o q => of_hideAll _ q) (hideAll_none _ (List.mem_cons_self ..)) fun h₂ hN => ?_
    obtain ⟨k1, k2, k3, k4⟩ := hN
    exact fin _ (fun b o q => of_hideAll _ q) (hideAll_none _ (List.mem_cons_self ..)) hB0 h₂ ⟨k1, hideAll_none _ (List.mem_cons_self ..), k2, k3⟩ k4

theorem EX.boot : ∀ (x : EX), bootBuiltins (Str.ofString x.name) = some (.type x.name)
  | .zde => by decide +kernel
  | .ofe => by decide +kernel
  | .te => by decide +kernel
  | .ve => by decide +kernel
  | .ae => by decide +kernel
theorem EX.sub : ∀ (x y : EX), isSubtype (.type x.name) (.type y.name) = pure (decide (x = y)) := by
  intro x y
  cases x <;> cases y <;> (rw [isSubtype_type]; kernel_rfl)
theorem EX.exc : ∀ (x : EX), isSubtype (.type x.name) (.type "BaseException") = pure true := by
  intro x
  cases x <;> (rw [isSubtype_type]; kernel_rfl)
theorem EX.notTup : ∀ (T : EX), isSubtype (.type ((Manifest.find? T.name).elim "type" fun x => x.metatype)) (.type "tuple") = pure false := by
  intro x
  cases x <;> (rw [isSubtype_type]; kernel_rfl)
end Mine
end
section
open PySem PySem.W PyProof.Rows
namespace Mine

section
variable {c : Cx} {O : OpsF} (OK : OpsOk c O) {k : Nat} {cal : Nat → List AV → Res} {fname : Nat → Str} (CO : CallsOk c k cal fname) {frees : List Str} (hfree : ∀ x ∈ frees, c.mg x = none)

include OK CO hfree in
/-- x = e -/
theorem assign_val {A : Around} {s : Shared} {H : Addr → Prop} {fe : FE} {env : Env} {ks : List (Str × NameKind)} {ns : List Str} {ρ : List (Option Ent)} {q : Bool} {e : PE} {ex : Expr} {i : Nat} {x : Str} {px' pos : Pos} {Q : Flow → Shared → Prop} {E : Value → Shared → Prop}
    (hks : env.scope.names = ks) (hm : Rm c q (k + 1) A s.heap) (F : Fm c (FrA A) ns env ρ fe H s.heap) (hlen : ρ.length = ns.length) (hx : nameAt ks ns i x = true) (he : encE frees fname ks ns e ex = true)
    (P : PostS c q A ns env fe H (resS (pe O cal q ρ e).v ρ fun v => .next (ρ.set i (some (.val v)))) s Q E) : wpAny c.M A (exec (.Assign [.Name x px'] ex pos) env) Q E s := by
  obtain ⟨h1, h2, h3⟩ := nameAt_of hks hx
  have I := pe_sound OK CO hfree e he hks hm F hlen
  have plain : swapsWith ex (some (.Name x px')) pos.line env = pure false → wpAny c.M A (exec (.Assign [.Name x px'] ex pos) env) Q E s := fun hsw => by
    refine wpAny_Assign_Name ?_ hsw
    have T := I.v
    cases hv : (pe O cal q ρ e).v with
    | stuck => rw [hv] at P; exact P.elim
    | exc z =>
      rw [hv] at P T
      exact T _ _ ⟨P.1, fun x' s' X => P.2 H s x' s' (Nx.of_kp F hlen (Kp.refl _ _)) X⟩
    | ok v =>
      rw [hv] at P T
      exact T _ _ fun w s₁ k₁ r₁ => nx_store F hlen k₁ h1 h3 h2 r₁ fun H' s' N => P H' s' N
  cases hc : isComp e with
  | false => exact plain (swaps_no he hc _ _ _)
  | true =>
    cases e <;> simp [isComp] at hc
    rename_i caps elt src conds
    simp only [encE] at he
    split at he
    case h_2 => cases he
    rename_i e' y py it ifs scope pos'
    all_goals
      have hsw : ∃ b, swapsWith (.ListComp e' [⟨.Name y py, it, ifs, 0⟩] scope pos') (some (.Name x px')) pos.line env = pure b := ⟨_, rfl⟩
      obtain ⟨b, hsw⟩ := hsw
      cases b with
      | false => exact plain hsw
      | true =>
        simp only [Bool.and_eq_true] at he
        obtain ⟨⟨⟨e1, e2⟩, e3⟩, e4⟩ := he
        simp only [pe, PR.of] at P
        cases q with
        | false => exact P.elim
        | true =>
          have X := (pe_sound OK CO hfree src e1 hks hm F hlen).o
          cases hl : (pe O cal true ρ src).o with
          | exc _ => rw [hl] at P; exact P.elim
          | stuck => rw [hl] at P; exact P.elim
          | ok a =>
            rw [hl] at P X
            simp only [Res.bind] at P
            cases hi : O.items a with
            | none => rw [hi] at P; exact P.elim
            | some l =>
              rw [hi] at P
              simp only [onSome] at P
              split at P
              · rename_i ys hf
                have K := compOk_of (ns := ns) (x := y) (caps := caps) hks e2
                have T : TurnOk c true (k + 1) A ns env ρ fe scope y caps e' ifs (fun x => compF (allT .And) (pes O cal true (mask caps ρ ++ [some (.val x)]) conds) (pe O cal true (mask caps ρ ++ [some (.val x)]) elt)) := by
                  intro item s₃ H₃ cenv hsc hm₃ F₃
                  have hks' : cenv.scope.names = relab ks scope.names := by rw [hsc]; exact relab_eq hks F.kind
                  have hlen' : (mask caps ρ ++ [some (Ent.val item)]).length = (ns ++ [y]).length := by simp [mask_length, hlen]
                  have Ic := pes_sound OK CO hfree conds e4 hks' hm₃ F₃ hlen'
                  refine ⟨fun y hy => ?_, fun hn => ?_⟩
                  · unfold compF at hy
                    dsimp only at hy
                    split at hy
                    · rename_i ht
                      split at hy
                      · rename_i v hv
                        simp only [Option.some.injEq] at hy
                        subst hy
                        refine ⟨es_tests Ic ht, fun s₄ k₄ => ?_⟩
                        have Y := (pe_sound OK CO hfree elt e3 hks' (hm₃.kp k₄) (F₃.kp k₄) hlen').v
                        rw [hv] at Y
                        exact Y
                      · cases hy
                    · cases hy
                    · cases hy
                  · unfold compF at hn
                    dsimp only at hn
                    split at hn
                    · split at hn <;> cases hn
                    · rename_i ht
                      exact es_tests Ic ht
                    · cases hn
                obtain ⟨cl, hclos, hcl1, hcl2⟩ := closureFor_ok (env := env) (scope := scope) fun y hy => by
                  obtain ⟨cc, _, e, _⟩ := F.cl y (K.free y hy)
                  rw [e]; rfl
                rw [exec_Assign_Name_used _ _ _ _ hsw]
                refine wpAny_bind (wpAny_standAt (wpAny_bind ?_))
                show wpAny _ A (do let _ ← comprehension (.ListComp e' [⟨.Name y py, it, ifs, 0⟩] scope pos') scope env _ (newList []) false (eval it env) (some (assign (.Name x px') env))) _ _ s
                refine wpAny_bind (wpAny_mono (wpAny_comprehension_free (use := some (assign (.Name x px') env)) (Q := fun _ s' => Q .next s') rfl (encE_notSet e1 env) hclos K.kind K.loc (X _ _ fun xv s₁ k₁ r₁ => ?_)) (fun _ s' hq => wpAny_pure (wpAny_pure hq)) fun _ _ e => e)
                have F₁ := F.kp k₁
                refine OK.items (hm.kp k₁) rfl F₁.hlt r₁ hi _ _ fun I fp PP St h' tk hk hI hfI hl _ hsz W hst hP => ?_
                refine comp_core (RR := fun acc C => compPost c.M A E (some (assign (.Name x px') env)) (fun _ s' => Q .next s') acc C) (s₁ := s₁) (hm.kp k₁) F₁ hlen K hcl1 hcl2 ⟨_, _, rfl⟩ hk hI hl hfI W hst hsz hP hf T ?_
                intro D C h'' tk' m' vs hD hC hDC hn hl hr hkv
                have k2 : Kh (FrA A) s₁.heap h'' := (Kh.of_keeps hk).trans' hkv fun b o e z => by rw [z, hI] at e; cases e
                have kp2 : Kp A s { s₁ with heap := h'', toks := tk' } := k₁.trans ⟨h'', tk', rfl, k2⟩
                have hDs : s₁.heap.get? D = none := none_back (Kh.of_keeps (F := fun _ => False) hk) hD
                have hCs : s₁.heap.get? C = none := none_back (Kh.of_keeps (F := fun _ => False) hk) hC
                show wpAny _ A (assign (.Name x px') env (.ref D)) _ _ _
                refine wpAny_assign_Name ?_
                obtain ⟨oC, esC, epC, eC, dC, rC⟩ := id hn
                have hsC : s.heap.get? C = none := none_back k₁.kh hCs
                have hsD : s.heap.get? D = none := none_back k₁.kh hDs
                have live : Live (fun b => H b ∨ b = C) h'' := fun b z => by
                  rcases z with z | rfl
                  · obtain ⟨o, e⟩ := F.hlt b z
                    obtain ⟨sl, q⟩ := (kp2.kh b o e).2
                    exact ⟨_, q⟩
                  · exact ⟨oC, eC⟩
                have FC := F.hide kp2.kh (H₂ := fun b => H b ∨ b = C) (fun b z => .inl z) (fun b z => z.imp id fun (z : b = C) => by rw [z]; exact hsC) live
                have rep : Rep (vis h'' (fun b => H b ∨ b = C)) (.ref D) (.lst ys) := by
                  simp only [Rep]
                  obtain ⟨o, n, e, c1, d1, f1⟩ := hl
                  refine ⟨Nat.le_trans (mapF_length hf) hsz, D, vs, n, rfl, ⟨fun z => ?_, o, e, c1, d1, f1, .inl rfl, fun ⟨_, z⟩ => by cases z⟩, RepL.mono (vis_hide fun b z => z.elim .inl fun z => .inr (.inl z)) hr⟩
                  rcases z with z | z
                  · obtain ⟨o', e'⟩ := F₁.hlt D z
                    rw [hDs] at e'; cases e'
                  · exact hDC z
                have cellne : ∀ y cc, env.kindOf y = some .cell → env.cells.lookup y = some cc → cc ≠ C := fun y cc qk q z => by
                  obtain ⟨o', e'⟩ := F.hlt cc (F.hc y cc qk q).1
                  rw [z, hsC] at e'; cases e'
                have locne : env.locals ≠ C := fun z => by
                  obtain ⟨o', e'⟩ := F.hlt _ F.hl
                  rw [z, hsC] at e'; cases e'
                refine wp_store (t := .val (.lst ys)) FC h1 h3 h2 rep (fun _ e => by cases e) fun h₄ tk₄ F₄ kv₄ nf₄ ⟨sa, hsa, hsb⟩ => ?_
                have hCa : C ≠ sa := fun z => by
                  rcases hsa with q | ⟨y, qk, q⟩
                  · exact locne (q ▸ z.symm)
                  · exact cellne y sa qk q z.symm
                have hn₄ : h₄.Ns C m' := ⟨oC, esC, epC, (hsb.2 C hCa).trans eC, dC, rC⟩
                refine ⟨m', hn₄, fun h₅ hs₅ => P H _ ?_⟩
                have nlC : ∀ vs, ¬ IsL h₄ C vs := not_isL_ns hn₄
                have hHC : ¬ H C := fun z => by
                  obtain ⟨o', e'⟩ := F.hlt C z
                  rw [hsC] at e'; cases e'
                have F₅ := F₄.drop (a := C) (h' := h₅) (fun b o hb e => (hs₅.2 b hb).trans e) (none_back F.keep hsC) locne cellne nlC F.hle hHC
                refine ⟨?_, fun b o e => ?_, fun b z => .inl z, fun b o nb e => ?_, fun b o e nf => ?_, F₅, by simpa using hlen⟩
                · obtain ⟨hh, tt, rfl, _⟩ := k₁
                  exact ⟨h₅, tk₄, rfl⟩
                · have hb : b ≠ C := fun z => by rw [z, hsC] at e; cases e
                  by_cases hHb : H b
                  · exact F₅.hlt b hHb
                  · obtain ⟨sl, q⟩ := (kp2.kh b o e).2
                    obtain ⟨sl', q'⟩ := (kv₄ b _ (fun z => z.elim hHb hb) q).2
                    exact ⟨_, (hs₅.2 b hb).trans q'⟩
                · have hb : b ≠ C := fun z => by rw [z, hsC] at e; cases e
                  obtain ⟨p1, sl, p2⟩ := kp2.kh b o e
                  have nb' : ¬ (H b ∨ b = C) := fun z => z.elim nb hb
                  refine ⟨fun f => (hs₅.2 b hb).trans ((kv₄ b o nb' (p1 f)).1 f), ?_⟩
                  obtain ⟨sl', q'⟩ := (kv₄ b _ nb' p2).2
                  exact ⟨sl', (hs₅.2 b hb).trans q'⟩
                · have hb : b ≠ C := fun z => by rw [z, hsC] at e; cases e
                  obtain ⟨o', e', n'⟩ := (kp2.kh.nf.trans nf₄) b o e nf
                  exact ⟨o', (hs₅.2 b hb).trans e', n'⟩
              · exact P.elim
end
end Mine
end
section
open PySem PySem.W PyProof.Rows
namespace Mine

theorem Nx.mark {c : Cx} {A : Around} {x : Option Value} {ns : List Str} {env : Env} {fe : FE} {H H' : Addr → Prop} {ρ' : List (Option Ent)} {s s' : Shared} (N : Nx c (A.mark x) ns env fe H ρ' s H' s') : Nx c A ns env fe H ρ' s H' s' := ⟨N.rest, N.lv, N.hid, N.kv, N.nf, N.fm, N.len⟩
theorem Rt.mark {A : Around} {x : Option Value} {fe : FE} {s s' : Shared} {w : Value} {v : AV} (N : Rt (A.mark x) fe s s' w v) : Rt A fe s s' w v := ⟨N.1, N.2.1, N.2.2⟩
theorem Fm.rt {c : Cx} {A : Around} {ns : List Str} {env : Env} {ρ : List (Option Ent)} {fe : FE} {H : Addr → Prop} {s s' : Shared} {w : Value} {v : AV} (F : Fm c (FrA A) ns env ρ fe H s.heap) (k : Kp A s s') (r : Rep (vis s'.heap H) w v) : Rt A fe s s' w v :=
  ⟨let ⟨h, t, e, _⟩ := k; ⟨h, t, e⟩, (F.kp k).keep, Rep.mono (vis_hide F.hle) r⟩

theorem rep_not_hidden {h : Heap} {H : Addr → Prop} {b : Addr} : ∀ {x : AV}, (∀ a, x ≠ .ref a) → Rep (vis h H) (.ref b) x → ¬ H b ∧ ∃ o, h.get? b = some o
  | .none, _, r => by simp [Rep] at r
  | .bool _, _, r => by simp [Rep] at r
  | .int _, _, r => by simp [Rep] at r
  | .float _, _, r => by simp [Rep] at r
  | .str _, _, r => by simp [Rep] at r
  | .bytes _, _, r => by simp [Rep] at r
  | .type _, _, r => by simp [Rep] at r
  | .ref a, n, _ => absurd rfl (n a)
  | .range _ _ _, _, r => by
    simp only [Rep] at r
    obtain ⟨_, _, _, _, e, v⟩ := r
    cases e; exact ⟨v.1, let ⟨o, q, _⟩ := v.2; ⟨o, q⟩⟩
  | .tup _, _, r => by
    simp only [Rep] at r
    obtain ⟨_, _, _, _, e, v, _⟩ := r
    cases e; exact ⟨v.1, let ⟨o, q, _⟩ := v.2; ⟨o, q⟩⟩
  | .lst _, _, r => by
    simp only [Rep] at r
    obtain ⟨_, _, _, _, e, v, _⟩ := r
    cases e; exact ⟨v.1, let ⟨o, q, _⟩ := v.2; ⟨o, q⟩⟩

section
variable {c : Cx} {O : OpsF} (OK : OpsOk c O) {k : Nat} {cal : Nat → List AV → Res} {fname : Nat → Str} (CO : CallsOk c k cal fname) {frees : List Str} (hfree : ∀ x ∈ frees, c.mg x = none)
include OK CO hfree

theorem append_ok {A : Around} {s : Shared} {H : Addr → Prop} {fe : FE} {env : Env} {ks : List (Str × NameKind)} {ns : List Str} {ρ : List (Option Ent)} {q : Bool} {e : PE} {fz : Option Nat} {i : Nat} {st : Stmt} {Q : Flow → Shared → Prop} {E : Value → Shared → Prop}
    (he : encS frees fname ks ns (.append i e fz) st = true) (hks : env.scope.names = ks) (hm : Rm c q (k + 1) A s.heap) (F : Fm c (FrA A) ns env ρ fe H s.heap) (hlen : ρ.length = ns.length) (P : PostS c q A ns env fe H (appV ρ i (pe O cal q ρ e).v) s Q E) : wpAny c.M A (exec st env) Q E s := by
  simp only [encS] at he
  split at he
  case h_2 => cases he
  rename_i x px' m apos ex pos' pos
  all_goals
    simp only [Bool.and_eq_true, Bool.not_eq_true', beq_iff_eq] at he
    obtain ⟨⟨⟨⟨hx, hdb⟩, rfl⟩, hline⟩, hex⟩ := he
    obtain ⟨h1, h2, h3⟩ := nameAt_of hks hx
    refine wpAny_Expr_any ?_ (by unfold interactive; rw [F.kind]; rfl) rfl
    have htr : backTo pos' (starEach [ex] env) = [(false, eval ex env)] := by rw [starEach_cons (encE_notStar hex)]; rfl
    refine wpAny_Call_append rfl (by rw [htr]; rfl) (by simpa using hline) htr ?_
    unfold appV at P
    split at P
    · rename_i xs w hv hw
      obtain ⟨v, n, z, a, vs, e0, l, hH, hfe, r⟩ := F.vals i x _ h1 hv
      subst e0
      refine wpAny_Name (n.load F.kind ⟨a, _, rfl, (let ⟨o, n', e', c1, d1, f1⟩ := l; ⟨o, n', e', c1, f1, d1⟩), ?_⟩) hdb
      have T := (pe_sound OK CO hfree e hex hks hm F hlen).v
      rw [hw] at T
      split at P
      · rename_i hlt
        refine T _ _ fun y s₁ k₁ r₁ => ?_
        have F₁ := F.kp k₁
        have l₁ := k₁.kh.isL l
        refine list_appendL (by rw [List.size_toArray, r.length]; exact line_ok (by omega)) l₁ fun h₂ l₂ hs₂ => P H _ ?_
        have F₂ := fm_own (xs' := xs ++ [w]) F₁ h1 hv (n.kh k₁.kh) l₁ hH hfe hs₂ l₂ (by simp; omega) (RepL.append (r.kp k₁) (by simp only [RepL]; exact ⟨r₁, trivial⟩))
        refine (Nx.of_kp F hlen k₁).trans ⟨⟨_, _, rfl⟩, fun b o e => ?_, fun _ z => .inl z, Kv.of_sameBut hs₂ hH, fun b o e nf => ?_, F₂, by simpa using hlen⟩
        · by_cases hb : b = a
          · obtain ⟨o', _, e', _⟩ := l₂; exact ⟨o', hb ▸ e'⟩
          · exact ⟨o, (hs₂.2 b hb).trans e⟩
        · by_cases hb : b = a
          · obtain ⟨o', _, e', _, d', _⟩ := l₂; exact ⟨o', hb ▸ e', fun vs z => by rw [d'] at z; cases z⟩
          · exact ⟨o, (hs₂.2 b hb).trans e, nf⟩
      · exact P.elim
    · exact P.elim

mutual
theorem px_sound : ∀ (p : PS) {q : Bool} {ks : List (Str × NameKind)} {ns : List Str} {ρ : List (Option Ent)} {st : Stmt} {env : Env}, encS frees fname ks ns p st = true → env.scope.names = ks → env.frame = some env.locals → StOk c q k ns env ρ (exec st env) (px O cal q ρ p)
  | .expr e, q, ks, ns, ρ, st, env, he, hks, hef => fun A s fe H hm hA F hlen Q E P => by
    simp only [encS] at he
    split at he
    case h_2 => cases he
    rename_i ex pos
    simp only [Bool.and_eq_true, Bool.not_eq_true'] at he
    simp only [px] at P
    have T := (pe_sound OK CO hfree e he.1 hks hm F hlen).v
    refine wpAny_Expr_any ?_ (by unfold interactive; rw [F.kind]; rfl) (swaps_no he.1 he.2 _ _ _)
    cases hv : (pe O cal q ρ e).v with
    | stuck => rw [hv] at P; exact P.elim
    | exc z => rw [hv] at P T; exact T _ _ ⟨P.1, fun x' s' X => P.2 H s x' s' (Nx.of_kp F hlen (Kp.refl _ _)) X⟩
    | ok v => rw [hv] at P T; exact T _ _ fun w s₁ k₁ r₁ => P _ _ (Nx.of_kp F hlen k₁)
  | .assign i o e, q, ks, ns, ρ, st, env, he, hks, hef => fun A s fe H hm hA F hlen Q E P => by
    simp only [encS] at he
    split at he
    case h_2 => cases he
    rename_i x px' ex pos
    all_goals
      simp only [Bool.and_eq_true] at he
      cases o with
      | false => simp only [px] at P; exact assign_val OK CO hfree hks hm F hlen he.1 he.2 P
      | true =>
        obtain ⟨xs, rfl⟩ : ∃ xs, e = .list xs := by
          cases e <;> first | exact ⟨_, rfl⟩ | (simp only [px] at P; exact P.elim)
        simp only [px] at P
        obtain ⟨h1, h2, h3⟩ := nameAt_of hks he.1
        have hex := he.2
        cases ex <;> simp only [encE, Bool.false_eq_true] at hex
        rename_i es pos'
        have I := pes_sound OK CO hfree xs hex hks hm F hlen
        simp only [pe, PR.of] at P
        cases hs : seqV (pes O cal q ρ xs) with
        | none => rw [hs] at P; exact P.elim
        | some l =>
          rw [hs] at P
          simp only [onSome] at P
          split at P
          · rename_i hl
            split at hl
            · rename_i hlen'
              cases hl
              refine wpAny_Assign_Name ?_ rfl
              refine wpAny_List_spliced (es_spliced I hs _ _ fun vs s₁ k₁ r₁ => ⟨by rw [r₁.length]; exact line_ok (by omega), ?_⟩)
              have F₁ := F.kp k₁
              refine nx_own F hlen (k₁.trans (Kp.push _)) h1 h3 h2 (by omega) (none_back k₁.kh (Heap.get?_none_of_le (Nat.le_refl _))) ⟨_, _, Heap.get?_push_size _ rfl, rfl, rfl, rfl⟩ ?_ fun H' s' N => P H' s' N
              refine RepL.mono (vis_new (Kh.of_keeps (F := fun _ => False) fun b o e => Heap.get?_push_of_some _ e) fun b z => z.imp id fun (z : b = s₁.heap.objs.size) => ?_) r₁
              rw [z]; exact Heap.get?_none_of_le (Nat.le_refl _)
            · cases hl
          · exact P.elim
  | .aug i op e, q, ks, ns, ρ, st, env, he, hks, hef => fun A s fe H hm hA F hlen Q E P => by
    simp only [encS] at he
    split at he
    case h_2 => cases he
    rename_i x px' op' ex pos
    simp only [Bool.and_eq_true, Bool.not_eq_true', beq_iff_eq] at he
    obtain ⟨⟨⟨hx, hdb⟩, rfl⟩, hex⟩ := he
    obtain ⟨h1, h2, h3⟩ := nameAt_of hks hx
    simp only [px] at P
    cases hn : (pe O cal q ρ (.name i)).v with
    | stuck => rw [hn] at P; exact P.elim
    | exc z => rw [hn] at P; exact P.elim
    | ok a =>
      cases hv : (pe O cal q ρ e).o with
      | stuck => rw [hn, hv] at P; exact P.elim
      | exc z => rw [hn, hv] at P; exact P.elim
      | ok b =>
        rw [hn, hv] at P
        dsimp only at P
        have hρ : ρ[i]? = some (some (.val a)) := by
          simp only [pe] at hn
          split at hn
          · rename_i v hv'; simp only [PR.of, Res.ok.injEq] at hn; rw [hv', hn]
          · cases hn
          · cases hn
        obtain ⟨v, nv, rv⟩ := F.vals i x _ h1 hρ
        have T := (pe_sound OK CO hfree e hex hks hm F hlen).o
        rw [hv] at T
        refine wpAny_AugAssign_Name (nv.load F.kind (T _ _ fun w s₁ k₁ r₁ => ?_))
        have rv' : Rep (vis s₁.heap H) v a := Rep.kp rv k₁
        have U := OK.inpl (op := op) (hm.kp k₁) (F.kp k₁).hlt (.of rv') r₁
        cases hi : O.inpl op a b with
        | stuck => rw [hi] at P; exact P.elim
        | exc z => rw [hi] at P U; exact U _ _ ⟨P.1, fun x' s' X => P.2 H s₁ x' s' (Nx.of_kp F hlen k₁) X⟩
        | ok r => rw [hi] at P U; exact U _ _ fun w' s₂ k₂ r₂ => nx_store F hlen (k₁.trans k₂) h1 h3 h2 r₂ fun H' s' N => P H' s' N
  | .append i e fz, q, ks, ns, ρ, st, env, he, hks, hef => fun A s fe H hm hA F hlen Q E P => by
    cases fz with
    | none => exact append_ok OK CO hfree he hks hm F hlen (by simpa only [px] using P)
    | some j =>
      simp only [px] at P
      split at P
      · rename_i ys hj
        obtain ⟨y, hy⟩ : ∃ y, ns[j]? = some y := by
          have : j < ρ.length := by
            rcases Nat.lt_or_ge j ρ.length with h | h
            · exact h
            · rw [List.getElem?_eq_none h] at hj; cases hj
          exact ⟨ns[j]'(by omega), by simp⟩
        obtain ⟨H', hH', F'⟩ := F.freeze hy hj
        have N : Nx c A ns env fe H (ρ.set j (some (.val (.lst ys)))) s H' s := ⟨⟨_, _, rfl⟩, fun b o e => ⟨o, e⟩, fun b z => .inl (hH' b z), Kv.refl _ _ _, fun b o e nf => ⟨o, e, nf⟩, F', by simpa using hlen⟩
        exact append_ok OK CO hfree (fz := some j) he hks hm F' N.len (P.nx N)
      · exact P.elim
  | .ite t a b, q, ks, ns, ρ, st, env, he, hks, hef => fun A s fe H hm hA F hlen Q E P => by
    simp only [encS] at he
    split at he
    case h_2 => cases he
    rename_i t' a' b' pos
    simp only [Bool.and_eq_true] at he
    obtain ⟨⟨h1, h2⟩, h3⟩ := he
    have T := (pe_sound OK CO hfree t h1 hks hm F hlen).t
    simp only [px] at P
    split at P
    · rename_i ht
      exact wpAny_If (T _ ht _ _ fun s₁ k₁ => pxs_sound a h2 hks hef A s₁ fe H (hm.kp k₁) hA (F.kp k₁) hlen Q E (P.nx (Nx.of_kp F hlen k₁)))
    · rename_i ht
      exact wpAny_If (T _ ht _ _ fun s₁ k₁ => pxs_sound b h3 hks hef A s₁ fe H (hm.kp k₁) hA (F.kp k₁) hlen Q E (P.nx (Nx.of_kp F hlen k₁)))
    · exact P.elim
  | .for_ i src body, q, ks, ns, ρ, st, env, he, hks, hef => fun A s fe H hm hA F hlen Q E P => by
    simp only [encS] at he
    split at he
    case h_2 => cases he
    rename_i x px' it body' pos
    all_goals
      simp only [Bool.and_eq_true] at he
      obtain ⟨⟨hx, h4⟩, h5⟩ := he
      obtain ⟨h1, h2, h3⟩ := nameAt_of hks hx
      simp only [px] at P
      cases q with
      | false => exact P.elim
      | true =>
        have T := (pe_sound OK CO hfree src h4 hks hm F hlen).v
        cases hv : (pe O cal true ρ src).v with
        | stuck => rw [hv] at P; exact P.elim
        | exc z => rw [hv] at P; exact P.elim
        | ok v =>
          rw [hv] at P T
          simp only at P
          split at P
          · rename_i l hi
            refine wpAny_For (T _ _ fun va s₁ k₁ r₁ => ?_) (encE_notSet h4 env)
            have F₁ := F.kp k₁
            have P₁ := P.nx (Nx.of_kp F hlen k₁)
            refine OK.items (hm.kp k₁) rfl F₁.hlt (.of r₁) hi _ _ fun I fp PP St h' tk hk hI hfI hl hfp hsz W hst hP => ?_
            have hIfe : fe.h.get? I = none := none_back F₁.keep hI
            have hHI : ¬ H I := fun z => by
              obtain ⟨o', e'⟩ := F₁.hlt I z
              rw [hI] at e'; cases e'
            have vnot : ∀ b, va = .ref b → ¬ H b ∧ ∃ o, s₁.heap.get? b = some o := fun b e => by
              subst e
              exact rep_not_hidden (OK.itemsR hi) r₁
            have kpI : Kp A s₁ { s₁ with heap := h', toks := tk } := ⟨h', tk, rfl, Kh.of_keeps hk⟩
            have N0 : Nx c A ns env fe H ρ s₁ H { s₁ with heap := h', toks := tk } := Nx.of_kp F₁ hlen kpI
            refine codeAny_forLoop (fun m s' => ∃ j ρ' H', m = l.length + 1 - j ∧ j ≤ l.length ∧ Nx c A ns env fe H ρ' s₁ H' s' ∧ ¬ H' I ∧ St j s'.heap ∧
              PostS c true A ns env fe H (forF (fun x ρ => pxs O cal true (ρ.set i (some (.val x))) body) (l.drop j) ρ') s₁ Q E) ?_ (l.length + 1)
              ⟨0, ρ, _, rfl, Nat.zero_le _, N0, hHI, hst, by simpa using P₁⟩
            rintro m s' ⟨j, ρ', H', rfl, hj, N, hHI', hst', P'⟩
            obtain ⟨oI, fsI, eI, dI, cI⟩ := W.fld j _ hst'
            obtain ⟨hs', ts', rfl⟩ := N.rest
            dsimp only at *
            by_cases hlt : j < l.length
            · obtain ⟨item, hitem⟩ : ∃ y, l[j]? = some y := ⟨l[j], by simp [hlt]⟩
              have hdrop : l.drop j = item :: l.drop (j + 1) := by
                rw [List.drop_eq_getElem_cons hlt]
                have : l[j] = item := by rw [List.getElem?_eq_getElem hlt] at hitem; exact Option.some.inj hitem
                rw [this]
              rw [hdrop] at P'
              simp only [forF] at P'
              refine W.item j _ _ _ hlt hst' fun vi h₂ tk₂ hPv hst₂ hk₂ hI₂ => ?_
              dsimp only
              have F₂ := N.fm.touchV (a := I) (h' := h₂) hk₂ hIfe eI dI cI hHI'
              obtain ⟨oI₂, fsI₂, eI₂, dI₂, cI₂⟩ := W.fld (j + 1) _ hst₂
              have N₂ : Nx c A ns env fe H ρ' s₁ H' { s₁ with heap := h₂, toks := tk₂ } := ⟨⟨_, _, rfl⟩, fun b o e => by
                  have hb : b ≠ I := fun z => by rw [z, hI] at e; cases e
                  obtain ⟨o', e'⟩ := N.lv b o e
                  exact ⟨o', hk₂ b o' hb e'⟩, N.hid, fun b o nb e => by
                  have hb : b ≠ I := fun z => by rw [z, hI] at e; cases e
                  obtain ⟨p1, sl, p2⟩ := N.kv b o nb e
                  exact ⟨fun f => hk₂ b _ hb (p1 f), sl, hk₂ b _ hb p2⟩, fun b o e nf => by
                  have hb : b ≠ I := fun z => by rw [z, hI] at e; cases e
                  obtain ⟨o', e', n'⟩ := N.nf b o e nf
                  exact ⟨o', hk₂ b o' hb e', n'⟩, F₂, N.len⟩
              have rit : Rep (vis h₂ H') vi item := by
                refine Rep.mono ?_ (hP j vi item hPv hitem)
                rintro b cc d ⟨nb, o, e, rr⟩
                obtain ⟨_, o₂, p2, rr₂⟩ := N₂.kv.vis (H := H) (fun _ z => z) b cc d ⟨nb, o, e, rr⟩
                refine ⟨fun z => ?_, o₂, p2, rr₂⟩
                rcases N.hid b z with z | z
                · exact nb z
                · rw [e] at z; cases z
              refine wpAny_assign_Name (nx_store (s := { s₁ with heap := h₂, toks := tk₂ }) F₂ N.len (Kp.refl _ _) h1 h3 h2 rit fun H₃ s₃ N₃ => ?_)
              have N13 := N₂.trans N₃
              have IH := pxs_sound body h5 hks hef (q := true) (ρ := ρ'.set i (some (.val item))) A s₃ fe H₃ ((hm.kp k₁).nf N13.nf) hA N13.fm N13.len
              have nextI : ∀ ρ₄ H₄ s₄, Nx c A ns env fe H₃ ρ₄ s₃ H₄ s₄ → PostS c true A ns env fe H (forF (fun x ρ => pxs O cal true (ρ.set i (some (.val x))) body) (l.drop (j + 1)) ρ₄) s₁ Q E →
                  ∃ m, m < l.length + 1 - j ∧ ∃ j ρ' H', m = l.length + 1 - j ∧ j ≤ l.length ∧ Nx c A ns env fe H ρ' s₁ H' s₄ ∧ ¬ H' I ∧ St j s₄.heap ∧
                    PostS c true A ns env fe H (forF (fun x ρ => pxs O cal true (ρ.set i (some (.val x))) body) (l.drop j) ρ') s₁ Q E := by
                intro ρ₄ H₄ s₄ N₄ P₄
                have N24 := N₃.trans N₄
                refine ⟨l.length + 1 - (j + 1), by omega, j + 1, ρ₄, H₄, rfl, hlt, N13.trans N₄, fun z => ?_, W.frame _ _ _ hst₂ fun b o hb e => ?_, P₄⟩
                · rcases N24.hid I z with z | z
                  · exact hHI' z
                  · dsimp only at z; rw [eI₂] at z; cases z
                · have nb : ¬ H' b := fun z => ?_
                  exact ⟨fun hf => (N24.kv b o nb e).1 (.inr hf), (N24.kv b o nb e).2⟩
                  rcases hfp b hb with rfl | hv'
                  · exact hHI' z
                  · obtain ⟨q1, o', q2⟩ := vnot b hv'
                    rcases N.hid b z with z | z
                    · exact q1 z
                    · rw [q2] at z; cases z
              cases hb : pxs O cal true (ρ'.set i (some (.val item))) body with
              | next ρ₄ => rw [hb] at IH P'; exact IH _ _ fun H₄ s₄ N₄ => nextI ρ₄ H₄ s₄ N₄ P'
              | cont ρ₄ => rw [hb] at IH P'; exact IH _ _ fun H₄ s₄ N₄ => nextI ρ₄ H₄ s₄ N₄ P'
              | brk ρ₄ => rw [hb] at IH P'; exact IH _ _ fun H₄ s₄ N₄ => P' _ _ (N13.trans N₄)
              | ret v => rw [hb] at IH P'; exact IH _ _ (P'.nx (fr := .ret v) N13)
              | exc _ _ => rw [hb] at P'; exact P'.elim
              | stuck => rw [hb] at P'; exact P'.elim
            · have hjl : j = l.length := by omega
              subst hjl
              rw [List.drop_length] at P'
              simp only [forF] at P'
              refine W.done _ _ _ hst' fun h₂ tk₂ hk₂ => ?_
              have F₂ := N.fm.touchV (a := I) (h' := h₂) hk₂ hIfe eI dI cI hHI'
              refine wpAny_execs_nil (P' H' _ ⟨⟨_, _, rfl⟩, fun b o e => ?_, N.hid, fun b o nb e => ?_, fun b o e nf => ?_, F₂, N.len⟩)
              · have hb : b ≠ I := fun z => by rw [z, hI] at e; cases e
                obtain ⟨o', e'⟩ := N.lv b o e
                exact ⟨o', hk₂ b o' hb e'⟩
              · have hb : b ≠ I := fun z => by rw [z, hI] at e; cases e
                obtain ⟨p1, sl, p2⟩ := N.kv b o nb e
                exact ⟨fun f => hk₂ b _ hb (p1 f), sl, hk₂ b _ hb p2⟩
              · have hb : b ≠ I := fun z => by rw [z, hI] at e; cases e
                obtain ⟨o', e', n'⟩ := N.nf b o e nf
                exact ⟨o', hk₂ b o' hb e', n'⟩
          · exact P.elim
  | .while_ n t body, q, ks, ns, ρ, st, env, he, hks, hef => fun A s fe H hm hA F hlen Q E P => by
    simp only [encS] at he
    split at he
    case h_2 => cases he
    rename_i t' body' pos
    all_goals
      simp only [Bool.and_eq_true] at he
      obtain ⟨h1, h2⟩ := he
      simp only [px] at P
      refine wpAny_While ?_
      refine codeAny_whileLoop (fun m s' => ∃ ρ' H', Nx c A ns env fe H ρ' s H' s' ∧ PostS c q A ns env fe H (whileF (fun ρ => (pe O cal q ρ t).t) (fun ρ => pxs O cal q ρ body) m ρ') s Q E) ?_ n ⟨ρ, H, Nx.of_kp F hlen (Kp.refl _ _), P⟩
      rintro m s' ⟨ρ', H', N, P'⟩
      cases m with
      | zero => exact P'.elim
      | succ m =>
        have hm' := hm.nf N.nf
        have T := (pe_sound OK CO hfree t h1 hks hm' N.fm N.len).t
        simp only [whileF] at P'
        cases ht : (pe O cal q ρ' t).t with
        | none => rw [ht] at P'; exact P'.elim
        | some b =>
          rw [ht] at P'
          refine T b ht _ _ fun s₁ k₁ => ?_
          have N₁ := N.trans (Nx.of_kp N.fm N.len k₁)
          cases b with
          | false =>
            simp only [Bool.false_eq_true, if_false]
            exact wpAny_execs_nil (P' _ _ N₁)
          | true =>
            simp only [if_true]
            refine pxs_sound body h2 hks hef A s₁ fe H' (hm'.kp k₁) hA (N.fm.kp k₁) N.len _ _ ?_
            dsimp only at P'
            cases hb : pxs O cal q ρ' body with
            | next ρ₂ => rw [hb] at P'; exact fun H₂ s₂ N₂ => ⟨m, by omega, ρ₂, H₂, N₁.trans N₂, P'⟩
            | cont ρ₂ => rw [hb] at P'; exact fun H₂ s₂ N₂ => ⟨m, by omega, ρ₂, H₂, N₁.trans N₂, P'⟩
            | brk ρ₂ => rw [hb] at P'; exact fun H₂ s₂ N₂ => P' _ _ (N₁.trans N₂)
            | ret v => rw [hb] at P'; exact (P'.nx (fr := .ret v) N₁)
            | exc _ _ => rw [hb] at P'; exact P'.elim
            | stuck => rw [hb] at P'; exact P'.elim
  | .ret e, q, ks, ns, ρ, st, env, he, hks, hef => fun A s fe H hm hA F hlen Q E P => by
    simp only [encS] at he
    split at he
    case h_2 => cases he
    rename_i ex pos
    simp only [px] at P
    have T := (pe_sound OK CO hfree e he hks hm F hlen).v
    refine wpAny_Return_some ?_
    cases hv : (pe O cal q ρ e).v with
    | stuck => rw [hv] at P; exact P.elim
    | exc z => rw [hv] at P T; exact T _ _ ⟨P.1, fun x' s' X => P.2 H s x' s' (Nx.of_kp F hlen (Kp.refl _ _)) X⟩
    | ok v => rw [hv] at P T; exact T _ _ fun w s₁ k₁ r₁ => P _ _ (F.rt k₁ r₁)
  | .retOwn i, q, ks, ns, ρ, st, env, he, hks, hef => fun A s fe H hm hA F hlen Q E P => by
    simp only [encS] at he
    split at he
    case h_2 => cases he
    rename_i x px' pos
    simp only [Bool.and_eq_true, Bool.not_eq_true', beq_iff_eq] at he
    simp only [px] at P
    split at P
    · rename_i xs hv
      obtain ⟨v, n, z, a, vs, e, l, hH, hfe, r⟩ := F.vals i x _ he.1 hv
      subst e
      refine wpAny_Return_some (wpAny_Name (n.load F.kind (P _ _ ⟨⟨_, _, rfl⟩, F.keep, ?_⟩)) he.2)
      simp only [Rep]
      obtain ⟨o, n', e', c1, d1, f1⟩ := l
      refine ⟨z, a, vs, n', rfl, ⟨fun y => ?_, o, e', c1, d1, f1, .inl rfl, fun ⟨_, z⟩ => by cases z⟩, RepL.mono (vis_hide F.hle) r⟩
      obtain ⟨o', e''⟩ := F.felt a y
      rw [hfe] at e''; cases e''
    · exact P.elim
  | .brk, q, ks, ns, ρ, st, env, he, hks, hef => fun A s fe H hm hA F hlen Q E P => by
    simp only [encS] at he
    split at he
    case h_2 => cases he
    exact wpAny_Break (P _ _ (Nx.of_kp F hlen (Kp.refl _ _)))
  | .cont, q, ks, ns, ρ, st, env, he, hks, hef => fun A s fe H hm hA F hlen Q E P => by
    simp only [encS] at he
    split at he
    case h_2 => cases he
    exact wpAny_Continue (P _ _ (Nx.of_kp F hlen (Kp.refl _ _)))
  | .pass, q, ks, ns, ρ, st, env, he, hks, hef => fun A s fe H hm hA F hlen Q E P => by
    simp only [encS] at he
    split at he
    case h_2 => cases he
    exact wpAny_Pass (P _ _ (Nx.of_kp F hlen (Kp.refl _ _)))
  | .try_ body hs, q, ks, ns, ρ, st, env, he, hks, hef => fun A s fe H hm hA F hlen Q E P => by
    simp only [encS] at he
    split at he
    case h_2 => cases he
    rename_i body' hs' pos
    all_goals
      simp only [Bool.and_eq_true] at he
      obtain ⟨⟨h1, h2⟩, h3⟩ := he
      simp only [px] at P
      cases q with
      | false => exact P.elim
      | true =>
        simp only at P
        obtain ⟨outer, hA'⟩ := id hA
        have IH := pxs_sound body h1 hks hef (q := true) (ρ := ρ) A s fe H hm hA F hlen
        cases hs' with
        | nil => simp at h3
        | cons h0 hr =>
          refine wpAny_Try_except ?_
          cases hb : pxs O cal true ρ body with
          | exc x ρ' =>
            rw [hb] at P IH
            refine IH _ _ ⟨rfl, fun H' sr e s' N X => ?_⟩
            obtain ⟨ea, a0, rfl, hkp, _⟩ := id X
            have hm' := hm.nf N.nf
            obtain ⟨l, hl, ff⟩ := (hm'.kp hkp).frames
            rw [hA'] at hl; cases hl
            exact note_land X hA' hef ff fun s₃ fl => phs_sound hs h2 hks hef hm' hA' N.fm N.len fl (P.nx N)
          | next ρ' => rw [hb] at P IH; exact IH _ _ fun H' s' N => wpAny_execs_nil (P _ _ N)
          | brk ρ' => rw [hb] at P IH; exact IH _ _ P
          | cont ρ' => rw [hb] at P IH; exact IH _ _ P
          | ret v => rw [hb] at P IH; exact IH _ _ P
          | stuck => rw [hb] at P; exact P.elim
theorem pxs_sound : ∀ (p : PSs) {q : Bool} {ks : List (Str × NameKind)} {ns : List Str} {ρ : List (Option Ent)} {st : List Stmt} {env : Env}, encSs frees fname ks ns p st = true → env.scope.names = ks → env.frame = some env.locals → StOk c q k ns env ρ (execs st env) (pxs O cal q ρ p)
  | .nil, q, ks, ns, ρ, st, env, he, hks, hef => fun A s fe H hm hA F hlen Q E P => by
    cases st with
    | cons _ _ => simp [encSs] at he
    | nil => simp only [pxs] at P; exact wpAny_execs_nil (P _ _ (Nx.of_kp F hlen (Kp.refl _ _)))
  | .cons p r, q, ks, ns, ρ, st, env, he, hks, hef => fun A s fe H hm hA F hlen Q E P => by
    cases st with
    | nil => simp [encSs] at he
    | cons st rest =>
      simp only [encSs, Bool.and_eq_true] at he
      refine wpAny_execs_cons (px_sound p he.1 hks hef A s fe H hm hA F hlen _ _ ?_)
      simp only [pxs] at P
      cases hp : px O cal q ρ p with
      | next ρ' => rw [hp] at P; exact fun H' s' N => pxs_sound r he.2 hks hef A s' fe H' (hm.nf N.nf) hA N.fm N.len Q E (P.nx N)
      | cont ρ' => rw [hp] at P; exact P
      | brk ρ' => rw [hp] at P; exact P
      | ret v => rw [hp] at P; exact P
      | exc x ρ' => rw [hp] at P; exact P
      | stuck => rw [hp] at P; exact P
theorem phs_sound : ∀ (p : PHs) {x : EX} {ks : List (Str × NameKind)} {ns : List Str} {ρ : List (Option Ent)} {hs : List ExceptHandler} {env : Env} {outer : List Env} {e : Addr} {A : Around} {s sr : Shared} {fe : FE} {H : Addr → Prop} {Q : Flow → Shared → Prop} {E : Value → Shared → Prop},
    encHs frees fname ks ns p hs = true → env.scope.names = ks → env.frame = some env.locals → Rm c true (k + 1) A sr.heap → A.frames = some (env :: outer) → Fm c (FrA A) ns env ρ fe H sr.heap → ρ.length = ns.length → Fly A (env :: outer) sr e x s →
    PostS c true A ns env fe H (phs O cal x ρ p) sr Q E → wpAny c.M A (handleBy (.ref e) env hs) Q E s
  | .nil, x, ks, ns, ρ, hs, env, outer, e, A, s, sr, fe, H, Q, E, he, hks, hef, hm, hA, F, hlen, fl, P => P.elim
  | .cons y body r, x, ks, ns, ρ, hs, env, outer, e, A, s, sr, fe, H, Q, E, he, hks, hef, hm, hA, F, hlen, fl, P => by
    simp only [encHs] at he
    split at he
    case h_2 => cases he
    rename_i z pz b₀ suite pos r'
    all_goals
      simp only [Bool.and_eq_true, beq_iff_eq, List.contains_iff_mem] at he
      obtain ⟨⟨⟨⟨h1, h2⟩, h3⟩, h4⟩, h5⟩ := he
      subst h1
      obtain ⟨g1, g2, g3⟩ := isGlob_of hks h2
      obtain ⟨B, a0, h, tk, hs0, hfl, kh, hB, hfr⟩ := id fl
      have kp : Kp A sr s := ⟨h, tk, hs0, kh⟩
      have Fs := F.kp kp
      have Fs' : Fm c (FrA (A.mark (some (.ref e)))) ns env ρ fe H s.heap := Fs
      have hfls : Heap.FlyingW B (env :: outer) e (.type x.name) a0 s.heap := by rw [hs0]; exact hfl
      have hBs : ∀ b o, s.heap.get? b = some o → (∃ o', sr.heap.get? b = some o') → b ∉ (env :: outer).filterMap (·.frame) → B.get? b = some o := by rw [hs0]; exact hB
      obtain ⟨ob, hob, hobc⟩ := hfls.there
      refine wpAny_handleBy_builtin (X := x.name) (T := y.name) (b := decide (x = y)) (EX.exc y) (EX.notTup y) (EX.sub x y) (ld_boot Fs' g1 g2 g3 (hfree _ h3) (EX.boot y) ⟨rfl, ⟨ob, hob, hobc⟩, ?_⟩)
      simp only [phs] at P
      by_cases hxy : x = y
      · rw [if_pos hxy] at P
        rw [if_pos (by simpa using hxy)]
        refine lands_againW hfls fun h₆ hfl₆ hsm₆ => ?_
        have kh₆ : Kh (FrA A) sr.heap h₆ := fly_kh kp hA hfls.2.2.1 hBs hfl₆.1 hsm₆
        have kp₆ : Kp A sr { s with heap := h₆ } := by rw [hs0]; exact ⟨h₆, tk, rfl, kh₆⟩
        have F₆ := F.kp kp₆
        have hm₆ := hm.kp kp₆
        have hmk : Rm c false (k + 1) (A.mark (some (.ref e))) h₆ := ⟨hm₆.depth, hm₆.units, fun q => by (cases q), hm₆.frames⟩
        have IH := pxs_sound body h4 hks hef (q := false) (ρ := ρ) (A.mark (some (.ref e))) { s with heap := h₆ } fe H hmk ⟨outer, hA⟩ F₆ hlen
        have Nk := Nx.of_kp F hlen kp₆
        have P' := P.nx Nk
        cases hb : pxs O cal false ρ body with
        | next ρ' => rw [hb] at P' IH; exact IH _ _ fun H' s' N => P' H' s' N.mark
        | brk ρ' => rw [hb] at P' IH; exact IH _ _ fun H' s' N => P' H' s' N.mark
        | cont ρ' => rw [hb] at P' IH; exact IH _ _ fun H' s' N => P' H' s' N.mark
        | ret v => rw [hb] at P' IH; exact IH _ _ fun w s' N => P' w s' N.mark
        | exc _ _ => rw [hb] at P'; exact P'.elim
        | stuck => rw [hb] at P'; exact P'.elim
      · rw [if_neg hxy] at P
        rw [if_neg (by simpa using hxy)]
        exact phs_sound r h5 hks hef hm hA F hlen fl P
end
end
end Mine
end
section
open PySem PySem.W PyProof.Rows
namespace Mine

theorem cellsFrom_keep : ∀ (names : List (Str × NameKind)) (n : Nat) (acc : List (Str × Addr)) (x : Str), (acc.lookup x).isSome = true → ((cellsFrom n names acc).lookup x).isSome = true
  | [], _, _, _, h => h
  | (m, kd) :: r, n, acc, x, h => by
    unfold cellsFrom
    split
    · refine cellsFrom_keep r _ _ x ?_
      rw [List.lookup_cons]
      cases hb : x == m with
      | true => rfl
      | false => exact h
    · exact cellsFrom_keep r _ _ x h
theorem cellsFrom_mem : ∀ (names : List (Str × NameKind)) (n : Nat) (acc : List (Str × Addr)) (x : Str), (x, NameKind.cell) ∈ names → ((cellsFrom n names acc).lookup x).isSome = true
  | [], _, _, _, h => by cases h
  | (m, kd) :: r, n, acc, x, h => by
    unfold cellsFrom
    rcases List.mem_cons.mp h with e | h
    · cases e
      rw [if_pos (by decide)]
      refine cellsFrom_keep r _ _ _ ?_
      simp [List.lookup_cons]
    · split
      · exact cellsFrom_mem r _ _ x h
      · exact cellsFrom_mem r _ _ x h

theorem bindL_out {kd : Str → Option NameKind} : ∀ (ns : List Str) (vs : List Value) (m : Str → Option Value) (x : Str), x ∉ ns → bindL kd (ns.zip vs) m x = m x
  | [], _, _, _, _ => rfl
  | _ :: _, [], _, _, _ => rfl
  | n :: ns, v :: vs, m, x, h => by
    simp only [List.zip_cons_cons, bindL]
    rw [bindL_out ns vs _ x fun q => h (List.mem_cons_of_mem _ q)]
    have : x ≠ n := fun q => h (q ▸ List.mem_cons_self ..)
    split <;> simp [this]
theorem bindL_in {kd : Str → Option NameKind} : ∀ (ns : List Str) (vs : List Value) (m : Str → Option Value) (i : Nat) (x : Str) (v : Value), ns.Nodup → ns[i]? = some x → vs[i]? = some v → kd x = some .local → bindL kd (ns.zip vs) m x = some v
  | [], _, _, _, _, _, _, h, _, _ => by simp at h
  | _ :: _, [], _, _, _, _, _, _, h, _ => by simp at h
  | n :: ns, w :: vs, m, i, x, v, nd, hx, hv, hk => by
    simp only [List.zip_cons_cons, bindL]
    cases i with
    | zero =>
      simp at hx hv
      subst hx; subst hv
      rw [bindL_out ns vs _ _ (List.nodup_cons.mp nd).1, if_pos hk]
      simp
    | succ i => simp at hx hv; exact bindL_in ns vs _ i x v (List.nodup_cons.mp nd).2 hx hv hk
theorem bindC_out {kd : Str → Option NameKind} : ∀ (ns : List Str) (vs : List Value) (m : Str → Option Value) (x : Str), x ∉ ns → bindC kd (ns.zip vs) m x = m x
  | [], _, _, _, _ => rfl
  | _ :: _, [], _, _, _ => rfl
  | n :: ns, v :: vs, m, x, h => by
    simp only [List.zip_cons_cons, bindC]
    rw [bindC_out ns vs _ x fun q => h (List.mem_cons_of_mem _ q)]
    have : x ≠ n := fun q => h (q ▸ List.mem_cons_self ..)
    split <;> simp [this]
theorem bindC_in {kd : Str → Option NameKind} : ∀ (ns : List Str) (vs : List Value) (m : Str → Option Value) (i : Nat) (x : Str) (v : Value), ns.Nodup → ns[i]? = some x → vs[i]? = some v → kd x ≠ some .local → bindC kd (ns.zip vs) m x = some v
  | [], _, _, _, _, _, _, h, _, _ => by simp at h
  | _ :: _, [], _, _, _, _, _, _, h, _ => by simp at h
  | n :: ns, w :: vs, m, i, x, v, nd, hx, hv, hk => by
    simp only [List.zip_cons_cons, bindC]
    cases i with
    | zero =>
      simp at hx hv
      subst hx; subst hv
      rw [bindC_out ns vs _ _ (List.nodup_cons.mp nd).1, if_neg hk]
      simp
    | succ i => simp at hx hv; exact bindC_in ns vs _ i x v (List.nodup_cons.mp nd).2 hx hv hk

/-- a def of the text -/
def FnIs (c : Cx) (f : Str) (params : Arguments) (body : List Stmt) (scope : Scope) : Prop :=
  ∃ a o pm code doc, c.mg f = some (.ref a) ∧ c.h0.get? a = some o ∧ o.data = .func (Calls.docDef f params body scope pm code doc) ∧ c.h0.CodeRec code f
theorem FnIs.obj {c : Cx} {f : Str} {params : Arguments} {body : List Stmt} {scope : Scope} (h : FnIs c f params body scope) : FnObj c f := let ⟨a, o, _, _, _, h1, h2, h3, _⟩ := h; ⟨a, o, _, h1, h2, h3⟩

def fnRes : FR → Res
  | .ret v => .ok v
  | .next _ => .ok .none
  | .exc x _ => .exc x
  | _ => .stuck
def rho0 (args : List AV) (n : Nat) : List (Option Ent) := args.map (fun a => some (.val a)) ++ List.replicate (n - args.length) none

/-- what is looked at of a def's text -/
def fnOk (frees : List Str) (fname : Nat → Str) (scope : Scope) (ns : List Str) (np : Nat) (p : PSs) (body : List Stmt) : Bool :=
  scope.kind == .function && !scope.isGenerator && !scope.isCoroutine && encSs frees fname scope.names ns p body && decide ((ns.take np).Nodup) && decide (np ≤ ns.length) && (ns.take np).all (fun x => scope.names.lookup x == some .local || scope.names.lookup x == some .cell)

section
variable {c : Cx} {O : OpsF} (OK : OpsOk c O) {k : Nat} {cal : Nat → List AV → Res} {fname : Nat → Str} (CO : CallsOk c k cal fname) {frees : List Str} (hfree : ∀ x ∈ frees, c.mg x = none)
include OK CO hfree

theorem code_of {f : Str} {params : Arguments} {body : List Stmt} {scope : Scope} {ns : List Str} {np : Nat} {p : PSs} {args : List AV} (hf : FnIs c f params body scope) (hok : fnOk frees fname scope ns np p body = true)
    (hbind : ∀ pm code doc vs, vs.length = np → bindArgs (Calls.docDef f params body scope pm code doc) ⟨vs, []⟩ = pure ((ns.take np).zip vs)) (hargs : args.length = np) :
    ∀ {A : Around} {s : Shared} {H : Addr → Prop} {vs : List Value} {a : Addr} {Q E : Value → Shared → Prop}, Rm c true (k + 2) A s.heap → c.h0.StaysIn s.heap → Live H s.heap → RepL (vis s.heap H) vs args → c.mg f = some (.ref a) →
      Post true A H (fnRes (pxs O cal true (rho0 args ns.length) p)) s Q E → codeAny c.M A (.call (.ref a) ⟨vs, []⟩) (fun r s' => match r with | .ok (.ret v) => Q v s' | .ok _ => False | .error e => E e s') s := by
  intro A s H vs a Q E hm hst hL hr hmg P
  obtain ⟨a', o, pm, code, doc, h1, h2, h3, h4⟩ := hf
  rw [hmg] at h1; cases h1
  simp only [fnOk, Bool.and_eq_true, beq_iff_eq, Bool.not_eq_true', decide_eq_true_eq, List.all_eq_true, Bool.or_eq_true] at hok
  obtain ⟨⟨⟨⟨⟨⟨k1, k2⟩, k3⟩, k4⟩, k5⟩, k6⟩, k7⟩ := hok
  have hvl : vs.length = np := by rw [hr.length, hargs]
  have hkind : ∀ x ∈ (ns.take np).zip vs, scope.names.lookup x.1 = some .local ∨ (scope.names.lookup x.1 = some .cell ∧ ((cellsFrom (s.heap.objs.size + 1) scope.names []).lookup x.1).isSome = true) := fun x hx => by
    rcases k7 x.1 (List.of_mem_zip hx).1 with h | h
    · exact .inl h
    · exact .inr ⟨h, cellsFrom_mem _ _ _ _ (mem_of_lookup h)⟩
  refine (call_cells (by have := hm.depth; omega) (hst a o h2) h3 (c.nolimit.keeps hst) (h4.keeps hst) (hbind pm code doc vs hvl) hkind (fun h₁ tk F₁ X₁ => ?_) k3 k2 k1)
  generalize hEnv : envOfC f scope s.heap.objs.size a code = env at F₁ X₁ ⊢
  have eL : env.locals = s.heap.objs.size := by rw [← hEnv]; rfl
  have eS : env.scope = scope := by rw [← hEnv]; rfl
  have eC : env.cells = cellsFrom (s.heap.objs.size + 1) scope.names [] := by rw [← hEnv]; rfl
  have eF : env.frame = some env.locals := by rw [← hEnv]; rfl
  have eG : env.globals = mainGlobals := by rw [← hEnv]; rfl
  have eB : env.builtins = builtinsNs := by rw [← hEnv]; rfl
  have eK : ∀ x, env.kindOf x = scope.names.lookup x := fun x => by show env.scope.names.lookup x = _; rw [eS]
  rw [← eC] at X₁
  rw [← eL] at F₁ X₁
  obtain ⟨l, hl, ff⟩ := hm.frames
  have dead : ∀ b, s.heap.objs.size ≤ b → s.heap.get? b = none := fun b hb => Heap.get?_none_of_le hb
  have deadL : s.heap.get? env.locals = none := dead _ (Nat.le_of_eq eL.symm)
  have deadC : ∀ x cc, env.cells.lookup x = some cc → s.heap.get? cc = none := fun x cc q => dead _ (by have := X₁.above x cc (mem_of_lookup q); rw [eL] at this; exact Nat.le_of_lt this)
  have h0L : c.h0.get? env.locals = none := by
    cases e : c.h0.get? env.locals with
    | none => rfl
    | some o' => have := hst _ _ e; rw [deadL] at this; cases this
  have hA' : (A.deeper env).frames = some (env :: l) := by show A.frames.map (env :: ·) = _; rw [hl]; rfl
  have ff' : h₁.FunFrames c.h0 (env :: l) := by
    refine ⟨by rw [eS, k1]; decide, ?_, (Kh.of_keeps (F := fun _ => False) F₁.keep).nf.frames ff⟩
    obtain ⟨oL, es, ep, e, d, _⟩ := F₁.ns
    exact ⟨env.locals, oL, eF, h0L, e, fun vs z => by rw [d] at z; cases z⟩
  have frs : ∀ b, FrA (A.deeper env) b → b = env.locals ∨ FrA A b := fun b ⟨l', e1, e2⟩ => by
    rw [hA'] at e1; cases e1
    rw [List.filterMap_cons, eF] at e2
    rcases List.mem_cons.mp e2 with e2 | e2
    · exact .inl e2
    · exact .inr ⟨l, hl, e2⟩
  have live : Live (fun b => H b ∨ b = env.locals ∨ ∃ x, env.cells.lookup x = some b) h₁ := fun b z => by
    rcases z with z | rfl | ⟨x, z⟩
    · obtain ⟨o', e⟩ := hL b z; exact ⟨o', F₁.keep b o' e⟩
    · obtain ⟨oL, es, ep, e, _⟩ := F₁.ns; exact ⟨oL, e⟩
    · obtain ⟨o', e, _⟩ := X₁.cell x b z; exact ⟨o', e⟩
  have hHN : ∀ b, (H b ∨ b = env.locals ∨ ∃ x, env.cells.lookup x = some b) → H b ∨ s.heap.get? b = none := fun b z => by
    rcases z with z | rfl | ⟨x, z⟩
    · exact .inl z
    · exact .inr deadL
    · exact .inr (deadC x b z)
  have hlen0 : (rho0 args ns.length).length = ns.length := by
    unfold rho0
    rw [List.length_append, List.length_map, List.length_replicate]
    omega
  have getv : ∀ (i : Nat) t, (rho0 args ns.length)[i]? = some (some t) → ∃ x, args[i]? = some x ∧ t = .val x := fun i t h => by
    unfold rho0 at h
    by_cases hi : i < args.length
    · rw [List.getElem?_append_left (by simpa using hi), List.getElem?_map] at h
      cases e : args[i]? with
      | none => rw [e] at h; cases h
      | some x => rw [e] at h; simp at h; exact ⟨x, rfl, h.symm⟩
    · rw [List.getElem?_append_right (by simpa using hi), List.getElem?_replicate] at h
      split at h <;> simp at h
  have F : Fm c (FrA (A.deeper env)) ns env (rho0 args ns.length) ⟨s.heap, H⟩ (fun b => H b ∨ b = env.locals ∨ ∃ x, env.cells.lookup x = some b) h₁ := {
    keep := Kh.of_keeps F₁.keep
    base := hst
    baseF := fun b z => by
      rcases frs b z with rfl | ⟨l', e1, e2⟩
      · exact h0L
      · rw [hl] at e1; cases e1
        exact (ff.mem e2).1
    hle := fun b z => .inl z
    hlt := live
    felt := hL
    kind := by rw [eS]; exact k1
    glob := eG
    bi := eB
    ns := ⟨_, F₁.ns⟩
    hl := .inr (.inl rfl)
    lnew := deadL
    hc := fun x cc _ q => ⟨.inr (.inr ⟨x, q⟩), deadC x cc q⟩
    cl := fun x q => by
      rw [eK] at q
      have := cellsFrom_mem scope.names (s.heap.objs.size + 1) [] x (mem_of_lookup q)
      rw [← eC] at this
      obtain ⟨cc, e⟩ := Option.isSome_iff_exists.mp this
      exact ⟨cc, _, e, X₁.cell x cc e⟩
    capart := fun x y cc h1 h2 => name_of_addr X₁.apart (mem_of_lookup h1) (mem_of_lookup h2)
    vals := fun i x t hx ht => by
      obtain ⟨av, hav, rfl⟩ := getv i t ht
      obtain ⟨v, hv, hrv⟩ := hr.get hav
      have hi : i < np := by
        rcases Nat.lt_or_ge i args.length with h | h
        · omega
        · rw [List.getElem?_eq_none h] at hav; cases hav
      have hx' : (ns.take np)[i]? = some x := by rw [List.getElem?_take, if_pos hi]; exact hx
      refine ⟨v, ?_, Rep.mono (vis_new (Kh.of_keeps (F := fun _ => False) F₁.keep) hHN) hrv⟩
      rcases k7 x (List.mem_of_getElem? hx') with hk | hk
      · exact .inl ⟨by rw [eK]; exact hk, _, F₁.ns, bindL_in _ _ _ i x v k5 hx' hv (by rw [eK]; exact hk)⟩
      · have := cellsFrom_mem scope.names (s.heap.objs.size + 1) [] x (mem_of_lookup hk)
        rw [← eC] at this
        obtain ⟨cc, e⟩ := Option.isSome_iff_exists.mp this
        have hcell := X₁.cell x cc e
        rw [bindC_in _ _ _ i x v k5 hx' hv (by rw [eK, hk]; decide)] at hcell
        exact .inr ⟨by rw [eK]; exact hk, cc, e, hcell⟩
    apart := fun i j x y xs ys v _ _ _ hr1 _ _ _ => by
      obtain ⟨av, _, e⟩ := getv i _ hr1
      cases e }
  have hm' : Rm c true (k + 1) (A.deeper env) h₁ := ⟨by have := hm.depth; show A.depth + 1 + (k + 1) < _; omega, by have := hm.units; show A.units + 3 + 8 * (k + 1) < _; omega, fun h => hm.hand h, ⟨_, hA', ff'⟩⟩
  have back : ∀ s', (∃ h' tk', s' = { s with heap := h', toks := tk' }) → Kh (FrA (A.deeper env)) s.heap s'.heap → Kp A s s' := fun s' ⟨h', tk', e⟩ kh => by
    subst e
    refine ⟨h', tk', rfl, kh.weaken fun b o e z => ?_⟩
    rcases frs b z with rfl | z
    · rw [deadL] at e; cases e
    · exact z
  have S := pxs_sound OK CO hfree p k4 (by rw [eS]) eF (q := true) (ρ := rho0 args ns.length) (A.deeper env) { s with heap := h₁, toks := tk } ⟨s.heap, H⟩ _ hm' ⟨l, hA'⟩ F hlen0
  cases hp : pxs O cal true (rho0 args ns.length) p with
  | ret v =>
    rw [hp] at S P
    exact S _ _ fun w s' R => P w s' (back s' R.1 R.2.1) R.2.2
  | next ρ' =>
    rw [hp] at S P
    exact S _ _ fun H' s' N => P _ s' (back s' N.rest N.fm.keep) (by simp [Rep])
  | exc x ρ' =>
    rw [hp] at S P
    refine S _ _ ⟨rfl, fun H' sr e s' N X => ?_⟩
    obtain ⟨ea, a0, rfl, hkp, hdead, _⟩ := id X
    obtain ⟨l', hl', ff2⟩ := ((hm'.nf N.nf).kp hkp).frames
    rw [hA'] at hl'; cases hl'
    show wpAny c.M (A.deeper env) (noteFrame (.ref ea) env >>= fun _ => setFlight (.ref ea) none) _ _ s'
    refine wpAny_bind (note_land X hA' eF ff2 fun s₃ fl => ?_)
    obtain ⟨B, a1, h₃, tk₃, hs₃, hfl, kh₃, hB, hfr⟩ := fl
    refine P.2 _ _ ⟨ea, a1, rfl, back s₃ ?_ ?_, none_back N.fm.keep hdead, .inr ?_⟩
    · obtain ⟨hr', tr', er⟩ := N.rest
      exact ⟨h₃, tk₃, by rw [hs₃, er]⟩
    · rw [hs₃]; exact N.fm.keep.trans kh₃
    · obtain ⟨_, _, _, oe, ws, T, oT, ts, he, hcl, hd, h1', hT, hTe, hoT, hdT, h3'⟩ := hfl
      rw [hs₃]
      refine ⟨oe, ws, T, oT, ts, he, hcl, hd, h1', ?_, hTe, hoT, hdT, h3'⟩
      cases e : s.heap.get? T with
      | none => rfl
      | some o' =>
        exfalso
        obtain ⟨sl, e2⟩ := (N.fm.keep T o' e).2
        by_cases hTf : T ∈ (env :: l).filterMap (·.frame)
        · obtain ⟨o2, e3, nf⟩ := hfr T hTf
          rw [hoT] at e3; cases e3
          exact nf _ hdT
        · have := hB T oT hoT ⟨_, e2⟩ hTf
          rw [hT] at this; cases this
  | brk _ => rw [hp] at P; exact P.elim
  | cont _ => rw [hp] at P; exact P.elim
  | stuck => rw [hp] at P; exact P.elim

theorem calls_of {f : Str} {params : Arguments} {body : List Stmt} {scope : Scope} {ns : List Str} {np : Nat} {p : PSs} {args : List AV} (hf : FnIs c f params body scope) (hok : fnOk frees fname scope ns np p body = true)
    (hbind : ∀ pm code doc vs, vs.length = np → bindArgs (Calls.docDef f params body scope pm code doc) ⟨vs, []⟩ = pure ((ns.take np).zip vs)) (hargs : args.length = np) :
    Calls c (k + 2) f args (fnRes (pxs O cal true (rho0 args ns.length) p)) := by
  intro q A s H vs a hq hm hst hL hr hmg
  subst hq
  exact fun Q E P => wpAny_call (code_of OK CO hfree hf hok hbind hargs hm hst hL hr hmg P)
end
end Mine
end
section
open PySem PySem.W PyProof.Rows
namespace Mine
set_option maxRecDepth 100000

section
variable {c : Cx} {q : Bool} {k : Nat} {A : Around} {s : Shared} {H : Addr → Prop} {Q : Value → Shared → Prop} {E : Value → Shared → Prop}
theorem post_int {i : Int} (P : Post q A H (.ok (.int i)) s Q E) : (Made.int i).post Q s := P _ _ Kp.toks ⟨_, rfl⟩
theorem post_float {i : UInt64} (P : Post q A H (.ok (.float i)) s Q E) : (Made.float i).post Q s := P _ _ Kp.toks ⟨_, rfl⟩
theorem post_bool {b : Bool} (P : Post q A H (.ok (.bool b)) s Q E) : Q (.bool b) s := P _ _ (Kp.refl _ _) rfl
theorem post_raise {cls : EX} (hm : Rm c q k A s.heap) (P : Post q A H (.exc cls) s Q E) {Q' : Value → Shared → Prop} : raisesNew cls.name A (wants Q' E) s := by
  refine ⟨hm.hand P.1, fun h' tk e n => ?_⟩
  obtain ⟨ob, t, h1, h2, h3⟩ := n.there
  exact P.2 _ _ ⟨e, t, rfl, Kp.of n.keeps, n.new, .inl ⟨ob, h1, h2, h3⟩⟩
end

def mulOk (a b : Int) : Bool := !(decide (Builtin.Int.intBits a > shortFactorBits) && decide (Builtin.Int.intBits b > shortFactorBits) && Builtin.Int.intTooBig (Builtin.Int.intBits a + Builtin.Int.intBits b))
theorem mulOk_iff {a b : Int} : mulOk a b = true ↔ IntMulOk a b := by
  unfold mulOk IntMulOk
  cases (decide (Builtin.Int.intBits a > shortFactorBits) && decide (Builtin.Int.intBits b > shortFactorBits) && Builtin.Int.intTooBig (Builtin.Int.intBits a + Builtin.Int.intBits b)) <;> simp

def frac (a b : Int) : UInt64 := Float64.ofFrac (decide (a < 0) != decide (b < 0)) a.natAbs b.natAbs

def intBin (op : Operator) (a b : Int) : Res := match op with
  | .Add => .ok (.int (a + b))
  | .Sub => .ok (.int (a - b))
  | .Mult => if mulOk a b = true then .ok (.int (a * b)) else .stuck
  | .FloorDiv => if (b == 0) = true then .exc .zde else if Builtin.divisionGoesByPylong a b = true then .stuck else .ok (.int (a.fdiv b))
  | .Mod => if (b == 0) = true then .exc .zde else .ok (.int (a.fmod b))
  | .Div => if (b == 0) = true then .exc .zde else if Float64.isInf (frac a b) = true then .exc .ofe else .ok (.float (frac a b))
  | .Pow => if b ≥ 0 then (if (b == 0) = true then .ok (.int 1) else if (a == 0 || a == 1) = true then .ok (.int a) else if (a == -1) = true then .ok (.int (if (b % 2 == 0) = true then 1 else -1))
      else if Builtin.Int.intTooBig (((Builtin.Int.intBits a : Nat) : Int) * b) = true then .stuck else .ok (.int (a ^ b.toNat))) else .stuck
  | _ => .stuck
def floatBin (op : Operator) (a b : UInt64) : Res := match op with
  | .Add => .ok (.float (Float64.add a b))
  | .Sub => .ok (.float (Float64.sub a b))
  | .Mult => .ok (.float (Float64.mul a b))
  | .Div => if Float64.isZero b = true then .exc .zde else .ok (.float (Float64.div a b))
  | _ => .stuck
def fiBin (op : Operator) (a : UInt64) (b : Int) : Res :=
  if Float64.isInf (Float64.ofInt b) = true then (match op with | .Add | .Sub | .Mult | .Div => .exc .ofe | _ => .stuck) else match op with
  | .Add => .ok (.float (Float64.add a (Float64.ofInt b)))
  | .Sub => .ok (.float (Float64.sub a (Float64.ofInt b)))
  | .Mult => .ok (.float (Float64.mul a (Float64.ofInt b)))
  | .Div => if Float64.isZero (Float64.ofInt b) = true then .exc .zde else .ok (.float (Float64.div a (Float64.ofInt b)))
  | _ => .stuck
def ifBin (op : Operator) (b : Int) (a : UInt64) : Res :=
  if Float64.isInf (Float64.ofInt b) = true then (match op with | .Add | .Sub | .Mult | .Div => .exc .ofe | _ => .stuck) else match op with
  | .Add => .ok (.float (Float64.add (Float64.ofInt b) a))
  | .Sub => .ok (.float (Float64.sub (Float64.ofInt b) a))
  | .Mult => .ok (.float (Float64.mul (Float64.ofInt b) a))
  | .Div => if Float64.isZero a = true then .exc .zde else .ok (.float (Float64.div (Float64.ofInt b) a))
  | _ => .stuck

section
variable {c : Cx} {q : Bool} {k : Nat} {A : Around} {s : Shared} {H : Addr → Prop}

theorem intBin_ok {op : Operator} {a b : Int} {t u : Tok} (hm : Rm c q k A s.heap) : Tr c q A H (binaryOp op (.int a t) (.int b u)) (intBin op a b) s := by
  intro Q E P
  cases op <;> simp only [intBin] at P <;> try exact P.elim
  · exact AutoIntOps.add_0 (post_int P)
  · exact AutoIntOps.sub_0 (post_int P)
  · split at P
    · rename_i h; exact AutoIntOps.mul_0 (post_int P) (mulOk_iff.mp h)
    · exact P.elim
  · refine AutoIntOpsIf.truediv ?_
    by_cases h : (b == 0) = true
    · rw [if_pos h] at P ⊢; exact post_raise hm P
    · rw [if_neg h] at P ⊢
      by_cases h2 : Float64.isInf (frac a b) = true
      · rw [if_pos h2] at P; rw [if_pos (by exact h2)]; exact post_raise hm P
      · rw [if_neg h2] at P; rw [if_neg (by exact h2)]; exact post_float P
  · refine AutoIntOpsIf.mod ?_
    split at P
    · rename_i h; rw [if_pos h]; exact post_raise hm P
    · rename_i h; rw [if_neg h]; exact post_int P
  · refine AutoIntOpsIf.pow ?_
    split at P
    · rename_i h; rw [if_pos h]
      split at P
      · rename_i h; rw [if_pos h]; exact post_int P
      · rename_i h; rw [if_neg h]
        split at P
        · rename_i h; rw [if_pos h]; exact post_int P
        · rename_i h; rw [if_neg h]
          split at P
          · rename_i h; rw [if_pos h]; exact post_int P
          · rename_i h; rw [if_neg h]
            split at P
            · exact P.elim
            · rename_i h; rw [if_neg h]; exact post_int P
    · exact P.elim
  · refine AutoIntOpsIf.floordiv ?_
    split at P
    · rename_i h; rw [if_pos h]; exact post_raise hm P
    · rename_i h; rw [if_neg h]
      split at P
      · exact P.elim
      · rename_i h; rw [if_neg h]; exact post_int P

theorem floatBin_ok {op : Operator} {a b : UInt64} {t u : Tok} (hm : Rm c q k A s.heap) : Tr c q A H (binaryOp op (.float a t) (.float b u)) (floatBin op a b) s := by
  intro Q E P
  cases op <;> simp only [floatBin] at P <;> try exact P.elim
  · exact AutoFloatOps.add_0 (post_float P)
  · exact AutoFloatOps.sub_0 (post_float P)
  · exact AutoFloatOps.mul_0 (post_float P)
  · split at P
    · rename_i h; exact AutoFloatOps.truediv_0 h (post_raise hm P)
    · rename_i h; exact AutoFloatOps.truediv_1 h (post_float P)
theorem fiBin_ok {op : Operator} {a : UInt64} {b : Int} {t u : Tok} (hm : Rm c q k A s.heap) : Tr c q A H (binaryOp op (.float a t) (.int b u)) (fiBin op a b) s := by
  intro Q E P
  unfold fiBin at P
  split at P
  · rename_i h
    cases op <;> simp only at P <;> try exact P.elim
    · exact AutoFloatOps.add_fi_0 h (post_raise hm P)
    · exact AutoFloatOps.sub_fi_0 h (post_raise hm P)
    · exact AutoFloatOps.mul_fi_0 h (post_raise hm P)
    · exact AutoFloatOps.truediv_fi_0 h (post_raise hm P)
  · rename_i h
    cases op <;> simp only at P <;> try exact P.elim
    · exact AutoFloatOps.add_fi_1 h (post_float P)
    · exact AutoFloatOps.sub_fi_1 h (post_float P)
    · exact AutoFloatOps.mul_fi_1 h (post_float P)
    · split at P
      · rename_i h'; exact AutoFloatOps.truediv_fi_1 h h' (post_raise hm P)
      · rename_i h'; exact AutoFloatOps.truediv_fi_2 h h' (post_float P)
theorem ifBin_ok {op : Operator} {a : UInt64} {b : Int} {t u : Tok} (hm : Rm c q k A s.heap) : Tr c q A H (binaryOp op (.int b u) (.float a t)) (ifBin op b a) s := by
  intro Q E P
  unfold ifBin at P
  split at P
  · rename_i h
    cases op <;> simp only at P <;> try exact P.elim
    · exact AutoFloatOps.add_if_0 h (post_raise hm P)
    · exact AutoFloatOps.sub_if_0 h (post_raise hm P)
    · exact AutoFloatOps.mul_if_0 h (post_raise hm P)
    · exact AutoFloatOps.truediv_if_0 h (post_raise hm P)
  · rename_i h
    cases op <;> simp only at P <;> try exact P.elim
    · exact AutoFloatOps.add_if_1 h (post_float P)
    · exact AutoFloatOps.sub_if_1 h (post_float P)
    · exact AutoFloatOps.mul_if_1 h (post_float P)
    · split at P
      · rename_i h'; exact AutoFloatOps.truediv_if_1 h h' (post_raise hm P)
      · rename_i h'; exact AutoFloatOps.truediv_if_2 h h' (post_float P)
end

/- in place: Div alone -/
section
variable {c : Cx} {q : Bool} {k : Nat} {A : Around} {s : Shared} {H : Addr → Prop}
theorem intDiv_ok {a b : Int} {t u : Tok} (hm : Rm c q k A s.heap) : Tr c q A H (inplaceOp .Div (.int a t) (.int b u)) (intBin .Div a b) s := by
  intro Q E P
  simp only [intBin] at P
  refine AutoIntOpsIf.itruediv ?_
  by_cases h : (b == 0) = true
  · rw [if_pos h] at P ⊢; exact post_raise hm P
  · rw [if_neg h] at P ⊢
    by_cases h2 : Float64.isInf (frac a b) = true
    · rw [if_pos h2] at P; rw [if_pos (by exact h2)]; exact post_raise hm P
    · rw [if_neg h2] at P; rw [if_neg (by exact h2)]; exact post_float P
theorem floatDiv_ok {a b : UInt64} {t u : Tok} (hm : Rm c q k A s.heap) : Tr c q A H (inplaceOp .Div (.float a t) (.float b u)) (floatBin .Div a b) s := by
  intro Q E P
  simp only [floatBin] at P
  split at P
  · rename_i h; exact AutoFloatOps.itruediv_0 h (post_raise hm P)
  · rename_i h; exact AutoFloatOps.itruediv_1 h (post_float P)
theorem fiDiv_ok {a : UInt64} {b : Int} {t u : Tok} (hm : Rm c q k A s.heap) : Tr c q A H (inplaceOp .Div (.float a t) (.int b u)) (fiBin .Div a b) s := by
  intro Q E P
  unfold fiBin at P
  split at P
  · rename_i h; exact Flt.itruediv_fi_0 h (post_raise hm P)
  · rename_i h
    simp only at P
    split at P
    · rename_i h'; exact Flt.itruediv_fi_1 h h' (post_raise hm P)
    · rename_i h'; exact Flt.itruediv_fi_2 h h' (post_float P)
theorem ifDiv_ok {a : UInt64} {b : Int} {t u : Tok} (hm : Rm c q k A s.heap) : Tr c q A H (inplaceOp .Div (.int b u) (.float a t)) (ifBin .Div b a) s := by
  intro Q E P
  unfold ifBin at P
  split at P
  · rename_i h; exact Flt.itruediv_if_0 h (post_raise hm P)
  · rename_i h
    simp only at P
    split at P
    · rename_i h'; exact Flt.itruediv_if_1 h h' (post_raise hm P)
    · rename_i h'; exact Flt.itruediv_if_2 h h' (post_float P)

theorem same_reflected_int_bool_truediv : reflectedDiffers (.type "int") (.type "bool") "truediv" = pure false := by
  unfold reflectedDiffers
  show (typeLookup (.type "bool") (dunderR "truediv") >>= fun rb => typeLookup (.type "int") (dunderR "truediv") >>= fun ra => pure (rb.isSome && rb != ra)) = pure false
  rw [typeLookup_type, typeLookup_type, builtinLookup_eq_fast]; kernel_rfl
theorem fills_bool_truediv : fillsNumberSlot (.type "bool") "truediv" = pure true := by kernel_rfl
def b2i (b : Bool) : Int := if b = true then 1 else 0
theorem ibDiv_ok {a : Int} {b : Bool} {t : Tok} (hm : Rm c q k A s.heap) : Tr c q A H (inplaceOp .Div (.int a t) (.bool b)) (intBin .Div a (b2i b)) s := by
  intro Q E P
  simp only [intBin] at P
  refine wpAny_inplaceOp_sub (op := .Div) (by decide) (typeIs_int s a t) rfl F.noI_int_truediv F.fills_int_truediv fills_bool_truediv isSubtype_bool_int same_reflected_int_bool_truediv F.slot_int_truediv ?_
  by_cases h : (b2i b == 0) = true
  · rw [if_pos h] at P
    exact call_meets F.slot_int_truediv (typeIs_int s a t) F.entry_int_truediv (F.args_int_truediv_2 _ _) (AutoIntR2.int___truediv___int_bool_0 a t b h) (post_raise hm P)
  · rw [if_neg h] at P
    by_cases h2 : Float64.isInf (frac a (b2i b)) = true
    · rw [if_pos h2] at P
      exact call_meets F.slot_int_truediv (typeIs_int s a t) F.entry_int_truediv (F.args_int_truediv_2 _ _) (AutoIntR0.int___truediv___int_bool_1 a t b h h2) (post_raise hm P)
    · rw [if_neg h2] at P
      exact call_gives F.slot_int_truediv (typeIs_int s a t) F.entry_int_truediv (F.args_int_truediv_2 _ _) (AutoIntG2.int___truediv___int_bool_2 a t b h h2) (Made.post_and trivial (post_float P))
end

/- comparing -/
def intCmp (op : CmpOp) (a b : Int) : Option Bool := match op with
  | .Eq => some (a == b)
  | .NotEq => some (a != b)
  | .Lt => some (decide (a < b))
  | .LtE => some (decide (a ≤ b))
  | .Gt => some (decide (a > b))
  | .GtE => some (decide (a ≥ b))
  | _ => none
def floatCmp (op : CmpOp) (a b : UInt64) : Option Bool := match op with
  | .Eq => some (Float64.cmp a b == some Ordering.eq)
  | .NotEq => some (Float64.cmp a b != some Ordering.eq)
  | _ => none
def fiCmp (op : CmpOp) (a : UInt64) (b : Int) : Option Bool := match op with
  | .Eq => some (Float64.cmpInt a b == some Ordering.eq)
  | .NotEq => some (Float64.cmpInt a b != some Ordering.eq)
  | _ => none
section
variable {c : Cx} {q : Bool} {k : Nat} {A : Around} {s : Shared} {H : Addr → Prop}
theorem intCmp_ok {op : CmpOp} {a b : Int} {t u : Tok} {r : Bool} (h : intCmp op a b = some r) : Tr c q A H (compareOp op (.int a t) (.int b u)) (.ok (.bool r)) s := by
  intro Q E P
  cases op <;> simp only [intCmp, Option.some.injEq, reduceCtorEq] at h <;> subst h
  · exact PySem.P.eq_int (post_bool P)
  · exact PySem.P.ne_int (post_bool P)
  · exact PySem.P.lt_int (post_bool P)
  · exact PySem.P.le_int (post_bool P)
  · exact PySem.P.gt_int (post_bool P)
  · exact PySem.P.ge_int (post_bool P)
theorem floatCmp_ok {op : CmpOp} {a b : UInt64} {t u : Tok} {r : Bool} (h : floatCmp op a b = some r) : Tr c q A H (compareOp op (.float a t) (.float b u)) (.ok (.bool r)) s := by
  intro Q E P
  cases op <;> simp only [floatCmp, Option.some.injEq, reduceCtorEq] at h <;> subst h
  · exact AutoFloatOps.eq_0 (post_bool P)
  · exact AutoFloatOps.ne_0 (post_bool P)
theorem fiCmp_ok {op : CmpOp} {a : UInt64} {b : Int} {t u : Tok} {r : Bool} (h : fiCmp op a b = some r) : Tr c q A H (compareOp op (.float a t) (.int b u)) (.ok (.bool r)) s := by
  intro Q E P
  cases op <;> simp only [fiCmp, Option.some.injEq, reduceCtorEq] at h <;> subst h
  · exact eq_fi (post_bool P)
  · exact ne_fi (post_bool P)
theorem ifCmp_ok {op : CmpOp} {a : UInt64} {b : Int} {t u : Tok} {r : Bool} (h : fiCmp op a b = some r) : Tr c q A H (compareOp op (.int b u) (.float a t)) (.ok (.bool r)) s := by
  intro Q E P
  cases op <;> simp only [fiCmp, Option.some.injEq, reduceCtorEq] at h <;> subst h
  · exact eq_if (post_bool P)
  · exact ne_if (post_bool P)
def plainCmp (op : CmpOp) (e : Bool) : Option Bool := match op with
  | .Is => some e
  | .IsNot => some (!e)
  | _ => none
theorem plainCmp_ok {op : CmpOp} {a b : Value} {r : Bool} (hp : plainIs a b = true) (h : plainCmp op (a == b) = some r) : Tr c q A H (compareOp op a b) (.ok (.bool r)) s := by
  intro Q E P
  cases op <;> simp only [plainCmp, Option.some.injEq, reduceCtorEq] at h <;> subst h
  · exact wpAny_is_plain hp (post_bool P)
  · exact wpAny_isNot_plain hp (post_bool P)
end
end Mine
end
section
open PySem PySem.W PyProof.Rows
namespace Mine
set_option maxRecDepth 100000

def asPart : AV → Option (Option Int)
  | .none => some none
  | .int i => some (some i)
  | _ => none
theorem asPart_ok {R : Vw} {v : Value} {x : AV} {p : Option Int} (h : asPart x = some p) (r : Rep R v x) : IsPart v p := by
  cases x <;> simp only [asPart, reduceCtorEq, Option.some.injEq] at h
  · subst h; simp only [Rep] at r; subst r; exact .none
  · subst h; simp only [Rep] at r; obtain ⟨t, rfl⟩ := r; exact .int _ _

def pickL (xs : List AV) (lo hi st : Option Int) : List AV :=
  (sliceRange (sliceBounds lo hi st xs.length).1 (sliceBounds lo hi st xs.length).2.1 (sliceBounds lo hi st xs.length).2.2).filterMap (xs[·]?)

theorem RepL.pick {R : Vw} {vs : List Value} {xs : List AV} (r : RepL R vs xs) : ∀ is : List Nat, RepL R (is.filterMap (vs[·]?)) (is.filterMap (xs[·]?))
  | [] => by simp [RepL]
  | i :: is => by
    cases hx : xs[i]? with
    | none =>
      have hv : vs[i]? = none := by rw [List.getElem?_eq_none_iff] at hx ⊢; rw [r.length]; exact hx
      simp only [List.filterMap_cons, hx, hv]
      exact RepL.pick r is
    | some x =>
      obtain ⟨v, hv, q⟩ := r.get hx
      simp only [List.filterMap_cons, hx, hv, RepL]
      exact ⟨q, RepL.pick r is⟩

theorem IsL.typeIs {s : Shared} {a : Addr} {vs : List Value} (x : IsL s.heap a vs) : s.TypeIs (.ref a) "list" := x.isList.typeIs

def ints? : List AV → Option (List Int)
  | [] => some []
  | .int i :: r => (ints? r).map (i :: ·)
  | _ :: _ => none

theorem ints_items {R : Vw} : ∀ {xs : List AV} {vs : List Value} {ns : List Int}, ints? xs = some ns → RepL R vs xs → ∃ ps : List (Int × Tok), vs.toArray = intItems ps.toArray ∧ ps.map (·.1) = ns
  | [], [], ns, h, _ => by simp [ints?] at h; subst h; exact ⟨[], by simp [intItems], rfl⟩
  | [], _ :: _, _, _, r => by simp [RepL] at r
  | _ :: _, [], _, _, r => by simp [RepL] at r
  | x :: xs, v :: vs, ns, h, r => by
    simp only [RepL] at r
    cases x <;> simp only [ints?, reduceCtorEq, Option.map_eq_some_iff] at h
    rename_i i
    obtain ⟨ms, h, rfl⟩ := h
    obtain ⟨ps, e1, e2⟩ := ints_items h r.2
    obtain ⟨r1, _⟩ := r
    simp only [Rep] at r1
    obtain ⟨t, rfl⟩ := r1
    refine ⟨(i, t) :: ps, ?_, by simp [e2]⟩
    have e3 : vs = ps.map fun p => Value.int p.1 p.2 := by have := congrArg Array.toList e1; simpa [intItems] using this
    rw [e3]; simp [intItems]

/-- the greatest of a row -/
def maxI : List Int → Option Int
  | [] => none
  | [a] => some a
  | a :: r => (maxI r).map fun m => if m > a then m else a
def minI : List Int → Option Int
  | [] => none
  | [a] => some a
  | a :: r => (minI r).map fun m => if m < a then m else a
theorem maxI_of {m : Int} : ∀ {l : List Int}, m ∈ l → (∀ x ∈ l, x ≤ m) → maxI l = some m
  | [], h, _ => by cases h
  | [a], h, _ => by simp at h; subst h; rfl
  | a :: b :: r, h, k => by
    show (maxI (b :: r)).map _ = _
    by_cases hb : m ∈ b :: r
    · rw [maxI_of hb fun x hx => k x (List.mem_cons_of_mem _ hx)]
      have := k a (List.mem_cons_self ..)
      show some (if m > a then m else a) = some m
      split <;> congr 1 <;> omega
    · have ha : m = a := (List.mem_cons.mp h).resolve_right hb
      subst ha
      have : ∃ y, maxI (b :: r) = some y ∧ y ≤ m := by
        have : ∀ l : List Int, l ≠ [] → ∃ y, maxI l = some y ∧ y ∈ l := by
          intro l
          induction l with
          | nil => intro h; exact absurd rfl h
          | cons a l ih =>
            intro _
            cases l with
            | nil => exact ⟨a, rfl, by simp⟩
            | cons b l =>
              obtain ⟨y, e, h⟩ := ih (by simp)
              refine ⟨if y > a then y else a, by show (maxI (b :: l)).map _ = _; rw [e]; rfl, ?_⟩
              split
              · exact List.mem_cons_of_mem _ h
              · exact List.mem_cons_self ..
        obtain ⟨y, e, h⟩ := this (b :: r) (by simp)
        exact ⟨y, e, k y (List.mem_cons_of_mem _ h)⟩
      obtain ⟨y, e, hy⟩ := this
      rw [e]
      show some (if y > m then y else m) = some m
      rw [if_neg (by omega)]
theorem minI_neg : ∀ l : List Int, minI l = (maxI (l.map (- ·))).map (- ·)
  | [] => rfl
  | [a] => by simp [minI, maxI]
  | a :: b :: r => by
    show (minI (b :: r)).map _ = ((maxI ((b :: r).map (- ·))).map _).map _
    rw [minI_neg (b :: r)]
    cases maxI ((b :: r).map (- ·)) with
    | none => rfl
    | some y => simp only [Option.map_some]; congr 1; split <;> split <;> omega
theorem minI_of {m : Int} {l : List Int} (h : m ∈ l) (k : ∀ x ∈ l, m ≤ x) : minI l = some m := by
  rw [minI_neg, maxI_of (m := -m) (List.mem_map.mpr ⟨m, h, rfl⟩) (fun x hx => by obtain ⟨y, hy, rfl⟩ := List.mem_map.mp hx; have := k y hy; omega)]
  simp

theorem numAt_list (ps : List (Int × Tok)) (i : Nat) (h : i < ps.length) : numAt ps.toArray i = (ps[i]).1 := by simp [numAt, h]

section
variable {c : Cx} {q : Bool} {k : Nat} {A : Around} {s : Shared} {H : Addr → Prop}
theorem best_max {ps : List (Int × Tok)} {v : Value} (hne : 0 < ps.length) (h : (intItems ps.toArray)[argBest (fun i j => decide (numAt ps.toArray i > numAt ps.toArray j)) (ps.toArray.size - 1)]? = some v) :
    ∃ m t, v = .int m t ∧ maxI (ps.map (·.1)) = some m := by
  obtain ⟨h1, h2⟩ := argBest_gt (numAt ps.toArray) (ps.toArray.size - 1)
  generalize argBest (fun i j => decide (numAt ps.toArray i > numAt ps.toArray j)) (ps.toArray.size - 1) = b at h h1 h2
  simp only [List.size_toArray] at h1 h2
  have hb : b < ps.length := by omega
  refine ⟨(ps[b]).1, (ps[b]).2, ?_, maxI_of (List.mem_map.mpr ⟨ps[b], List.getElem_mem _, rfl⟩) fun x hx => ?_⟩
  · simp [intItems, hb] at h; exact h.symm
  · obtain ⟨p, hp, rfl⟩ := List.mem_map.mp hx
    obtain ⟨j, hj, rfl⟩ := List.mem_iff_getElem.mp hp
    have := h2 j (by omega)
    rw [numAt_list ps j hj, numAt_list ps b hb] at this
    exact this
theorem best_min {ps : List (Int × Tok)} {v : Value} (hne : 0 < ps.length) (h : (intItems ps.toArray)[argBest (fun i j => decide (numAt ps.toArray i < numAt ps.toArray j)) (ps.toArray.size - 1)]? = some v) :
    ∃ m t, v = .int m t ∧ minI (ps.map (·.1)) = some m := by
  obtain ⟨h1, h2⟩ := argBest_lt (numAt ps.toArray) (ps.toArray.size - 1)
  generalize argBest (fun i j => decide (numAt ps.toArray i < numAt ps.toArray j)) (ps.toArray.size - 1) = b at h h1 h2
  simp only [List.size_toArray] at h1 h2
  have hb : b < ps.length := by omega
  refine ⟨(ps[b]).1, (ps[b]).2, ?_, minI_of (List.mem_map.mpr ⟨ps[b], List.getElem_mem _, rfl⟩) fun x hx => ?_⟩
  · simp [intItems, hb] at h; exact h.symm
  · obtain ⟨p, hp, rfl⟩ := List.mem_map.mp hx
    obtain ⟨j, hj, rfl⟩ := List.mem_iff_getElem.mp hp
    have := h2 j (by omega)
    rw [numAt_list ps j hj, numAt_list ps b hb] at this
    exact this

/-- two lists behind each other -/
theorem lists_add {l b : Addr} {vs ws : List Value} {xs ys : List AV} (hL : Live H s.heap) (hl : IsL s.heap l vs) (hb : IsL s.heap b ws) (hx : RepL (vis s.heap H) vs xs) (hy : RepL (vis s.heap H) ws ys) (hz : xs.length + ys.length ≤ 1048576) :
    Tr c q A H (binaryOp .Add (.ref l) (.ref b)) (.ok (.lst (xs ++ ys))) s := by
  intro Q E P
  obtain ⟨⟨cls, dd, data, sl⟩, n, ho, hc, hd, _⟩ := id hl
  obtain ⟨⟨cls2, dd2, data2, sl2⟩, n2, ho2, hc2, hd2, _⟩ := id hb
  simp only at hc hd hc2 hd2
  subst hc hd hc2 hd2
  have e : vs.toArray ++ ws.toArray = (vs ++ ws).toArray := by simp
  refine concat_meets ⟨_, ho, rfl⟩ ⟨_, ho2, rfl⟩ noFill_list_add seq_list_add PySem.F.slot_list_add PySem.F.entry_list_add (PySem.F.args_list_add_2 _ _) (list_addW l b vs.toArray ws.toArray n n2 dd dd2 sl sl2 (by simp [hx.length, hy.length]; exact line_ok hz)) ⟨ho, ho2, ?_⟩
  rw [e]
  exact P _ _ (Kp.push _) (rep_fresh_list hL (by simpa using hz) (hx.append hy))

def idxL (xs : List AV) (i : Int) : Res :=
  if 0 ≤ i then (match xs[i.toNat]? with | some x => .ok x | none => .stuck) else if -(xs.length : Int) ≤ i then (match xs[(i + xs.length).toNat]? with | some x => .ok x | none => .stuck) else .stuck
theorem idxL_ok {l : Addr} {vs : List Value} {xs : List AV} {i : Int} {t : Tok} (hl : IsL s.heap l vs) (hz : xs.length ≤ 1048576) (r : RepL (vis s.heap H) vs xs) : Tr c q A H (getItem (.ref l) (.int i t)) (idxL xs i) s := by
  intro Q E P
  unfold idxL at P
  by_cases h0 : 0 ≤ i
  · rw [if_pos h0] at P
    cases hx : xs[i.toNat]? with
    | none => rw [hx] at P; exact P.elim
    | some x =>
      rw [hx] at P
      obtain ⟨v, hv, rv⟩ := r.get hx
      have : i.toNat < xs.length := by obtain ⟨h, _⟩ := List.getElem?_eq_some_iff.mp hx; exact h
      exact wpAny_getItem_list hl.isList h0 (by omega) (x := v) (by simpa using hv) (P _ _ (Kp.refl _ _) rv)
  · rw [if_neg h0] at P
    by_cases h1 : -(xs.length : Int) ≤ i
    · rw [if_pos h1] at P
      cases hx : xs[(i + xs.length).toNat]? with
      | none => rw [hx] at P; exact P.elim
      | some x =>
        rw [hx] at P
        obtain ⟨v, hv, rv⟩ := r.get hx
        exact wpAny_getItem_list_neg hl.isList (by omega) (by simpa [r.length] using h1) (by omega) (x := v) (by simpa [r.length] using hv) (P _ _ (Kp.refl _ _) rv)
    · rw [if_neg h1] at P; exact P.elim

def sliceL (xs : List AV) (a b z : AV) : Res := match asPart a, asPart b, asPart z with
  | some lo, some hi, some st => if st = some 0 then .stuck else .ok (.lst (pickL xs lo hi st))
  | _, _, _ => .stuck
theorem sliceL_ok {l r : Addr} {vs : List Value} {xs : List AV} {x y z : AV} {ux uy uz : Value} (hL : Live H s.heap) (hl : IsL s.heap l vs) (hz : xs.length ≤ 1048576) (rr : RepL (vis s.heap H) vs xs) (h1 : Rep (vis s.heap H) ux x) (h2 : Rep (vis s.heap H) uy y) (h3 : Rep (vis s.heap H) uz z)
    (hr : s.heap.get? r = some { cls := .type "slice", data := .fields #[ux, uy, uz] }) : Tr c q A H (getItem (.ref l) (.ref r)) (sliceL xs x y z) s := by
  intro Q E P
  unfold sliceL at P
  cases e1 : asPart x with
  | none => rw [e1] at P; exact P.elim
  | some lo =>
    cases e2 : asPart y with
    | none => rw [e1, e2] at P; exact P.elim
    | some hi =>
      cases e3 : asPart z with
      | none => rw [e1, e2, e3] at P; exact P.elim
      | some st =>
        rw [e1, e2, e3] at P
        simp only at P
        by_cases h0 : st = some 0
        · rw [if_pos h0] at P; exact P.elim
        · rw [if_neg h0] at P
          refine wpAny_getItem_list_slice hl.isList ⟨_, hr, rfl, rfl⟩ (asPart_ok e1 h1) (asPart_ok e2 h2) (asPart_ok e3 h3) h0 ?_ (by simp [rr.length]; exact line_ok hz)
          have e : slicePick vs.toArray lo hi st = ((sliceRange (sliceBounds lo hi st xs.length).1 (sliceBounds lo hi st xs.length).2.1 (sliceBounds lo hi st xs.length).2.2).filterMap (vs[·]?)).toArray := by
            unfold slicePick; simp [rr.length]
          have hsz := slicePick_size_le vs.toArray lo hi st
          rw [e]
          rw [e] at hsz
          have rp := rr.pick (sliceRange (sliceBounds lo hi st xs.length).1 (sliceBounds lo hi st xs.length).2.1 (sliceBounds lo hi st xs.length).2.2)
          refine P _ _ (Kp.push _) (rep_fresh_list hL ?_ rp)
          have := rp.length
          simp only [List.size_toArray, rr.length] at hsz
          show (List.filterMap _ _).length ≤ _
          rw [← this]; omega
end
end Mine
end
section
open PySem PySem.W PyProof.Rows
namespace Mine
set_option maxRecDepth 100000

def rangeL (a b s : Int) : List AV := (List.range (Builtin.Range.rangeSize a b s).toNat).map fun (i : Nat) => .int (a + i * s)

def itemsV : AV → Option (List AV)
  | .lst xs => some xs
  | .tup xs => some xs
  | .range a b s => if Builtin.Range.small a b s = true then (if (Builtin.Range.rangeSize a b s).toNat ≤ 1048576 then some (rangeL a b s) else none) else none
  | _ => none

section
variable {c : Cx} {A : Around}
theorem itr_list (hh : A.handled = none) {I l : Addr} {vs : List Value} (hI : l ≠ I) : Itr c A I (fun b => b = I ∨ b = l) (fun i v => vs[i]? = some v) vs.length (fun i h => h.IsListIter I l i ∧ h.IsList l vs.toArray) where
  fld := fun i h ⟨⟨o, e, hc, hd⟩, _⟩ => ⟨o, _, e, hd, by rw [hc]; unfold okC; decide⟩
  frame := fun i h h' ⟨⟨o, e, hc, hd⟩, ⟨o2, e2, hc2, n, hd2⟩⟩ fr => by
    refine ⟨⟨o, (fr I o (.inl rfl) e).1 ⟨_, hd⟩, hc, hd⟩, ?_⟩
    obtain ⟨sl, e3⟩ := (fr l o2 (.inr rfl) e2).2
    exact ⟨_, e3, hc2, n, hd2⟩
  item := fun i s Q E hi ⟨hit, hl⟩ h => by
    refine wpAny_pyNext_list_item hit hl (x := vs[i]) (by simp [hi]) fun h' hit' sb => ?_
    exact h _ h' s.toks (by simp [hi]) ⟨hit', hl.extBut (fun b o hb e => (sb.2 b hb).trans e) hI⟩ (fun b o hb e => (sb.2 b hb).trans e) (let ⟨o, e, _⟩ := hit'; ⟨o, e⟩)
  done := fun s Q E ⟨hit, hl⟩ h => wpAny_pyNext_list_end hh hit hl (by simp) fun h' eb => h h' s.toks fun b o hb e => eb b o hb e
  self := fun i s Q E ⟨hit, _⟩ h => wpAny_pyIter_listiter hit h

theorem itr_tup (hh : A.handled = none) {I l : Addr} {vs : List Value} (hI : l ≠ I) : Itr c A I (fun b => b = I ∨ b = l) (fun i v => vs[i]? = some v) vs.length (fun i h => h.IsTupleIter I l i ∧ h.IsTuple l vs.toArray) where
  fld := fun i h ⟨⟨o, e, hc, hd⟩, _⟩ => ⟨o, _, e, hd, by rw [hc]; unfold okC; decide⟩
  frame := fun i h h' ⟨⟨o, e, hc, hd⟩, ⟨o2, e2, hc2, n, hd2⟩⟩ fr => by
    refine ⟨⟨o, (fr I o (.inl rfl) e).1 ⟨_, hd⟩, hc, hd⟩, ?_⟩
    obtain ⟨sl, e3⟩ := (fr l o2 (.inr rfl) e2).2
    exact ⟨_, e3, hc2, n, hd2⟩
  item := fun i s Q E hi ⟨hit, hl⟩ h => by
    refine wpAny_pyNext_tuple_item hit hl (x := vs[i]) (by simp [hi]) fun h' hit' sb => ?_
    exact h _ h' s.toks (by simp [hi]) ⟨hit', hl.extBut (fun b o hb e => (sb.2 b hb).trans e) hI⟩ (fun b o hb e => (sb.2 b hb).trans e) (let ⟨o, e, _⟩ := hit'; ⟨o, e⟩)
  done := fun s Q E ⟨hit, hl⟩ h => wpAny_pyNext_tuple_end hh hit hl (by simp) fun h' eb => h h' s.toks fun b o hb e => eb b o hb e
  self := fun i s Q E ⟨hit, _⟩ h => wpAny_pyIter_tupleiter hit h

theorem itr_range (hh : A.handled = none) {I : Addr} {a b st : Int} (hs : 0 ≤ Builtin.Range.rangeSize a b st) : Itr c A I (fun b => b = I) (fun i v => ∃ t, v = .int (a + i * st) t) (Builtin.Range.rangeSize a b st).toNat
    (fun i h => IsRangeIter h I (a + i * st) (Builtin.Range.rangeSize a b st - i) st) where
  fld := fun i h hit => ⟨_, _, hit, rfl, by show ¬ okC (.type "range_iterator"); unfold okC; decide⟩
  frame := fun i h h' hit fr => (fr I _ rfl hit).1 ⟨_, rfl⟩
  item := fun i s Q E hi hit h => by
    refine wpAny_pyNext_range_item hit (by omega) fun h' hit' sb => ?_
    refine h _ h' (s.toks + 1) ⟨_, rfl⟩ ?_ (fun b o hb e => (sb.2 b hb).trans e) ⟨_, hit'⟩
    have e1 : a + (i : Int) * st + st = a + ((i + 1 : Nat) : Int) * st := by rw [Int.natCast_add, Int.add_mul]; omega
    have e2 : Builtin.Range.rangeSize a b st - (i : Int) - 1 = Builtin.Range.rangeSize a b st - ((i + 1 : Nat) : Int) := by omega
    rw [e1, e2] at hit'
    exact hit'
  done := fun s Q E hit h => wpAny_pyNext_range_end hh hit (by omega) fun h' eb => h h' s.toks fun b o hb e => eb b o hb e
  self := fun i s Q E hit h => wpAny_pyIter_rangeiter hit h

theorem rangeSize_nonneg (a b s : Int) : 0 ≤ Builtin.Range.rangeSize a b s := by
  unfold Builtin.Range.rangeSize
  split
  · split
    · exact Int.add_nonneg (Int.ediv_nonneg (by omega) (by omega)) (by omega)
    · omega
  · split
    · exact Int.add_nonneg (Int.ediv_nonneg (by omega) (by omega)) (by omega)
    · omega

theorem itemsV_ref {a : AV} {xs : List AV} (h : itemsV a = some xs) : ∀ b, a ≠ .ref b := by
  rintro b rfl
  simp [itemsV] at h

theorem itemsV_ok {q : Bool} {k : Nat} {s : Shared} {H : Addr → Prop} {a : AV} {va : Value} {xs : List AV} (hm : Rm c q (k + 1) A s.heap) (hq : q = true) (r : RepO s.heap H va a) (h : itemsV a = some xs) (Q E : Value → Shared → Prop)
    (K : ∀ I fp P St h' tk, (∀ b o, s.heap.get? b = some o → h'.get? b = some o) → s.heap.get? I = none → fp I → (∀ b, fp b → ∃ o, h'.get? b = some o) → (∀ b, fp b → b = I ∨ va = .ref b) → xs.length ≤ 1048576 → Itr c A I fp P xs.length St → St 0 h' →
      (∀ (i : Nat) v x, P i v → xs[i]? = some x → Rep (vis s.heap H) v x) → Q (.ref I) { s with heap := h', toks := tk }) : wpAny c.M A (pyIter va) Q E s := by
  have hh := hm.hand hq
  cases a <;> simp only [itemsV, reduceCtorEq] at h
  · rename_i a b st
    by_cases hsm : Builtin.Range.small a b st = true
    case neg => rw [if_neg hsm] at h; cases h
    rw [if_pos hsm] at h
    by_cases hsz : (Builtin.Range.rangeSize a b st).toNat ≤ 1048576
    case neg => rw [if_neg hsz] at h; cases h
    rw [if_pos hsz] at h
    cases h
    simp only [RepO, Rep] at r
    obtain ⟨r, ta, tb, ts, rfl, _, o, e, hc, hd, hdi, _, hsl⟩ := r
    have hr : IsRange s.heap r a b st ta tb ts := by
      show s.heap.get? r = _
      rw [e]; obtain ⟨c', d', da', sl'⟩ := o
      simp only at hc hd hdi hsl
      rw [hc, hd, hdi, hsl ⟨_, rfl⟩]
    refine wpAny_pyIter_range hr hsm ?_
    refine K s.heap.objs.size (fun b => b = s.heap.objs.size) (fun i v => ∃ t, v = .int (a + i * st) t) (fun i h => IsRangeIter h s.heap.objs.size (a + i * st) (Builtin.Range.rangeSize a b st - i) st) _ s.toks (fun b o e => Heap.get?_push_of_some _ e) (Heap.get?_none_of_le (Nat.le_refl _)) rfl (fun b hb => by subst hb; exact ⟨_, Heap.get?_push_size _ rfl⟩) (fun b hb => .inl hb) (by simpa [rangeL] using hsz)
      (by simp only [rangeL, List.length_map, List.length_range]; exact itr_range hh (rangeSize_nonneg a b st)) ?_ ?_
    · simp only [Int.natCast_zero, Int.zero_mul, Int.add_zero, Int.sub_zero]
      exact Heap.get?_push_size _ rfl
    · rintro i v x ⟨t, rfl⟩ hx
      simp only [rangeL, List.getElem?_map, Option.map_eq_some_iff] at hx
      obtain ⟨j, hj, rfl⟩ := hx
      obtain ⟨hj1, hj2⟩ := List.getElem?_eq_some_iff.mp hj
      simp at hj2
      subst hj2
      exact ⟨t, rfl⟩
  · cases h
    simp only [RepO, Rep] at r
    obtain ⟨hz, l, vs, n, rfl, ⟨_, o, e, hc, hd, _⟩, rl⟩ := r
    have ht : s.heap.IsTuple l vs.toArray := ⟨o, e, hc, n, hd⟩
    have hlt := Heap.lt_size e
    refine wpAny_pyIter_tuple ht ?_
    refine K s.heap.objs.size (fun b => b = s.heap.objs.size ∨ b = l) (fun i v => vs[i]? = some v) (fun i h => h.IsTupleIter s.heap.objs.size l i ∧ h.IsTuple l vs.toArray) _ s.toks (fun b o e => Heap.get?_push_of_some _ e) (Heap.get?_none_of_le (Nat.le_refl _)) (.inl rfl) (fun b hb => ?_) (fun b hb => hb.imp id fun x => by rw [x]) hz
      (by rw [← rl.length]; exact itr_tup hh (l := l) (vs := vs) (Nat.ne_of_lt hlt)) ⟨⟨_, Heap.get?_push_size _ rfl, rfl, rfl⟩, ht.push _⟩ ?_
    · rcases hb with rfl | rfl
      · exact ⟨_, Heap.get?_push_size _ rfl⟩
      · exact ⟨o, Heap.get?_push_of_some _ e⟩
    · intro i v x hv hx
      obtain ⟨v', hv', rv⟩ := rl.get hx
      rw [hv] at hv'; cases hv'; exact rv
  · cases h
    simp only [RepO] at r
    obtain ⟨hz, l, vs, rfl, hl, rl⟩ := r
    obtain ⟨o, n, e, hc, hd, _⟩ := id hl
    have hlt := Heap.lt_size e
    refine wpAny_pyIter_list hl.isList ?_
    refine K s.heap.objs.size (fun b => b = s.heap.objs.size ∨ b = l) (fun i v => vs[i]? = some v) (fun i h => h.IsListIter s.heap.objs.size l i ∧ h.IsList l vs.toArray) _ s.toks (fun b o e => Heap.get?_push_of_some _ e) (Heap.get?_none_of_le (Nat.le_refl _)) (.inl rfl) (fun b hb => ?_) (fun b hb => hb.imp id fun x => by rw [x]) hz
      (by rw [← rl.length]; exact itr_list hh (l := l) (vs := vs) (Nat.ne_of_lt hlt)) ⟨⟨_, Heap.get?_push_size _ rfl, rfl, rfl⟩, hl.isList.push _⟩ ?_
    · rcases hb with rfl | rfl
      · exact ⟨_, Heap.get?_push_size _ rfl⟩
      · exact ⟨o, Heap.get?_push_of_some _ e⟩
    · intro i v x hv hx
      obtain ⟨v', hv', rv⟩ := rl.get hx
      rw [hv] at hv'; cases hv'; exact rv
end

/- the built-ins' calls -/
def tyName : AV → Option String
  | .none => some "NoneType"
  | .bool _ => some "bool"
  | .int _ => some "int"
  | .float _ => some "float"
  | .str _ => some "str"
  | .bytes _ => some "bytes"
  | .lst _ => some "list"
  | .tup _ => some "tuple"
  | .range _ _ _ => some "range"
  | _ => none
theorem tyName_ok {s : Shared} {H : Addr → Prop} {v : Value} {x : AV} {T : String} (h : tyName x = some T) (r : RepO s.heap H v x) : s.TypeIs v T := by
  cases x <;> simp only [tyName, reduceCtorEq, Option.some.injEq] at h <;> subst h <;> simp only [RepO, Rep] at r
  · subst r; rfl
  · subst r; rfl
  · obtain ⟨t, rfl⟩ := r; rfl
  · obtain ⟨t, rfl⟩ := r; rfl
  · obtain ⟨t, rfl⟩ := r; rfl
  · obtain ⟨t, rfl⟩ := r; rfl
  · obtain ⟨r, ta, tb, ts, rfl, _, o, e, hc, _⟩ := r; exact ⟨o, e, hc⟩
  · obtain ⟨_, l, vs, n, rfl, ⟨_, o, e, hc, _⟩, _⟩ := r; exact ⟨o, e, hc⟩
  · obtain ⟨_, l, vs, rfl, hl, _⟩ := r; exact hl.typeIs

theorem tyName_nb {x : AV} {T : String} (h : tyName x = some T) : (Value.type T == Value.type "builtin_function_or_method") = false := by
  cases x <;> simp only [tyName, reduceCtorEq, Option.some.injEq] at h <;> subst h <;> decide

def callB (f : BI) (xs : List AV) : Res := match f, xs with
  | .len, [.lst ys] => .ok (.int ys.length)
  | .sum, [.lst ys] => (match ints? ys with | some ns => .ok (.int ns.sum) | none => .stuck)
  | .abs, [.int a] => .ok (.int (if a < 0 then -a else a))
  | .range, [.int n] => .ok (.range 0 n 1)
  | .range, [.int a, .int b] => .ok (.range a b 1)
  | .max, [.lst ys] => (match ints? ys with | some ns => (match maxI ns with | some m => .ok (.int m) | none => .stuck) | none => .stuck)
  | .min, [.lst ys] => (match ints? ys with | some ns => (match minI ns with | some m => .ok (.int m) | none => .stuck) | none => .stuck)
  | .type, [x] => (match tyName x with | some T => .ok (.type T) | none => .stuck)
  | _, _ => .stuck

theorem repOL1 {h : Heap} {H : Addr → Prop} {vs : List Value} {x : AV} (r : RepOL h H vs [x]) : ∃ v, vs = [v] ∧ RepO h H v x := by
  cases vs with
  | nil => exact r.elim
  | cons v vs => cases vs with
    | nil => exact ⟨v, rfl, r.1⟩
    | cons => exact r.2.elim
theorem repOL2 {h : Heap} {H : Addr → Prop} {vs : List Value} {x y : AV} (r : RepOL h H vs [x, y]) : ∃ v w, vs = [v, w] ∧ RepO h H v x ∧ RepO h H w y := by
  cases vs with
  | nil => exact r.elim
  | cons v vs =>
    obtain ⟨w, rfl, q⟩ := repOL1 r.2
    exact ⟨v, w, rfl, r.1, q⟩

theorem rep_fresh_range {H : Addr → Prop} {s : Shared} {a b st : Int} {t u v : Tok} (hL : Live H s.heap) :
    Rep (vis (s.heap.push { cls := .type "range", data := .fields #[.int a t, .int b u, .int st v] }) H) (.ref s.heap.objs.size) (.range a b st) := by
  simp only [Rep]
  exact ⟨_, t, u, v, rfl, hL.fresh, _, Heap.get?_push_size _ rfl, rfl, rfl, rfl, .inr (.inr rfl), fun _ => rfl⟩

section
variable {c : Cx} {q : Bool} {k : Nat} {A : Around} {s : Shared} {H : Addr → Prop} {Q E : Value → Shared → Prop}
theorem call_sum_ok {l : Addr} {vs : List Value} {xs : List AV} {ns : List Int} (hh : A.handled = none) (hl : IsL s.heap l vs) (rl : RepL (vis s.heap H) vs xs) (hn : ints? xs = some ns) (P : Post q A H (.ok (.int ns.sum)) s Q E) :
    wpAny c.M A (PySem.call (.builtin "sum") [.ref l]) Q E s := by
  obtain ⟨ps, e1, e2⟩ := ints_items hn rl
  have hl' := hl.isList
  rw [e1] at hl'
  refine sum_intListG hh hl' fun h' tk t' kp => ?_
  rw [preSum_eq, List.take_of_length_le (by simp)]
  have e3 : (ps.toArray.toList.map (·.1)).sum = ns.sum := by rw [← e2]
  rw [e3]
  exact P _ _ (Kp.of kp) ⟨t', rfl⟩
theorem call_max_ok {l : Addr} {vs : List Value} {xs : List AV} {ns : List Int} {m : Int} (hh : A.handled = none) (hl : IsL s.heap l vs) (rl : RepL (vis s.heap H) vs xs) (hn : ints? xs = some ns) (hx : maxI ns = some m) (P : Post q A H (.ok (.int m)) s Q E) :
    wpAny c.M A (PySem.call (.builtin "max") [.ref l]) Q E s := by
  obtain ⟨ps, e1, e2⟩ := ints_items hn rl
  have hl' := hl.isList
  rw [e1] at hl'
  have hne : 0 < ps.length := by
    cases ps with
    | nil => subst e2; cases hx
    | cons => simp
  refine max_intList hh hl' (by simpa using hne) fun v h' tk hv kp => ?_
  obtain ⟨m', t, rfl, hm'⟩ := best_max hne hv
  rw [e2, hx] at hm'; cases hm'
  exact P _ _ (Kp.of kp) ⟨t, rfl⟩
theorem call_min_ok {l : Addr} {vs : List Value} {xs : List AV} {ns : List Int} {m : Int} (hh : A.handled = none) (hl : IsL s.heap l vs) (rl : RepL (vis s.heap H) vs xs) (hn : ints? xs = some ns) (hx : minI ns = some m) (P : Post q A H (.ok (.int m)) s Q E) :
    wpAny c.M A (PySem.call (.builtin "min") [.ref l]) Q E s := by
  obtain ⟨ps, e1, e2⟩ := ints_items hn rl
  have hl' := hl.isList
  rw [e1] at hl'
  have hne : 0 < ps.length := by
    cases ps with
    | nil => subst e2; cases hx
    | cons => simp
  refine min_intList hh hl' (by simpa using hne) fun v h' tk hv kp => ?_
  obtain ⟨m', t, rfl, hm'⟩ := best_min hne hv
  rw [e2, hx] at hm'; cases hm'
  exact P _ _ (Kp.of kp) ⟨t, rfl⟩
end

theorem callB_ok {c : Cx} {k : Nat} {A : Around} {s : Shared} {H : Addr → Prop} {f : BI} {v : Value} {xs : List AV} {vs : List Value} (hm : Rm c true (k + 1) A s.heap) (hL : Live H s.heap) (r : RepOL s.heap H vs xs) (hv : bootBuiltins (f.name : Str) = some v) :
    Tr c true A H (PySem.call v vs) (callB f xs) s := by
  intro Q E P
  have hh := hm.hand rfl
  have e : v = f.val := by have := BI.boot f; exact Option.some.inj (hv.symm.trans this)
  subst e
  unfold callB at P
  split at P
  · obtain ⟨v, rfl, rr⟩ := repOL1 r
    obtain ⟨hz, l, ws, rfl, hl, rl⟩ := rr
    refine PySem.Calls.call_len_list hl.isList (by simp [rl.length]; omega) ?_
    exact P _ _ Kp.toks ⟨_, by simp [rl.length]; rfl⟩
  · obtain ⟨v, rfl, rr⟩ := repOL1 r
    obtain ⟨hz, l, ws, rfl, hl, rl⟩ := rr
    split at P
    · rename_i ns hn; exact call_sum_ok hh hl rl hn P
    · exact P.elim
  · obtain ⟨v, rfl, rr⟩ := repOL1 r
    obtain ⟨t, rfl⟩ := rr
    exact call_abs_int fun u tk => P _ _ Kp.toks ⟨u, rfl⟩
  · obtain ⟨v, rfl, rr⟩ := repOL1 r
    obtain ⟨t, rfl⟩ := rr
    refine call_range_1 (P _ _ (Kp.of fun _ _ e => Heap.get?_push_of_some _ e) (rep_fresh_range hL))
  · obtain ⟨v, w, rfl, r1, r2⟩ := repOL2 r
    obtain ⟨t, rfl⟩ := r1
    obtain ⟨u, rfl⟩ := r2
    refine call_range_2 (P _ _ (Kp.of fun _ _ e => Heap.get?_push_of_some _ e) (rep_fresh_range hL))
  · obtain ⟨v, rfl, rr⟩ := repOL1 r
    obtain ⟨hz, l, ws, rfl, hl, rl⟩ := rr
    split at P
    · rename_i ns hn
      split at P
      · rename_i m hx; exact call_max_ok hh hl rl hn hx P
      · exact P.elim
    · exact P.elim
  · obtain ⟨v, rfl, rr⟩ := repOL1 r
    obtain ⟨hz, l, ws, rfl, hl, rl⟩ := rr
    split at P
    · rename_i ns hn
      split at P
      · rename_i m hx; exact call_min_ok hh hl rl hn hx P
      · exact P.elim
    · exact P.elim
  · obtain ⟨v, rfl, rr⟩ := repOL1 r
    split at P
    · rename_i T hT
      exact call_type_of (tyName_ok hT rr) (tyName_nb hT) (P _ _ (Kp.refl _ _) rfl)
    · exact P.elim
  · exact P.elim

/- the words together -/
def opBin (op : Operator) : AV → AV → Res
  | .int a, .int b => intBin op a b
  | .float a, .float b => floatBin op a b
  | .float a, .int b => fiBin op a b
  | .int a, .float b => ifBin op a b
  | .lst a, .lst b => match op with | .Add => if a.length + b.length ≤ 1048576 then .ok (.lst (a ++ b)) else .stuck | _ => .stuck
  | _, _ => .stuck
def opInpl (op : Operator) (x y : AV) : Res := match op with
  | .Div => (match x, y with
    | .int a, .int b => intBin .Div a b
    | .float a, .float b => floatBin .Div a b
    | .float a, .int b => fiBin .Div a b
    | .int a, .float b => ifBin .Div a b
    | .int a, .bool b => intBin .Div a (b2i b)
    | _, _ => .stuck)
  | _ => .stuck
def opUn (op : UnaryOp) : AV → Res
  | .int a => match op with | .USub => .ok (.int (-a)) | _ => .stuck
  | _ => .stuck
def opCmp (op : CmpOp) : AV → AV → Option Bool
  | .int a, .int b => intCmp op a b
  | .float a, .float b => floatCmp op a b
  | .float a, .int b => fiCmp op a b
  | .int a, .float b => fiCmp op b a
  | .type a, .type b => plainCmp op (a == b)
  | _, _ => none
def opTruth : AV → Option Bool
  | .bool b => some b
  | .int a => some (a != 0)
  | .none => some false
  | _ => none
def opIdx : AV → AV → Res
  | .lst xs, .int i => idxL xs i
  | _, _ => .stuck
def opSlice : AV → AV → AV → AV → Res
  | .lst xs, a, b, z => sliceL xs a b z
  | _, _, _, _ => .stuck

def ops : OpsF where
  bin := opBin
  inpl := opInpl
  un := opUn
  cmp := opCmp
  truth := opTruth
  idx := opIdx
  slice := opSlice
  bcall := callB
  meth := fun _ _ _ => .stuck
  items := itemsV


section
variable {c : Cx} {q : Bool} {k : Nat} {A : Around} {s : Shared} {H : Addr → Prop}
theorem opBin_ok {op : Operator} {a b : AV} {va vb : Value} (hm : Rm c q (k + 1) A s.heap) (hL : Live H s.heap) (ra : RepO s.heap H va a) (rb : RepO s.heap H vb b) : Tr c q A H (binaryOp op va vb) (opBin op a b) s := by
  unfold opBin
  split
  · obtain ⟨t, rfl⟩ := ra; obtain ⟨u, rfl⟩ := rb; exact intBin_ok hm
  · obtain ⟨t, rfl⟩ := ra; obtain ⟨u, rfl⟩ := rb; exact floatBin_ok hm
  · obtain ⟨t, rfl⟩ := ra; obtain ⟨u, rfl⟩ := rb; exact @fiBin_ok c q (k + 1) A s H op _ _ t u hm
  · obtain ⟨t, rfl⟩ := ra; obtain ⟨u, rfl⟩ := rb; exact @ifBin_ok c q (k + 1) A s H op _ _ u t hm
  · obtain ⟨hz, l, vs, rfl, hl, rl⟩ := ra; obtain ⟨hz', l', vs', rfl, hl', rl'⟩ := rb
    split
    · split
      · exact lists_add hL hl hl' rl rl' (by assumption)
      · exact Tr.stuck
    · exact Tr.stuck
  · exact Tr.stuck
theorem opInpl_ok {op : Operator} {a b : AV} {va vb : Value} (hm : Rm c q (k + 1) A s.heap) (ra : RepO s.heap H va a) (rb : RepO s.heap H vb b) : Tr c q A H (inplaceOp op va vb) (opInpl op a b) s := by
  unfold opInpl
  split
  · split
    · obtain ⟨t, rfl⟩ := ra; obtain ⟨u, rfl⟩ := rb; exact intDiv_ok hm
    · obtain ⟨t, rfl⟩ := ra; obtain ⟨u, rfl⟩ := rb; exact floatDiv_ok hm
    · obtain ⟨t, rfl⟩ := ra; obtain ⟨u, rfl⟩ := rb; exact fiDiv_ok hm
    · obtain ⟨t, rfl⟩ := ra; obtain ⟨u, rfl⟩ := rb; exact ifDiv_ok hm
    · obtain ⟨t, rfl⟩ := ra; cases rb; exact ibDiv_ok hm
    · exact Tr.stuck
  · exact Tr.stuck
theorem opUn_ok {op : UnaryOp} {a : AV} {va : Value} (ra : RepO s.heap H va a) : Tr c q A H (unaryOp op va) (opUn op a) s := by
  unfold opUn
  split
  · obtain ⟨t, rfl⟩ := ra
    split
    · exact fun Q E P => PySem.P.neg_int (P _ _ Kp.toks ⟨_, rfl⟩)
    · exact Tr.stuck
  · exact Tr.stuck
theorem type_beq (x y : String) : (Value.type x == Value.type y) = (x == y) := by
  by_cases hxy : x = y
  · subst hxy; simp
  · rw [beq_eq_false_iff_ne.mpr hxy, beq_eq_false_iff_ne.mpr (fun z => hxy (by injection z))]
theorem opCmp_ok {op : CmpOp} {a b : AV} {va vb : Value} {r : Bool} (ra : RepO s.heap H va a) (rb : RepO s.heap H vb b) (h : opCmp op a b = some r) : Tr c q A H (compareOp op va vb) (.ok (.bool r)) s := by
  unfold opCmp at h
  split at h
  · obtain ⟨t, rfl⟩ := ra; obtain ⟨u, rfl⟩ := rb; exact intCmp_ok h
  · obtain ⟨t, rfl⟩ := ra; obtain ⟨u, rfl⟩ := rb; exact floatCmp_ok h
  · obtain ⟨t, rfl⟩ := ra; obtain ⟨u, rfl⟩ := rb; exact fiCmp_ok h
  · obtain ⟨t, rfl⟩ := ra; obtain ⟨u, rfl⟩ := rb; exact ifCmp_ok h
  · cases ra; cases rb
    rename_i x y
    refine plainCmp_ok rfl ?_
    rw [type_beq]; exact h
  · cases h
theorem opTruth_ok {a : AV} {va : Value} {r : Bool} (ra : RepO s.heap H va a) (h : opTruth a = some r) : TrB c A (truthy va) r s := by
  unfold opTruth at h
  split at h
  · cases h; cases ra; exact fun Q E P => wpAny_truthy_bool (P _ (Kp.refl _ _))
  · cases h; obtain ⟨t, rfl⟩ := ra; exact fun Q E P => PySem.P.truthy_int (P _ (Kp.refl _ _))
  · cases h; cases ra; exact fun Q E P => truthy_none (P _ (Kp.refl _ _))
  · cases h
theorem opIdx_ok {a b : AV} {va vb : Value} (ra : RepO s.heap H va a) (rb : RepO s.heap H vb b) : Tr c q A H (getItem va vb) (opIdx a b) s := by
  unfold opIdx
  split
  · obtain ⟨hz, l, vs, rfl, hl, rl⟩ := ra; obtain ⟨u, rfl⟩ := rb
    exact idxL_ok hl hz rl
  · exact Tr.stuck
theorem opIdx_ty {a b : AV} {va : Value} (ra : RepO s.heap H va a) (h : opIdx a b ≠ .stuck) : ∃ T id, s.TypeIs va T ∧ typeLookup (.type T) "__getitem__" = pure (some (.builtin id)) := by
  unfold opIdx at h
  split at h
  · obtain ⟨hz, l, vs, rfl, hl, rl⟩ := ra
    exact ⟨"list", _, hl.typeIs, list_getitem_lookup⟩
  · exact absurd rfl h
theorem opSlice_ok {a x y z : AV} {va : Value} {r : Addr} {ux uy uz : Value} (hL : Live H s.heap) (ra : RepO s.heap H va a) (h1 : Rep (vis s.heap H) ux x) (h2 : Rep (vis s.heap H) uy y) (h3 : Rep (vis s.heap H) uz z)
    (hr : s.heap.get? r = some { cls := .type "slice", data := .fields #[ux, uy, uz] }) : Tr c q A H (getItem va (.ref r)) (opSlice a x y z) s := by
  unfold opSlice
  split
  · obtain ⟨hz, l, vs, rfl, hl, rl⟩ := ra
    exact sliceL_ok hL hl hz rl h1 h2 h3 hr
  · exact Tr.stuck
theorem opSlice_ty {a x y z : AV} {va : Value} (ra : RepO s.heap H va a) (h : opSlice a x y z ≠ .stuck) : ∃ T id, s.TypeIs va T ∧ typeLookup (.type T) "__getitem__" = pure (some (.builtin id)) := by
  unfold opSlice at h
  split at h
  · obtain ⟨hz, l, vs, rfl, hl, rl⟩ := ra
    exact ⟨"list", _, hl.typeIs, list_getitem_lookup⟩
  · exact absurd rfl h
end
theorem ops_ok (c : Cx) : OpsOk c ops where
  bin := fun hm hL ra rb => opBin_ok hm hL ra rb
  inpl := fun hm _ ra rb => opInpl_ok hm ra rb
  un := fun _ _ ra => opUn_ok ra
  cmp := fun _ _ ra rb h => opCmp_ok ra rb h
  truth := fun _ _ ra h => opTruth_ok ra h
  idx := fun _ _ ra rb => opIdx_ok ra rb
  idxT := fun ra h => opIdx_ty ra h
  slice := fun _ hL ra h1 h2 h3 hr => opSlice_ok hL ra h1 h2 h3 hr
  sliceT := fun ra h => opSlice_ty ra h
  bcall := fun hq hm _ hL r hv => by subst hq; exact callB_ok hm hL r hv
  itemsR := fun h => itemsV_ref h
  items := fun hm hq _ ra h Q E K => itemsV_ok hm hq ra h Q E K
theorem ops_bin : ops.bin = opBin := rfl
theorem ops_inpl : ops.inpl = opInpl := rfl
theorem ops_un : ops.un = opUn := rfl
theorem ops_cmp : ops.cmp = opCmp := rfl
theorem ops_truth : ops.truth = opTruth := rfl
theorem ops_idx : ops.idx = opIdx := rfl
theorem ops_slice : ops.slice = opSlice := rfl
theorem ops_bcall : ops.bcall = callB := rfl
theorem ops_items : ops.items = itemsV := rfl
end Mine
end
section
open PySem PySem.W PyProof.Rows
namespace Mine
set_option maxRecDepth 100000
theorem lookup_zip_some : ∀ {ns : List Str} {vs : List Value} {x : Str}, vs.length = ns.length → x ∈ ns → ((ns.zip vs).lookup x).isNone = false
  | [], _, _, _, h => by cases h
  | _ :: _, [], _, h, _ => by simp at h
  | n :: ns, v :: vs, x, h, hx => by
    simp only [List.zip_cons_cons, List.lookup_cons]
    cases hb : x == n with
    | true => rfl
    | false =>
      rcases List.mem_cons.mp hx with e | hx
      · subst e; simp at hb
      · exact lookup_zip_some (by simpa using h) hx
theorem zip_binds : ∀ {ns : List Str} {vs : List Value}, vs.length = ns.length → ns.Nodup → ns.filterMap (fun n => ((ns.zip vs).lookup n).map (n, ·)) = ns.zip vs
  | [], _, _, _ => rfl
  | _ :: _, [], h, _ => by simp at h
  | n :: ns, v :: vs, h, nd => by
    obtain ⟨n1, n2⟩ := List.nodup_cons.mp nd
    have e : ∀ x ∈ ns, (((n, v) :: ns.zip vs).lookup x).map (x, ·) = ((ns.zip vs).lookup x).map (x, ·) := fun x hx => by
      rw [List.lookup_cons]
      have : (x == n) = false := by
        cases hb : x == n with
        | false => rfl
        | true => have := eq_of_beq hb; subst this; exact absurd hx n1
      rw [this]
    simp only [List.zip_cons_cons, List.filterMap_cons]
    have e0 : (((n, v) :: ns.zip vs).lookup n) = some v := by simp [List.lookup_cons]
    rw [e0, Option.map_some]
    simp only
    have e2 : ns.filterMap (fun x => (((n, v) :: ns.zip vs).lookup x).map (x, ·)) = ns.filterMap (fun x => ((ns.zip vs).lookup x).map (x, ·)) := by
      clear e0 nd n2 h
      revert e
      generalize (n, v) :: ns.zip vs = A
      generalize ns.zip vs = B
      intro e
      induction ns with
      | nil => rfl
      | cons y ys ih =>
        simp only [List.filterMap_cons]
        rw [e y (List.mem_cons_self ..), ih (fun q => n1 (List.mem_cons_of_mem _ q)) fun x hx => e x (List.mem_cons_of_mem _ hx)]
    rw [e2, zip_binds (by simpa using h) n2]
theorem bind_plain {f : Str} {as : List Arg} {body : List Stmt} {scope : Scope} {pm code doc : Value} {vs : List Value} (hl : vs.length = as.length) (nd : (as.map (·.arg)).Nodup) :
    bindArgs (PySem.Calls.docDef f ⟨[], as, none, [], [], none, []⟩ body scope pm code doc) ⟨vs, []⟩ = pure ((as.map (·.arg)).zip vs) := by
  have hmiss : ((as.map (·.arg)).take (as.map (·.arg)).length).filter (fun n => (((as.map (·.arg)).zip vs).lookup n).isNone) = [] := by
    rw [List.filter_eq_nil_iff]
    intro x hx
    rw [lookup_zip_some (by simpa using hl) (List.mem_of_mem_take hx)]
    simp
  have hbinds : (as.map (·.arg)).filterMap (fun n => (((as.map (·.arg)).zip vs).lookup n).map (n, ·)) = (as.map (·.arg)).zip vs := zip_binds (by simpa using hl) nd
  unfold bindArgs
  simp only [PySem.Calls.docDef, List.map_nil, List.nil_append, seqItems?, pure_bind, List.forIn_nil, List.append_nil, Option.getD_none, List.drop_nil, List.zip_nil_right, Nat.sub_zero, List.length_nil, hmiss, hbinds]
  have hns : notAStandIn .none = pure () := rfl
  have hnil : ((none : Option (Array Value)).getD #[]).toList = [] := rfl
  have hgt : (decide (vs.length > (as.map (·.arg)).length) && true) = false := by simp [hl]
  simp only [hns, hnil, pure_bind, List.forIn'_nil, List.forIn_nil, List.drop_nil, List.length_nil, Nat.sub_zero, List.zip_nil_right, hmiss, hbinds, Option.isNone_none, hgt, Bool.false_eq_true, if_false, List.isEmpty_nil, Bool.not_true, Bool.not_eq_true]

def plainParams (a : Arguments) (xs : List Str) : Bool := a.posonlyargs.isEmpty && a.vararg.isNone && a.kwonlyargs.isEmpty && a.kw_defaults.isEmpty && a.kwarg.isNone && a.defaults.isEmpty && a.args.map (·.arg) == xs
/-- a def of the text, looked at -/
def defOk (p : Program) (frees : List Str) (fname : Nat → Str) (f : Str) (ns : List Str) (np : Nat) (q : PSs) : Bool := match (recsOf p).find? (fun d => d.name == f) with
  | some d => fnOk frees fname d.scope ns np q d.body && plainParams d.params (ns.take np)
  | none => false
def freesOk (p : Program) (loose : List Str) (frees : List Str) : Bool := frees.all fun x => !startupNames.contains x && !loose.contains x && !((recsOf p).map (·.name)).contains x && !((litsOf p).map (·.1)).contains x && !((clssOf p loose).map (·.name)).contains x

theorem frees_of {p : Program} {loose : List Str} {mean : ExcName → Option Value} {mg mb : Str → Option Value} {h : Heap} (T : Top p loose mean mg mb h) {frees : List Str} (hf : freesOk p loose frees = true) : ∀ x ∈ frees, mg x = none := fun x hx => by
  have := List.all_eq_true.mp hf x hx
  simp only [Bool.and_eq_true, Bool.not_eq_true'] at this
  obtain ⟨⟨⟨⟨h1, h2⟩, h3⟩, h4⟩, h5⟩ := this
  exact T.free x (fun z => by rw [List.contains_iff_mem.mpr z] at h1; cases h1) (fun z => by rw [List.contains_iff_mem.mpr z] at h2; cases h2) (fun z => by rw [List.contains_iff_mem.mpr z] at h3; cases h3)
    (fun z => by rw [List.contains_iff_mem.mpr z] at h4; cases h4) (fun z => by rw [List.contains_iff_mem.mpr z] at h5; cases h5)

/-- what a def's text says, ready for calls_of -/
structure DefIs (c : Cx) (frees : List Str) (fname : Nat → Str) (f : Str) (ns : List Str) (np : Nat) (q : PSs) : Prop where
  all : ∃ params body scope, FnIs c f params body scope ∧ fnOk frees fname scope ns np q body = true ∧ ∀ pm code doc vs, vs.length = np → bindArgs (PySem.Calls.docDef f params body scope pm code doc) ⟨vs, []⟩ = pure ((ns.take np).zip vs)

theorem def_of {prog : Program} {w : World} {p : Program} {loose : List Str} {mean : ExcName → Option Value} {mg mb : Str → Option Value} {h : Heap} (T : Top p loose mean mg mb h) {frees : List Str} {fname : Nat → Str} {f : Str} {ns : List Str} {np : Nat} {q : PSs}
    (hd : defOk p frees fname f ns np q = true) : DefIs ⟨prog, w, h, mg, mb, T.g, T.b, T.builtins, T.nolimit⟩ frees fname f ns np q := by
  unfold defOk at hd
  cases e : (recsOf p).find? (fun d => d.name == f) with
  | none => rw [e] at hd; cases hd
  | some d =>
    rw [e] at hd
    simp only [Bool.and_eq_true] at hd
    obtain ⟨h1, h2⟩ := hd
    have hn : d.name = f := by have := List.find?_some e; simpa using this
    have hm := List.mem_of_find?_eq_some e
    subst hn
    refine ⟨d.params, d.body, d.scope, T.fn d hm, h1, fun pm code doc vs hl => ?_⟩
    unfold plainParams at h2
    simp only [Bool.and_eq_true, List.isEmpty_iff, Option.isNone_iff_eq_none, beq_iff_eq] at h2
    obtain ⟨⟨⟨⟨⟨⟨a1, a2⟩, a3⟩, a4⟩, a5⟩, a6⟩, a7⟩ := h2
    have hp : d.params = ⟨[], d.params.args, none, [], [], none, []⟩ := by
      rcases hq : d.params with ⟨x1, x2, x3, x4, x5, x6, x7⟩
      rw [hq] at a1 a2 a3 a4 a5 a6
      simp only at a1 a2 a3 a4 a5 a6
      rw [a1, a2, a3, a4, a5, a6]
    simp only [fnOk, Bool.and_eq_true, decide_eq_true_eq] at h1
    rw [hp]
    have hlen : vs.length = d.params.args.length := by
      have := congrArg List.length a7
      simp only [List.length_map, List.length_take] at this
      have h6 := h1.1.2
      omega
    rw [← a7]
    exact bind_plain hlen (by rw [a7]; exact h1.1.1.2)

section
variable {c : Cx} {O : OpsF} (OK : OpsOk c O) {k : Nat} {cal : Nat → List AV → Res} {fname : Nat → Str} (CO : CallsOk c k cal fname) {frees : List Str} (hfree : ∀ x ∈ frees, c.mg x = none)
include OK CO hfree
theorem DefIs.calls {f : Str} {ns : List Str} {np : Nat} {p : PSs} {args : List AV} (D : DefIs c frees fname f ns np p) (hargs : args.length = np) : Calls c (k + 2) f args (fnRes (pxs O cal true (rho0 args ns.length) p)) := by
  obtain ⟨params, body, scope, h1, h2, h3⟩ := D.all
  exact calls_of OK CO hfree h1 h2 h3 hargs
theorem DefIs.code {f : Str} {ns : List Str} {np : Nat} {p : PSs} {args : List AV} (D : DefIs c frees fname f ns np p) (hargs : args.length = np) 
    {A : Around} {s : Shared} {H : Addr → Prop} {vs : List Value} {a : Addr} {Q E : Value → Shared → Prop} (hm : Rm c true (k + 2) A s.heap) (hst : c.h0.StaysIn s.heap) (hL : Live H s.heap) (hr : RepL (vis s.heap H) vs args) (hmg : c.mg f = some (.ref a))
    (P : Post true A H (fnRes (pxs O cal true (rho0 args ns.length) p)) s Q E) : codeAny c.M A (.call (.ref a) ⟨vs, []⟩) (fun r s' => match r with | .ok (.ret v) => Q v s' | .ok _ => False | .error e => E e s') s := by
  obtain ⟨params, body, scope, h1, h2, h3⟩ := D.all
  exact code_of OK CO hfree h1 h2 h3 hargs hm hst hL hr hmg P
end
theorem DefIs.obj {c : Cx} {frees : List Str} {fname : Nat → Str} {f : Str} {ns : List Str} {np : Nat} {q : PSs} (D : DefIs c frees fname f ns np q) : FnObj c f := by
  obtain ⟨params, body, scope, h1, h2, h3⟩ := D.all
  exact h1.obj

theorem Calls.mono {c : Cx} {k k' : Nat} {f : Str} {args : List AV} {r : Res} (h : Calls c k f args r) (hk : k ≤ k') : Calls c k' f args r := fun q A s H vs a hq hm => h q A s H vs a hq ⟨by have := hm.depth; omega, by have := hm.units; omega, hm.hand, hm.frames⟩

/-- the script as a value -/
theorem script_rep {h : Heap} {l : Addr} {vs : List Value} {ns : List Int} (hl : IsL h l vs) (hI : IntsAre vs ns) (hz : ns.length ≤ 1048576) : RepL (vis h fun _ => False) [.ref l] [.lst (ns.map .int)] := by
  obtain ⟨o, n, e, hc, hd, hdi⟩ := hl
  have : ∀ {vs : List Value} {ns : List Int}, IntsAre vs ns → RepL (vis h fun _ => False) vs (ns.map .int) := by
    intro vs ns hI
    induction hI with
    | nil => simp [RepL]
    | cons n t _ ih => simp only [List.map_cons, RepL, Rep]; exact ⟨⟨t, rfl⟩, ih⟩
  simp only [RepL, Rep, and_true]
  exact ⟨by simpa using hz, l, vs, n, rfl, ⟨id, o, e, hc, hd, hdi, .inl rfl, fun ⟨fs, z⟩ => by cases z⟩, this hI⟩

/-- the top: a law that comes to True -/
theorem kp_top {s s' : Shared} (k : Kp callerA s s') : (∀ b o, s.heap.get? b = some o → s'.heap.get? b = some o) ∧ s'.os = s.os ∧ s'.gens = s.gens := by
  obtain ⟨h', tk, rfl, kh⟩ := k
  refine ⟨fun b o e => (kh b o e).1 (.inl ?_), rfl, rfl⟩
  rintro ⟨l, hl, hb⟩
  cases hl
  simp at hb

theorem isL_of_well {P : Params} {h : Heap} {l : Addr} {vs : List Value} {ys : List WData} {d : WData} (hL : h.IsList l vs.toArray) (w : Well P h (.ref l) d) (e : d = .list ys) : IsL h l vs := by
  cases w <;> try (cases e)
  rename_i vs' e _
  obtain ⟨o', e', hc', n', hd'⟩ := hL
  rw [e] at e'; cases e'
  exact ⟨_, _, e, rfl, hd', rfl⟩
end Mine
end
section
open PySem PySem.W PyProof.Rows
namespace Mine
set_option maxRecDepth 100000
/- the defs, by number: 0 itruediv, 1 _law_simplest, 2 _law_refused, 3 law -/
def fname : Nat → Str
  | 0 => PySem.Str.ofString "itruediv"
  | 1 => PySem.Str.ofString "_law_simplest"
  | 2 => PySem.Str.ofString "_law_refused"
  | 3 => PySem.Str.ofString "law"
  | _ => PySem.Str.ofString ""
/- itruediv: statement 1 of the text; slots: 0 a, 1 b -/
def itruediv_ns : List Str := [PySem.Str.ofString "a", PySem.Str.ofString "b"]
def itruediv_p : PSs :=
 .cons (.aug 0 .Div (.name 1))
 (.cons (.ret (.name 0)) .nil)
/- _law_simplest: statement 3 of the text; slots: 0 lows, 1 highs, 2 low, 3 high, 4 unit, 5 step, 6 first, 7 last -/
def law_simplest_ns : List Str := [PySem.Str.ofString "lows", PySem.Str.ofString "highs", PySem.Str.ofString "low", PySem.Str.ofString "high", PySem.Str.ofString "unit", PySem.Str.ofString "step", PySem.Str.ofString "first", PySem.Str.ofString "last"]
def law_simplest_p : PSs :=
 .cons (.assign 2 false (.bcall .max (.cons (.bin .Add (.name 0) (.list (.cons (.un .USub (.bin .Pow (.const (.int 10)) (.const (.int 6)))) .nil))) .nil)))
 (.cons (.assign 3 false (.bcall .min (.cons (.bin .Add (.name 1) (.list (.cons (.bin .Pow (.const (.int 10)) (.const (.int 6))) .nil))) .nil)))
 (.cons (.assign 4 false (.const (.int 2048)))
 (.cons (.for_ 5 (.bcall .range (.cons (.const (.int 12)) .nil))
 (.cons (.assign 6 false (.bin .Add (.bin .FloorDiv (.name 2) (.name 4)) (.const (.int 1))))
 (.cons (.assign 7 false (.bin .Sub (.un .USub (.bin .FloorDiv (.un .USub (.name 3)) (.name 4))) (.const (.int 1))))
 (.cons (.ite (.cmp .LtE (.name 6) (.name 7))
 (.cons (.ite (.cmp .Gt (.name 6) (.const (.int 0)))
 (.cons (.ret (.bin .Mult (.name 6) (.name 4))) .nil)
 (.nil))
 (.cons (.ite (.cmp .Lt (.name 7) (.const (.int 0)))
 (.cons (.ret (.bin .Mult (.name 7) (.name 4))) .nil)
 (.nil))
 (.cons (.ret (.const (.int 0))) .nil)))
 (.nil))
 (.cons (.assign 4 false (.bin .FloorDiv (.name 4) (.const (.int 2)))) .nil)))))
 (.cons (.ret (.const .none)) .nil))))
/- _law_refused: statement 4 of the text; slots: 0 a, 1 b -/
def law_refused_ns : List Str := [PySem.Str.ofString "a", PySem.Str.ofString "b"]
def law_refused_p : PSs :=
 .cons (.try_ (.cons (.expr (.call 0 (.cons (.name 0) (.cons (.name 1) .nil)))) .nil) (.cons .zde (.cons (.ret (.const (.bool true))) .nil) (.nil)))
 (.cons (.ret (.const (.bool false))) .nil)
/- law: statement 5 of the text; slots: 0 script, 1 sizes, 2 size, 3 word, 4 worths, 5 value, 6 step, 7 turned, 8 k, 9 lows, 10 highs, 11 told, 12 made, 13 back, 14 whole -/
def law_ns : List Str := [PySem.Str.ofString "script", PySem.Str.ofString "sizes", PySem.Str.ofString "size", PySem.Str.ofString "word", PySem.Str.ofString "worths", PySem.Str.ofString "value", PySem.Str.ofString "step", PySem.Str.ofString "turned", PySem.Str.ofString "k", PySem.Str.ofString "lows", PySem.Str.ofString "highs", PySem.Str.ofString "told", PySem.Str.ofString "made", PySem.Str.ofString "back", PySem.Str.ofString "whole"]
def law_p : PSs :=
 .cons (.assign 1 false (.bin .Add (.comp [0] (.bcall .abs (.cons (.bcall .sum (.cons (.slice (.name 0) (.name 15) (.const .none) (.const (.int 12))) .nil)) .nil)) (.bcall .range (.cons (.const (.int 12)) .nil)) (.nil)) (.list (.cons (.const (.int 21)) (.cons (.const (.int 2026)) (.cons (.const (.int 1890)) .nil))))))
 (.cons (.for_ 2 (.name 1)
 (.cons (.assign 3 false (.comp [2] (.ife (.cmp .Eq (.bin .Mod (.bin .FloorDiv (.bin .FloorDiv (.name 2) (.const (.int 11))) (.bin .Pow (.const (.int 2)) (.name 15))) (.const (.int 2))) (.const (.int 1))) (.const (.int 1)) (.un .USub (.const (.int 1)))) (.bcall .range (.cons (.bin .Add (.const (.int 1)) (.bin .Mod (.name 2) (.const (.int 11)))) .nil)) (.nil)))
 (.cons (.assign 4 true (.list (.cons (.const (.int 0)) .nil)))
 (.cons (.assign 5 false (.const (.int 0)))
 (.cons (.assign 6 false (.const (.int 1)))
 (.cons (.assign 7 false (.const (.bool false)))
 (.cons (.for_ 8 (.bcall .range (.cons (.bcall .len (.cons (.name 3) .nil)) .nil))
 (.cons (.ite (.bop .Or (.cons (.name 7) (.cons (.cmp .NotEq (.sub (.name 3) (.name 8)) (.sub (.name 3) (.const (.int 0)))) .nil)))
 (.cons (.assign 7 false (.const (.bool true)))
 (.cons (.assign 6 false (.call 0 (.cons (.name 6) (.cons (.const (.int 2)) .nil))))
 (.cons (.ite (.cmp .IsNot (.bcall .type (.cons (.name 6) .nil)) (.glob .float))
 (.cons (.ret (.const (.bool false))) .nil)
 (.nil)) .nil)))
 (.nil))
 (.cons (.assign 5 false (.bin .Add (.name 5) (.bin .Mult (.sub (.name 3) (.name 8)) (.name 6))))
 (.cons (.assign 9 false (.comp [3, 4] (.sub (.name 4) (.name 15)) (.bcall .range (.cons (.bin .Add (.name 8) (.const (.int 1))) .nil)) (.cons (.cmp .Eq (.sub (.name 3) (.name 15)) (.const (.int 1))) .nil)))
 (.cons (.assign 10 false (.comp [3, 4] (.sub (.name 4) (.name 15)) (.bcall .range (.cons (.bin .Add (.name 8) (.const (.int 1))) .nil)) (.cons (.cmp .Eq (.sub (.name 3) (.name 15)) (.un .USub (.const (.int 1)))) .nil)))
 (.cons (.assign 11 false (.call 1 (.cons (.name 9) (.cons (.name 10) .nil))))
 (.cons (.append 4 (.name 11) none)
 (.cons (.ite (.cmp .NotEq (.bin .Mult (.name 5) (.const (.int 2048))) (.name 11))
 (.cons (.ret (.const (.bool false))) .nil)
 (.nil))
 (.cons (.assign 12 false (.call 0 (.cons (.name 11) (.cons (.const (.int 2048)) .nil))))
 (.cons (.assign 13 false (.call 0 (.cons (.name 12) (.cons (.call 0 (.cons (.const (.int 1)) (.cons (.const (.int 2048)) .nil))) .nil))))
 (.cons (.ite (.bop .Or (.cons (.cmp .IsNot (.bcall .type (.cons (.name 12) .nil)) (.glob .float)) (.cons (.cmp .NotEq (.name 12) (.name 5)) (.cons (.cmp .IsNot (.bcall .type (.cons (.name 13) .nil)) (.glob .float)) (.cons (.cmp .NotEq (.name 13) (.name 11)) .nil)))))
 (.cons (.ret (.const (.bool false))) .nil)
 (.nil))
 (.cons (.ite (.bop .Or (.cons (.un .Not (.call 2 (.cons (.name 11) (.cons (.const (.int 0)) .nil)))) (.cons (.un .Not (.call 2 (.cons (.name 12) (.cons (.const (.int 0)) .nil)))) (.cons (.un .Not (.call 2 (.cons (.name 11) (.cons (.const (.bool false)) .nil)))) .nil))))
 (.cons (.ret (.const (.bool false))) .nil)
 (.nil)) .nil))))))))))))
 (.cons (.assign 14 false (.call 0 (.cons (.bin .Mult (.sub (.name 4) (.un .USub (.const (.int 1)))) (.const (.int 4096))) (.cons (.const (.int 4096)) .nil))))
 (.cons (.ite (.bop .Or (.cons (.cmp .IsNot (.bcall .type (.cons (.name 14) .nil)) (.glob .float)) (.cons (.cmp .NotEq (.name 14) (.sub (.name 4) (.un .USub (.const (.int 1))))) .nil)))
 (.cons (.ret (.const (.bool false))) .nil)
 (.nil)) .nil)))))))))
 (.cons (.ret (.const (.bool true))) .nil))
def frees01 : List Str := ["max", "min", "range", "abs", "sum", "len", "type", "float", "ZeroDivisionError"]

def cal0 : Nat → List AV → Res := fun _ _ => .stuck
def calA (f : Nat) (args : List AV) : Res := match f with
  | 0 => if args.length = 2 then fnRes (pxs ops cal0 true (rho0 args itruediv_ns.length) itruediv_p) else .stuck
  | 1 => if args.length = 2 then fnRes (pxs ops cal0 true (rho0 args law_simplest_ns.length) law_simplest_p) else .stuck
  | _ => .stuck
def calB (f : Nat) (args : List AV) : Res := match f with
  | 2 => if args.length = 2 then fnRes (pxs ops calA true (rho0 args law_refused_ns.length) law_refused_p) else .stuck
  | _ => calA f args
def lawRes (ns : List Int) : Res := fnRes (pxs ops calB true (rho0 [.lst (ns.map .int)] law_ns.length) law_p)

theorem calls0 (c : Cx) (fname : Nat → Str) : CallsOk c 0 cal0 fname := ⟨fun _ _ h => absurd rfl h⟩
section
variable {c : Cx} (hfree : ∀ x ∈ frees01, c.mg x = none) (D0 : DefIs c frees01 fname (fname 0) itruediv_ns 2 itruediv_p) (D1 : DefIs c frees01 fname (fname 1) law_simplest_ns 2 law_simplest_p) (D2 : DefIs c frees01 fname (fname 2) law_refused_ns 2 law_refused_p)
include hfree D0 D1
theorem callsA : CallsOk c 2 calA fname := ⟨fun f args h => by
  unfold calA at h ⊢
  split at h
  · split at h
    · rename_i hl; rw [if_pos hl]; exact ⟨D0.calls (ops_ok c) (calls0 c fname) hfree hl, D0.obj⟩
    · exact absurd rfl h
  · split at h
    · rename_i hl; rw [if_pos hl]; exact ⟨D1.calls (ops_ok c) (calls0 c fname) hfree hl, D1.obj⟩
    · exact absurd rfl h
  · exact absurd rfl h⟩
include D2
theorem callsB : CallsOk c 4 calB fname := ⟨fun f args h => by
  unfold calB at h ⊢
  split at h
  · split at h
    · rename_i hl; rw [if_pos hl]; exact ⟨D2.calls (ops_ok c) (callsA hfree D0 D1) hfree hl, D2.obj⟩
    · exact absurd rfl h
  · obtain ⟨a, b⟩ := (callsA hfree D0 D1).ok f args h
    exact ⟨a.mono (by omega), b⟩⟩
end

def textOk (p : Program) (loose : List Str) : Bool :=
  freesOk p loose frees01 && defOk p frees01 fname (fname 0) itruediv_ns 2 itruediv_p && defOk p frees01 fname (fname 1) law_simplest_ns 2 law_simplest_p && defOk p frees01 fname (fname 2) law_refused_ns 2 law_refused_p && defOk p frees01 fname (fname 3) law_ns 1 law_p

theorem law_code {prog : Program} {w : World} {p : Program} {loose : List Str} {mean : ExcName → Option Value} {mg mb : Str → Option Value} {s : Shared} (T : Top p loose mean mg mb s.heap) (ht : textOk p loose = true) {ns : List Int} (hres : lawRes ns = .ok (.bool true)) (hz : ns.length ≤ 1048576)
    {l fa : Addr} {vs : List Value} (hl : IsL s.heap l vs) (hI : IntsAre vs ns) (hmg : mg (fname 3) = some (.ref fa)) {R : Result → Shared → Prop}
    (K : ∀ s', (∀ b o, s.heap.get? b = some o → s'.heap.get? b = some o) → s'.os = s.os → s'.gens = s.gens → R (.ok (.ret (.bool true))) s') : codeAny (model prog w) callerA (.call (.ref fa) ⟨[.ref l], []⟩) R s := by
  simp only [textOk, Bool.and_eq_true] at ht
  obtain ⟨⟨⟨⟨h1, h2⟩, h3⟩, h4⟩, h5⟩ := ht
  have hfree := frees_of T h1
  have D0 := def_of (prog := prog) (w := w) T h2
  have D1 := def_of (prog := prog) (w := w) T h3
  have D2 := def_of (prog := prog) (w := w) T h4
  have D3 := def_of (prog := prog) (w := w) T h5
  have rr := script_rep hl hI hz
  have := D3.code (ops_ok _) (callsB hfree D0 D1 D2) hfree (args := [.lst (ns.map .int)]) rfl (A := callerA) (s := s) (H := fun _ => False) (vs := [.ref l]) (a := fa)
    (Q := fun v s' => v = .bool true ∧ (∀ b o, s.heap.get? b = some o → s'.heap.get? b = some o) ∧ s'.os = s.os ∧ s'.gens = s.gens) (E := fun _ _ => False)
    ⟨by decide, by decide, fun _ => rfl, [], rfl, trivial⟩ (fun _ _ e => e) (fun _ z => z.elim) rr hmg (by
      show Post true callerA _ (lawRes ns) s _ _
      rw [hres]
      exact fun v s' k r => ⟨r, kp_top k⟩)
  refine codeAny_mono this fun r s' h => ?_
  match r, h with
  | .ok (.ret v), ⟨hv, h1, h2, h3⟩ => rw [hv]; exact K s' h1 h2 h3
end Mine
end
section
open PySem PySem.W PyProof.Rows
namespace Mine
set_option maxRecDepth 100000

theorem cal0_eq (f : Nat) (a : List AV) : cal0 f a = .stuck := rfl
/-- itruediv -/
theorem itruediv_eq (a b : AV) : calA 0 [a, b] = opInpl .Div a b := by
  show fnRes (pxs ops cal0 true [some (.val a), some (.val b)] itruediv_p) = _
  simp only [itruediv_p, pxs, px, pe, PR.of, List.getElem?_cons_zero, List.getElem?_cons_succ]
  show fnRes (match resS (opInpl .Div a b) _ _ with | .next ρ' => _ | f => f) = _
  cases opInpl .Div a b <;> simp [resS, fnRes]

theorem refused_eq (a b : AV) (h : opInpl .Div a b = .exc .zde) : calB 2 [a, b] = .ok (.bool true) := by
  show fnRes (pxs ops calA true [some (.val a), some (.val b)] law_refused_p) = _
  simp [law_refused_p, pxs, px, pe, pes, PR.of, seqV, onSome, itruediv_eq, h, resS, phs, fnRes]
end Mine
namespace Mine
def smpBody : PSs :=
 (.cons (.assign 6 false (.bin .Add (.bin .FloorDiv (.name 2) (.name 4)) (.const (.int 1))))
 (.cons (.assign 7 false (.bin .Sub (.un .USub (.bin .FloorDiv (.un .USub (.name 3)) (.name 4))) (.const (.int 1))))
 (.cons (.ite (.cmp .LtE (.name 6) (.name 7))
 (.cons (.ite (.cmp .Gt (.name 6) (.const (.int 0)))
 (.cons (.ret (.bin .Mult (.name 6) (.name 4))) .nil)
 (.nil))
 (.cons (.ite (.cmp .Lt (.name 7) (.const (.int 0)))
 (.cons (.ret (.bin .Mult (.name 7) (.name 4))) .nil)
 (.nil))
 (.cons (.ret (.const (.int 0))) .nil)))
 (.nil))
 (.cons (.assign 4 false (.bin .FloorDiv (.name 4) (.const (.int 2)))) .nil))))

def smp1 (low high unit : Int) : Option Int :=
  if low.fdiv unit + 1 ≤ -((-high).fdiv unit) - 1 then (if low.fdiv unit + 1 > 0 then some ((low.fdiv unit + 1) * unit) else if -((-high).fdiv unit) - 1 < 0 then some ((-((-high).fdiv unit) - 1) * unit) else some 0) else none

/-- the simplest number, by halved units -/
def smp (low high : Int) : Nat → Option Int
  | 0 => smp1 low high 1
  | j + 1 => match smp1 low high (2 ^ (j + 1)) with
    | some m => some m
    | none => smp low high j

theorem pylong_small (a b : Int) (h0 : 0 < b) (h1 : b < 2 ^ 62) : Builtin.divisionGoesByPylong a b = false := by
  unfold Builtin.divisionGoesByPylong
  have hb : (b == 0) = false := by simp; omega
  have hn : b.natAbs < 2 ^ 62 := by omega
  have hlog : b.natAbs.log2 < 62 := by
    rw [Nat.log2_lt (by omega)]; exact hn
  simp only [hb, Bool.false_eq_true, if_false, Bool.and_eq_false_imp, decide_eq_true_eq]
  omega
theorem floordiv_small (a b : Int) (h0 : 0 < b) (h1 : b < 2 ^ 62) : intBin .FloorDiv a b = .ok (.int (a.fdiv b)) := by
  unfold intBin
  simp only [pylong_small a b h0 h1, Bool.false_eq_true, if_false]
  rw [if_neg (by simp; omega)]
theorem mod_small (a b : Int) (h0 : 0 < b) : intBin .Mod a b = .ok (.int (a.fmod b)) := by
  unfold intBin
  simp only
  rw [if_neg (by simp; omega)]
theorem mult_right (a b : Int) (h0 : -(2 ^ 62) < b) (h1 : b < 2 ^ 62) : intBin .Mult a b = .ok (.int (a * b)) := by
  unfold intBin
  simp only
  rw [if_pos (mulOk_iff.mpr (.of_right (intBits_le_64 (by omega) (by omega))))]

theorem smpBody_eq (low high unit : Int) (h0 : 0 < unit) (h1 : unit < 2 ^ 62) (e0 e1 e5 e6 e7 : Option Ent) :
    pxs ops cal0 true [e0, e1, some (.val (.int low)), some (.val (.int high)), some (.val (.int unit)), e5, e6, e7] smpBody
      = match smp1 low high unit with
        | some m => .ret (.int m)
        | none => .next [e0, e1, some (.val (.int low)), some (.val (.int high)), some (.val (.int (unit.fdiv 2))), e5, some (.val (.int (low.fdiv unit + 1))), some (.val (.int (-((-high).fdiv unit) - 1)))] := by
  have f1 : intBin .FloorDiv low unit = .ok (.int (low.fdiv unit)) := floordiv_small _ _ h0 h1
  have f2 : intBin .FloorDiv (-high) unit = .ok (.int ((-high).fdiv unit)) := floordiv_small _ _ h0 h1
  have f3 : intBin .FloorDiv unit 2 = .ok (.int (unit.fdiv 2)) := floordiv_small _ _ (by omega) (by omega)
  have f4 : ∀ a, intBin .Mult a unit = .ok (.int (a * unit)) := fun a => mult_right _ _ (by omega) (by omega)
  have f5 : ∀ a b, intBin .Add a b = .ok (.int (a + b)) := fun _ _ => rfl
  have f6 : ∀ a b, intBin .Sub a b = .ok (.int (a - b)) := fun _ _ => rfl
  by_cases c1 : low.fdiv unit + 1 ≤ -((-high).fdiv unit) - 1
  · by_cases c2 : low.fdiv unit + 1 > 0
    · simp only [smpBody, pxs, px, pe, PR.of, List.getElem?_cons_zero, List.getElem?_cons_succ, ops_bin, ops_inpl, ops_un, ops_cmp, ops_truth, ops_idx, ops_slice, ops_bcall, ops_items, opBin, opUn, opCmp, intCmp, f1, f2, f3, f4, f5, f6, Res.bind, resS, List.set_cons_zero, List.set_cons_succ, ofB, Res.truth, opTruth, smp1, decide_true, decide_false, if_true, if_false, not_true_eq_false, not_false_eq_true, c1, c2]
    · by_cases c3 : -((-high).fdiv unit) - 1 < 0
      · simp only [smpBody, pxs, px, pe, PR.of, List.getElem?_cons_zero, List.getElem?_cons_succ, ops_bin, ops_inpl, ops_un, ops_cmp, ops_truth, ops_idx, ops_slice, ops_bcall, ops_items, opBin, opUn, opCmp, intCmp, f1, f2, f3, f4, f5, f6, Res.bind, resS, List.set_cons_zero, List.set_cons_succ, ofB, Res.truth, opTruth, smp1, decide_true, decide_false, if_true, if_false, not_true_eq_false, not_false_eq_true, c1, c2, c3]
      · simp only [smpBody, pxs, px, pe, PR.of, List.getElem?_cons_zero, List.getElem?_cons_succ, ops_bin, ops_inpl, ops_un, ops_cmp, ops_truth, ops_idx, ops_slice, ops_bcall, ops_items, opBin, opUn, opCmp, intCmp, f1, f2, f3, f4, f5, f6, Res.bind, resS, List.set_cons_zero, List.set_cons_succ, ofB, Res.truth, opTruth, smp1, decide_true, decide_false, if_true, if_false, not_true_eq_false, not_false_eq_true, c1, c2, c3]
  · simp only [smpBody, pxs, px, pe, PR.of, List.getElem?_cons_zero, List.getElem?_cons_succ, ops_bin, ops_inpl, ops_un, ops_cmp, ops_truth, ops_idx, ops_slice, ops_bcall, ops_items, opBin, opUn, opCmp, intCmp, f1, f2, f3, f4, f5, f6, Res.bind, resS, List.set_cons_zero, List.set_cons_succ, ofB, Res.truth, opTruth, smp1, decide_true, decide_false, if_true, if_false, not_true_eq_false, not_false_eq_true, c1]

theorem smp_loop (low high : Int) (K : List (Option Ent) → FR) (r : FR) (hK : ∀ ρ, K ρ = r) : ∀ (j : Nat) (l : List AV) (e0 e1 e5 e6 e7 : Option Ent), j < 60 → l.length = j + 1 →
    (match forF (fun x ρ => pxs ops cal0 true (ρ.set 5 (some (.val x))) smpBody) l [e0, e1, some (.val (.int low)), some (.val (.int high)), some (.val (.int (2 ^ j))), e5, e6, e7] with | .next ρ' => K ρ' | f => f)
      = match smp low high j with
        | some m => .ret (.int m)
        | none => r
  | 0, [x], e0, e1, e5, e6, e7, _, _ => by
    have h := smpBody_eq low high 1 (by omega) (by omega) e0 e1 (some (.val x)) e6 e7
    simp only [forF, List.set_cons_zero, List.set_cons_succ, Int.pow_zero, h, smp]
    cases smp1 low high 1 with
    | some m => rfl
    | none => exact hK _
  | j + 1, x :: l, e0, e1, e5, e6, e7, hj, hl => by
    have hp : (0 : Int) < 2 ^ (j + 1) := Int.pow_pos (by omega)
    have hq : (2 : Int) ^ (j + 1) < 2 ^ 62 := by
      have := Nat.pow_lt_pow_right (a := 2) (by omega) (show j + 1 < 62 by omega)
      have e : ((2 ^ (j + 1) : Nat) : Int) = (2 : Int) ^ (j + 1) := by simp
      omega
    have h := smpBody_eq low high (2 ^ (j + 1)) hp hq e0 e1 (some (.val x)) e6 e7
    have h2 : ((2 : Int) ^ (j + 1)).fdiv 2 = 2 ^ j := by
      rw [Int.pow_succ, Int.fdiv_eq_ediv_of_nonneg _ (by omega)]; omega
    simp only [forF, List.set_cons_zero, List.set_cons_succ, h]
    have ih := smp_loop low high K r hK j l e0 e1 (some (.val x)) (some (.val (.int (low.fdiv (2 ^ (j + 1)) + 1)))) (some (.val (.int (-((-high).fdiv (2 ^ (j + 1))) - 1)))) (by omega) (by simpa using hl)
    rw [h2]
    simp only [smp]
    cases smp1 low high (2 ^ (j + 1)) with
    | some m => rfl
    | none => exact ih
  | 0, [], _, _, _, _, _, _, h => by simp at h
  | 0, _ :: _ :: _, _, _, _, _, _, _, h => by simp at h
  | j + 1, [], _, _, _, _, _, _, h => by simp at h

theorem ints_map (l : List Int) : ints? (l.map .int) = some l := by
  induction l with
  | nil => rfl
  | cons a l ih => simp [ints?, ih]
theorem maxI_some : ∀ l : List Int, l ≠ [] → ∃ m, maxI l = some m
  | [], h => absurd rfl h
  | [a], _ => ⟨a, rfl⟩
  | a :: b :: r, _ => by
    obtain ⟨m, h⟩ := maxI_some (b :: r) (by simp)
    exact ⟨_, by show (maxI (b :: r)).map _ = _; rw [h]; rfl⟩
theorem minI_some : ∀ l : List Int, l ≠ [] → ∃ m, minI l = some m
  | [], h => absurd rfl h
  | [a], _ => ⟨a, rfl⟩
  | a :: b :: r, _ => by
    obtain ⟨m, h⟩ := minI_some (b :: r) (by simp)
    exact ⟨_, by show (minI (b :: r)).map _ = _; rw [h]; rfl⟩

def smpL (low high : Int) : List Int → Option Int
  | [] => none
  | u :: r => match smp1 low high u with
    | some m => some m
    | none => smpL low high r
theorem smp_succ (low high : Int) (j : Nat) : smp low high (j + 1) = match smp1 low high (2 ^ (j + 1)) with | some m => some m | none => smp low high j := rfl
theorem smpL_eq (low high : Int) : smpL low high [2048, 1024, 512, 256, 128, 64, 32, 16, 8, 4, 2, 1] = smp low high 11 := by
  simp only [smpL, smp_succ, show (2 : Int) ^ (10 + 1) = 2048 from rfl, show (2 : Int) ^ (9 + 1) = 1024 from rfl, show (2 : Int) ^ (8 + 1) = 512 from rfl, show (2 : Int) ^ (7 + 1) = 256 from rfl, show (2 : Int) ^ (6 + 1) = 128 from rfl, show (2 : Int) ^ (5 + 1) = 64 from rfl,
    show (2 : Int) ^ (4 + 1) = 32 from rfl, show (2 : Int) ^ (3 + 1) = 16 from rfl, show (2 : Int) ^ (2 + 1) = 8 from rfl, show (2 : Int) ^ (1 + 1) = 4 from rfl, show (2 : Int) ^ (0 + 1) = 2 from rfl]
  have e : smp low high 0 = match smp1 low high 1 with | some m => some m | none => none := by
    show smp1 low high 1 = _
    cases smp1 low high 1 <;> rfl
  rw [e]
def simplest (lows highs : List Int) : AV := match maxI (lows ++ [-1000000]), minI (highs ++ [1000000]) with
  | some low, some high => (match smpL low high [2048, 1024, 512, 256, 128, 64, 32, 16, 8, 4, 2, 1] with | some m => .int m | none => .none)
  | _, _ => .none

theorem simplest_eq (lows highs : List Int) (hl : lows.length ≤ 1000) (hh : highs.length ≤ 1000) : calA 1 [.lst (lows.map .int), .lst (highs.map .int)] = .ok (simplest lows highs) := by
  show fnRes (pxs ops cal0 true [some (.val (.lst (lows.map .int))), some (.val (.lst (highs.map .int))), none, none, none, none, none, none] law_simplest_p) = _
  obtain ⟨low, e1⟩ := maxI_some (lows ++ [-1000000]) (by simp)
  obtain ⟨high, e2⟩ := minI_some (highs ++ [1000000]) (by simp)
  have p1 : intBin .Pow 10 6 = .ok (.int 1000000) := by kernel_rfl
  have a1 : ints? (lows.map AV.int ++ [.int (-1000000)]) = some (lows ++ [-1000000]) := by rw [← ints_map]; simp
  have a2 : ints? (highs.map AV.int ++ [.int 1000000]) = some (highs ++ [1000000]) := by rw [← ints_map]; simp
  have b1 : (lows.map AV.int).length + (0 + 1) ≤ 1048576 := by simp; omega
  have b2 : (highs.map AV.int).length + (0 + 1) ≤ 1048576 := by simp; omega
  have r1 : itemsV (.range 0 12 1) = some (rangeL 0 12 1) := by kernel_rfl
  have r2 : (rangeL 0 12 1).length = 11 + 1 := by decide +kernel
  have L := smp_loop low high (fun ρ => pxs ops cal0 true ρ (.cons (.ret (.const .none)) .nil)) (.ret .none) (fun ρ => by simp [pxs, px, pe, PR.of, resS]) 11 (rangeL 0 12 1) (some (.val (.lst (lows.map .int)))) (some (.val (.lst (highs.map .int)))) none none none (by omega) r2
  simp only [law_simplest_p, pxs, px, pe, pes, PR.of, List.getElem?_cons_zero, List.getElem?_cons_succ, ops_bin, ops_inpl, ops_un, ops_cmp, ops_truth, ops_idx, ops_slice, ops_bcall, ops_items, opBin, opUn, Res.bind, resS, List.set_cons_zero, List.set_cons_succ, p1, seqV, seqO, onSome, Option.map_some, b1, b2, if_true, callB, a1, a2, e1, e2, List.length_cons, List.length_nil, r1,
    show (0 + 1 ≤ 100) = True from by simp]
  have L' := congrArg fnRes L
  refine Eq.trans ?_ (L'.trans ?_)
  · rfl
  · simp only [simplest, e1, e2, smpL_eq]
    cases smp low high 11 <;> rfl
end Mine
end
section
open PySem PySem.W PyProof.Rows
namespace Mine
set_option maxRecDepth 100000
def turnIf : PS := .ite (.bop .Or (.cons (.name 7) (.cons (.cmp .NotEq (.sub (.name 3) (.name 8)) (.sub (.name 3) (.const (.int 0)))) .nil)))
 (.cons (.assign 7 false (.const (.bool true)))
 (.cons (.assign 6 false (.call 0 (.cons (.name 6) (.cons (.const (.int 2)) .nil))))
 (.cons (.ite (.cmp .IsNot (.bcall .type (.cons (.name 6) .nil)) (.glob .float))
 (.cons (.ret (.const (.bool false))) .nil)
 (.nil)) .nil)))
 (.nil)
def turnRest : PSs :=
 (.cons (.assign 5 false (.bin .Add (.name 5) (.bin .Mult (.sub (.name 3) (.name 8)) (.name 6))))
 (.cons (.assign 9 false (.comp [3, 4] (.sub (.name 4) (.name 15)) (.bcall .range (.cons (.bin .Add (.name 8) (.const (.int 1))) .nil)) (.cons (.cmp .Eq (.sub (.name 3) (.name 15)) (.const (.int 1))) .nil)))
 (.cons (.assign 10 false (.comp [3, 4] (.sub (.name 4) (.name 15)) (.bcall .range (.cons (.bin .Add (.name 8) (.const (.int 1))) .nil)) (.cons (.cmp .Eq (.sub (.name 3) (.name 15)) (.un .USub (.const (.int 1)))) .nil)))
 (.cons (.assign 11 false (.call 1 (.cons (.name 9) (.cons (.name 10) .nil))))
 (.cons (.append 4 (.name 11) none)
 (.cons (.ite (.cmp .NotEq (.bin .Mult (.name 5) (.const (.int 2048))) (.name 11))
 (.cons (.ret (.const (.bool false))) .nil)
 (.nil))
 (.cons (.assign 12 false (.call 0 (.cons (.name 11) (.cons (.const (.int 2048)) .nil))))
 (.cons (.assign 13 false (.call 0 (.cons (.name 12) (.cons (.call 0 (.cons (.const (.int 1)) (.cons (.const (.int 2048)) .nil))) .nil))))
 (.cons (.ite (.bop .Or (.cons (.cmp .IsNot (.bcall .type (.cons (.name 12) .nil)) (.glob .float)) (.cons (.cmp .NotEq (.name 12) (.name 5)) (.cons (.cmp .IsNot (.bcall .type (.cons (.name 13) .nil)) (.glob .float)) (.cons (.cmp .NotEq (.name 13) (.name 11)) .nil)))))
 (.cons (.ret (.const (.bool false))) .nil)
 (.nil))
 (.cons (.ite (.bop .Or (.cons (.un .Not (.call 2 (.cons (.name 11) (.cons (.const (.int 0)) .nil)))) (.cons (.un .Not (.call 2 (.cons (.name 12) (.cons (.const (.int 0)) .nil)))) (.cons (.un .Not (.call 2 (.cons (.name 11) (.cons (.const (.bool false)) .nil)))) .nil))))
 (.cons (.ret (.const (.bool false))) .nil)
 (.nil)) .nil))))))))))
def turnBody : PSs := .cons turnIf turnRest

structure St where
  lows : List Int
  highs : List Int
  last : Int
  value : AV
  step : AV
  turned : Bool

def stepP (t : Bool) (step : AV) : Option AV := match t with
  | true => (match opInpl .Div step (.int 2) with | .ok (.float x) => some (.float x) | _ => none)
  | false => some step
def valueP (value step : AV) (s : Int) : Option AV := match opBin .Mult (.int s) step with
  | .ok p => (match opBin .Add value p with | .ok v => some v | _ => none)
  | _ => none
def lowsP (s : Int) (σ : St) : List Int := if s = 1 then σ.lows ++ [σ.last] else σ.lows
def highsP (s : Int) (σ : St) : List Int := if s = -1 then σ.highs ++ [σ.last] else σ.highs
/-- is the worth right, and are the quotients -/
def tellsP (value : AV) (told : Int) : Bool := match opBin .Mult value (.int 2048), opInpl .Div (.int told) (.int 2048), opInpl .Div (.int 1) (.int 2048) with
  | .ok v2, .ok (.float md), .ok (.float x) => (match opCmp .NotEq v2 (.int told), opInpl .Div (.float md) (.float x) with
    | some false, .ok (.float bk) => (match opCmp .NotEq (.float md) value, opCmp .NotEq (.float bk) (.int told) with
      | some false, some false => true
      | _, _ => false)
    | _, _ => false)
  | _, _, _ => false
def turnP (w0 s : Int) (σ : St) : Option St := match stepP (σ.turned || s != w0) σ.step with
  | none => none
  | some step => (match valueP σ.value step s with
    | none => none
    | some value => (match simplest (lowsP s σ) (highsP s σ) with
      | .int told => if tellsP value told then some ⟨lowsP s σ, highsP s σ, told, value, step, σ.turned || s != w0⟩ else none
      | _ => none))
def wholeOk (m : Int) : Bool := match opBin .Mult (.int m) (.int 4096) with
  | .ok v => (match opInpl .Div v (.int 4096) with | .ok (.float x) => (opCmp .NotEq (.float x) (.int m) == some false) | _ => false)
  | _ => false
/- what is handed on is reckoned out first -/
def st0 : St := ⟨[], [], 0, .int 0, .int 1, false⟩
end Mine
namespace Mine
theorem mapF_eq {f : AV → Option (Option AV)} {g : Nat → AV} {h : Nat → Option AV} : ∀ l : List Nat, (∀ i ∈ l, f (g i) = some (h i)) → mapF f (l.map g) = some (l.filterMap h)
  | [], _ => rfl
  | i :: l, H => by
    have e := H i (List.mem_cons_self ..)
    have r := mapF_eq l fun j hj => H j (List.mem_cons_of_mem _ hj)
    simp only [List.map_cons, mapF, e, r, List.filterMap_cons]
    cases h i <;> rfl
theorem idx_nat {xs : List AV} {j : Nat} {x : AV} (h : xs[j]? = some x) : idxL xs (j : Int) = .ok x := by
  unfold idxL
  rw [if_pos (by omega), Int.toNat_natCast, h]
theorem range_items (n : Nat) (h : n ≤ 1000) : itemsV (.range 0 n 1) = some ((List.range n).map fun (i : Nat) => .int i) := by
  have hs : Builtin.Range.small 0 n 1 = true := small_one (by omega) (by omega) (by omega) (by omega)
  have hz : Builtin.Range.rangeSize 0 n 1 = n := by rw [rangeSize_one]; split <;> omega
  unfold itemsV
  simp only [hs, if_true, hz, Int.toNat_natCast]
  rw [if_pos (by omega)]
  unfold rangeL
  rw [hz]
  simp only [Int.toNat_natCast, Int.zero_add, Int.mul_one]

/-- what stands at the places with a sign -/
def picks (v : Int) (word ws : List Int) (n : Nat) : List Int := (List.range n).filterMap fun j => if word[j]? = some v then ws[j]? else none
theorem picks_succ (v : Int) (word ws : List Int) (n : Nat) : picks v word ws (n + 1) = picks v word ws n ++ (if word[n]? = some v then ws[n]? else none).toList := by
  unfold picks
  rw [List.range_succ, List.filterMap_append]
  simp only [List.filterMap_cons, List.filterMap_nil]
  congr 1
  try (cases (if word[n]? = some v then ws[n]? else none) <;> rfl)
theorem picks_append (v : Int) (word ws : List Int) (x : Int) (n : Nat) (h : n ≤ ws.length) : picks v word (ws ++ [x]) n = picks v word ws n := by
  unfold picks
  have : ∀ l : List Nat, (∀ i ∈ l, i < ws.length) → l.filterMap (fun j => if word[j]? = some v then (ws ++ [x])[j]? else none) = l.filterMap fun j => if word[j]? = some v then ws[j]? else none := by
    intro l
    induction l with
    | nil => intro _; rfl
    | cons i l ih =>
      intro H
      have hi := H i (List.mem_cons_self ..)
      simp only [List.filterMap_cons]
      rw [List.getElem?_append_left hi, ih fun j hj => H j (List.mem_cons_of_mem _ hj)]
  exact this _ fun i hi => by have := List.mem_range.mp hi; omega
theorem picks_length (v : Int) (word ws : List Int) (n : Nat) : (picks v word ws n).length ≤ n := by
  unfold picks
  exact Nat.le_trans (List.length_filterMap_le _ _) (by simp)

theorem if_turn {word : List Int} {k : Nat} {s w0 : Int} {step step' : AV} {turned : Bool} (hk : word[k]? = some s) (h0 : word[0]? = some w0) (hs : stepP (turned || s != w0) step = some step')
    (e0 e1 e2 e4 e5 e9 e10 e11 e12 e13 e14 : Option Ent) :
    px ops calB true [e0, e1, e2, some (.val (.lst (word.map .int))), e4, e5, some (.val step), some (.val (.bool turned)), some (.val (.int k)), e9, e10, e11, e12, e13, e14] turnIf
      = .next [e0, e1, e2, some (.val (.lst (word.map .int))), e4, e5, some (.val step'), some (.val (.bool (turned || s != w0))), some (.val (.int k)), e9, e10, e11, e12, e13, e14] := by
  have i1 : idxL (word.map AV.int) (k : Int) = .ok (.int s) := idx_nat (by rw [List.getElem?_map, hk]; rfl)
  have i2 : idxL (word.map AV.int) 0 = .ok (.int w0) := idx_nat (j := 0) (by rw [List.getElem?_map, h0]; rfl)
  have cb : ∀ a b, calB 0 [a, b] = opInpl .Div a b := itruediv_eq
  have fl : BI.name .float = "float" := rfl
  have tr : ∀ x : UInt64, tyName (.float x) = some "float" := fun _ => rfl
  have pl : plainCmp .IsNot ("float" == "float") = some false := rfl
  have go : ∀ x : UInt64, opInpl .Div step (.int 2) = .ok (.float x) → pxs ops calB true [e0, e1, e2, some (.val (.lst (word.map .int))), e4, e5, some (.val step), some (.val (.bool turned)), some (.val (.int k)), e9, e10, e11, e12, e13, e14]
     (.cons (.assign 7 false (.const (.bool true)))
 (.cons (.assign 6 false (.call 0 (.cons (.name 6) (.cons (.const (.int 2)) .nil))))
 (.cons (.ite (.cmp .IsNot (.bcall .type (.cons (.name 6) .nil)) (.glob .float))
 (.cons (.ret (.const (.bool false))) .nil)
 (.nil)) .nil))) = .next [e0, e1, e2, some (.val (.lst (word.map .int))), e4, e5, some (.val (.float x)), some (.val (.bool true)), some (.val (.int k)), e9, e10, e11, e12, e13, e14] := by
    intro x hx
    simp only [pxs, px, pe, pes, PR.of, List.getElem?_cons_zero, List.getElem?_cons_succ, ops_bin, ops_inpl, ops_un, ops_cmp, ops_truth, ops_idx, ops_slice, ops_bcall, ops_items, opCmp, Res.bind, resS, List.set_cons_zero, List.set_cons_succ, seqV, seqO, onSome, Option.map_some, cb, hx, callB, tr, fl, pl, ofB, Res.truth, opTruth]
  cases turned with
  | true =>
    simp only [Bool.true_or, stepP] at hs
    cases hd : opInpl .Div step (.int 2) with
    | ok v =>
      rw [hd] at hs
      cases v <;> simp only [reduceCtorEq, Option.some.injEq] at hs
      subst hs
      have := go _ hd
      simp only [turnIf, px, pe, pes, PR.of, List.getElem?_cons_zero, List.getElem?_cons_succ, ops_truth, opTruth, Res.truth, allT, this, Bool.true_or]
    | exc _ => rw [hd] at hs; cases hs
    | stuck => rw [hd] at hs; cases hs
  | false =>
    by_cases hne : s = w0
    · subst hne
      simp only [bne_self_eq_false, Bool.or_self, stepP, Option.some.injEq] at hs
      subst hs
      simp only [turnIf, pxs, px, pe, pes, PR.of, List.getElem?_cons_zero, List.getElem?_cons_succ, ops_truth, ops_idx, ops_cmp, opTruth, Res.truth, Res.bind, allT, opIdx, i1, i2, opCmp, intCmp, ofB, bne_self_eq_false, Bool.or_self]
      rfl
    · have hb : (s != w0) = true := by simp [hne]
      simp only [hb, Bool.or_true, stepP] at hs
      cases hd : opInpl .Div step (.int 2) with
      | ok v =>
        rw [hd] at hs
        cases v <;> simp only [reduceCtorEq, Option.some.injEq] at hs
        subst hs
        have := go _ hd
        simp only [turnIf, px, pe, pes, PR.of, List.getElem?_cons_zero, List.getElem?_cons_succ, ops_truth, ops_idx, ops_cmp, opTruth, Res.truth, Res.bind, allT, opIdx, i1, i2, opCmp, intCmp, ofB, hb, Bool.or_true, this]
      | exc _ => rw [hd] at hs; cases hs
      | stuck => rw [hd] at hs; cases hs
end Mine
end
section
open PySem PySem.W PyProof.Rows
namespace Mine
set_option maxRecDepth 100000
set_option linter.unusedSimpArgs false

theorem pxs_next {O : OpsF} {cal : Nat → List AV → Res} {q : Bool} {ρ ρ' : List (Option Ent)} {s : PS} {r : PSs} (h : px O cal q ρ s = .next ρ') : pxs O cal q ρ (.cons s r) = pxs O cal q ρ' r := by rw [pxs, h]
section
variable {O : OpsF} {cal : Nat → List AV → Res} {q : Bool} {ρ : List (Option Ent)}
theorem pe_const {v : AV} : pe O cal q ρ (.const v) = .of O.truth (.ok v) := by rw [pe]
theorem pe_name {i : Nat} : pe O cal q ρ (.name i) = match ρ[i]? with
    | some (some (.val v)) => .of O.truth (.ok v)
    | some (some (.own xs)) => ⟨.stuck, .ok (.lst xs), O.truth (.lst xs)⟩
    | _ => .of O.truth .stuck := by rw [pe] <;> rfl
theorem pe_glob {b : BI} : pe O cal q ρ (.glob b) = .of O.truth (.ok (.type b.name)) := by rw [pe]
theorem pe_bin {op : Operator} {l r : PE} : pe O cal q ρ (.bin op l r) = .of O.truth ((pe O cal q ρ l).o.bind fun a => (pe O cal q ρ r).o.bind fun b => O.bin op a b) := by rw [pe]
theorem pe_un {op : UnaryOp} {x : PE} : pe O cal q ρ (.un op x) = ⟨(pe O cal q ρ x).o.bind fun a => O.un op a, (pe O cal q ρ x).o.bind fun a => O.un op a, match op with | .Not => (pe O cal q ρ x).t.map (!·) | _ => ((pe O cal q ρ x).o.bind fun a => O.un op a).truth O.truth⟩ := by
  cases op <;> rw [pe] <;> (intro h; cases h)
theorem pe_cmp {op : CmpOp} {l r : PE} : pe O cal q ρ (.cmp op l r) = .of O.truth ((pe O cal q ρ l).o.bind fun a => (pe O cal q ρ r).o.bind fun b => ofB (O.cmp op a b)) := by rw [pe]
theorem pe_bop {op : BoolOp} {xs : PEs} : pe O cal q ρ (.bop op xs) = ⟨bopV O.truth op (pes O cal q ρ xs), bopV O.truth op (pes O cal q ρ xs), allT op (pes O cal q ρ xs)⟩ := by rw [pe]
theorem pe_ife {t a b : PE} : pe O cal q ρ (.ife t a b) = match (pe O cal q ρ t).t with
    | some true => ⟨(pe O cal q ρ a).v, (pe O cal q ρ a).v, (pe O cal q ρ a).t⟩
    | some false => ⟨(pe O cal q ρ b).v, (pe O cal q ρ b).v, (pe O cal q ρ b).t⟩
    | none => ⟨.stuck, .stuck, none⟩ := by rw [pe] <;> rfl
theorem pe_list {xs : PEs} : pe O cal q ρ (.list xs) = .of O.truth (onSome (seqV (pes O cal q ρ xs)) fun l => if l.length ≤ 100 then .ok (.lst l) else .stuck) := by rw [pe]
theorem pe_tup {xs : PEs} : pe O cal q ρ (.tup xs) = .of O.truth (onSome (seqV (pes O cal q ρ xs)) fun l => if l.length ≤ 100 then .ok (.tup l) else .stuck) := by rw [pe]
theorem pe_sub {o i : PE} : pe O cal q ρ (.sub o i) = .of O.truth ((pe O cal q ρ o).o.bind fun a => (pe O cal q ρ i).o.bind fun b => O.idx a b) := by rw [pe]
theorem pe_slice {o a b s : PE} : pe O cal q ρ (.slice o a b s) = .of O.truth ((pe O cal q ρ o).o.bind fun v => (pe O cal q ρ a).v.bind fun x => (pe O cal q ρ b).v.bind fun y => (pe O cal q ρ s).v.bind fun z => O.slice v x y z) := by rw [pe]
theorem pe_call {f : Nat} {xs : PEs} : pe O cal true ρ (.call f xs) = .of O.truth (onSome (seqV (pes O cal true ρ xs)) fun l => cal f l) := by rw [pe]
theorem pe_bcall {f : BI} {xs : PEs} : pe O cal true ρ (.bcall f xs) = .of O.truth (onSome (seqO (pes O cal true ρ xs)) fun l => O.bcall f l) := by rw [pe]
end
theorem px_assign {O : OpsF} {cal : Nat → List AV → Res} {q : Bool} {ρ : List (Option Ent)} {i : Nat} {e : PE} {v : AV} (h : (pe O cal q ρ e).v = .ok v) : px O cal q ρ (.assign i false e) = .next (ρ.set i (some (.val v))) := by
  rw [px, h]; rfl
theorem pe_comp {O : OpsF} {cal : Nat → List AV → Res} {ρ : List (Option Ent)} {caps : List Nat} {elt src : PE} {conds : PEs} {a : AV} {l ys : List AV} (h1 : (pe O cal true ρ src).o = .ok a) (h2 : O.items a = some l)
    (h3 : mapF (fun x => compF (allT .And) (pes O cal true (mask caps ρ ++ [some (.val x)]) conds) (pe O cal true (mask caps ρ ++ [some (.val x)]) elt)) l = some ys) : pe O cal true ρ (.comp caps elt src conds) = .of O.truth (.ok (.lst ys)) := by
  rw [pe, h1]
  simp only [Res.bind, h2, onSome, h3]

theorem comp_pick (word ws : List Int) (k : Nat) (v : Int) (hw : k < word.length) (hs : k < ws.length) (e0 e1 e2 e5 e6 e7 e8 e9 e10 e11 e12 e13 e14 : Option Ent) (cnd : PE) 
    (hc : ∀ ρ, (pe ops calB true ρ cnd).v = .ok (.int v) ∧ (pe ops calB true ρ cnd).o = .ok (.int v)) :
    mapF (fun x => compF (allT .And) (pes ops calB true (mask [3, 4] [e0, e1, e2, some (.val (.lst (word.map .int))), some (.own (ws.map .int)), e5, e6, e7, e8, e9, e10, e11, e12, e13, e14] ++ [some (.val x)]) (.cons (.cmp .Eq (.sub (.name 3) (.name 15)) cnd) .nil))
      (pe ops calB true (mask [3, 4] [e0, e1, e2, some (.val (.lst (word.map .int))), some (.own (ws.map .int)), e5, e6, e7, e8, e9, e10, e11, e12, e13, e14] ++ [some (.val x)]) (.sub (.name 4) (.name 15)))) ((List.range (k + 1)).map fun (i : Nat) => .int i)
      = some ((picks v word ws (k + 1)).map .int) := by
  rw [mapF_eq (h := fun j => if word[j]? = some v then (ws[j]?).map AV.int else none)]
  · congr 1
    unfold picks
    rw [List.map_filterMap]
    congr 1
    funext j
    split <;> rfl
  · intro j hj
    have hj := List.mem_range.mp hj
    have hm : ∀ y, mask [3, 4] [e0, e1, e2, some (.val (.lst (word.map AV.int))), some (.own (ws.map AV.int)), e5, e6, e7, e8, e9, e10, e11, e12, e13, e14] ++ [y]
      = [none, none, none, some (.val (.lst (word.map AV.int))), some (.own (ws.map AV.int)), none, none, none, none, none, none, none, none, none, none, y] := fun y => by simp [mask]
    obtain ⟨wj, h1⟩ : ∃ y, word[j]? = some y := ⟨word[j]'(by omega), by simp⟩
    obtain ⟨sj, h2⟩ : ∃ y, ws[j]? = some y := ⟨ws[j]'(by omega), by simp⟩
    have i1 : idxL (word.map AV.int) (j : Int) = .ok (.int wj) := idx_nat (by rw [List.getElem?_map, h1]; rfl)
    have i2 : idxL (ws.map AV.int) (j : Int) = .ok (.int sj) := idx_nat (by rw [List.getElem?_map, h2]; rfl)
    rw [hm]
    simp only [pe, pes, PR.of, List.getElem?_cons_zero, List.getElem?_cons_succ, ops_truth, ops_idx, ops_cmp, opTruth, Res.truth, Res.bind, allT, opIdx, i1, i2, opCmp, intCmp, ofB, (hc _).2, compF, h1, h2, Option.some.injEq, Option.map_some]
    by_cases hv : wj = v
    · subst hv; simp
    · have : (wj == v) = false := by simp [hv]
      simp only [this, hv, if_false]

theorem mulOk_small (a b : Int) (h0 : -(2 ^ 62) < b) (h1 : b < 2 ^ 62) : mulOk a b = true := mulOk_iff.mpr (.of_right (intBits_le_64 (by omega) (by omega)))

theorem div_zero (a : Int) : opInpl .Div (.int a) (.int 0) = .exc .zde := by simp [opInpl, intBin]
theorem div_false (a : Int) : opInpl .Div (.int a) (.bool false) = .exc .zde := by simp [opInpl, intBin, b2i]
theorem or_and : (BoolOp.Or == BoolOp.And) = false := by decide
theorem src_ok {ρ : List (Option Ent)} {k : Nat} (h : ρ[8]? = some (some (.val (.int k)))) : (pe ops calB true ρ (.bcall .range (.cons (.bin .Add (.name 8) (.const (.int 1))) .nil))).o = .ok (.range 0 ((k + 1 : Nat) : Int) 1) := by
  have ra : ∀ a b, intBin .Add a b = .ok (.int (a + b)) := fun _ _ => rfl
  simp only [pe_bcall, pes, pe_bin, pe_name, h, pe_const, PR.of, Res.bind, ops_bin, opBin, ra, seqO, Option.map_some, onSome, ops_bcall, callB, Int.natCast_add, Int.natCast_one]
theorem rest_turn {word ws : List Int} {k : Nat} {s : Int} {value value' step : AV} {told : Int} (hk : word[k]? = some s) (hwl : ws.length = k + 1) (hk100 : k < 100) (hv : valueP value step s = some value') (ht : simplest (picks 1 word ws (k + 1)) (picks (-1) word ws (k + 1)) = .int told) (hok : tellsP value' told = true)
    (e0 e1 e2 e7 e9 e10 e11 e12 e13 e14 : Option Ent) :
    ∃ m b lo hi, pxs ops calB true [e0, e1, e2, some (.val (.lst (word.map .int))), some (.own (ws.map .int)), some (.val value), some (.val step), e7, some (.val (.int k)), e9, e10, e11, e12, e13, e14] turnRest
      = .next [e0, e1, e2, some (.val (.lst (word.map .int))), some (.own ((ws ++ [told]).map .int)), some (.val value'), some (.val step), e7, some (.val (.int k)), lo, hi, some (.val (.int told)), m, b, e14] := by
  have hkw : k < word.length := (List.getElem?_eq_some_iff.mp hk).1
  have i1 : idxL (word.map AV.int) (k : Int) = .ok (.int s) := idx_nat (by rw [List.getElem?_map, hk]; rfl)
  have cb : ∀ a b, calB 0 [a, b] = opInpl .Div a b := itruediv_eq
  have fl : BI.name .float = "float" := rfl
  have tr : ∀ x : UInt64, tyName (.float x) = some "float" := fun _ => rfl
  have pl : plainCmp .IsNot ("float" == "float") = some false := rfl
  have hri := range_items (k + 1) (by omega)
  have e1' : ((k : Int) + 1) = ((k + 1 : Nat) : Int) := by omega
  unfold valueP at hv
  cases hp : opBin .Mult (.int s) step with
  | exc _ => rw [hp] at hv; cases hv
  | stuck => rw [hp] at hv; cases hv
  | ok p =>
  rw [hp] at hv
  simp only at hv
  cases hq : opBin .Add value p with
  | exc _ => rw [hq] at hv; cases hv
  | stuck => rw [hq] at hv; cases hv
  | ok v' =>
  rw [hq] at hv
  simp only [Option.some.injEq] at hv
  subst hv
  unfold tellsP at hok
  split at hok
  case h_2 => cases hok
  rename_i v2 md x m1 m2 m3
  split at hok
  case h_2 => cases hok
  rename_i bk m4 m5
  split at hok
  case h_2 => cases hok
  rename_i m6 m7
  have c1 := comp_pick word ws k 1 hkw (by omega) e0 e1 e2 (some (.val v')) (some (.val step)) e7 (some (.val (.int k))) e9 e10 e11 e12 e13 e14 (.const (.int 1)) (fun ρ => ⟨rfl, rfl⟩)
  have c2 := comp_pick word ws k (-1) hkw (by omega) e0 e1 e2 (some (.val v')) (some (.val step)) e7 (some (.val (.int k))) (some (.val (.lst ((picks 1 word ws (k + 1)).map .int)))) e10 e11 e12 e13 e14 (.un .USub (.const (.int 1))) (fun ρ => ⟨rfl, rfl⟩)
  have sm : calB 1 [.lst ((picks 1 word ws (k + 1)).map .int), .lst ((picks (-1) word ws (k + 1)).map .int)] = .ok (.int told) := by
    have := simplest_eq (picks 1 word ws (k + 1)) (picks (-1) word ws (k + 1)) (Nat.le_trans (picks_length ..) (by omega)) (Nat.le_trans (picks_length ..) (by omega))
    rw [ht] at this; exact this
  have ra : ∀ a b, intBin .Add a b = .ok (.int (a + b)) := fun _ _ => rfl
  have rf1 : calB 2 [.int told, .int 0] = .ok (.bool true) := refused_eq _ _ (div_zero told)
  have rf2 : calB 2 [.float md, .int 0] = .ok (.bool true) := refused_eq _ _ (by
    show fiBin .Div md 0 = _
    unfold fiBin
    have z1 : Float64.isInf (Float64.ofInt 0) = false := by decide +kernel
    have z2 : Float64.isZero (Float64.ofInt 0) = true := by decide +kernel
    simp only [z1, z2, if_true, Bool.false_eq_true, if_false])
  have rf3 : calB 2 [.int told, .bool false] = .ok (.bool true) := refused_eq _ _ (div_false told)
  have hlen : (ws.map AV.int).length < 1000000 := by simp; omega
  refine ⟨some (.val (.float md)), some (.val (.float bk)), some (.val (.lst ((picks 1 word ws (k + 1)).map .int))), some (.val (.lst ((picks (-1) word ws (k + 1)).map .int))), ?_⟩
  have hc9 := pe_comp (O := ops) (cal := calB) (caps := [3, 4]) (src := .bcall .range (.cons (.bin .Add (.name 8) (.const (.int 1))) .nil)) (ρ := [e0, e1, e2, some (.val (.lst (word.map .int))), some (.own (ws.map .int)), some (.val v'), some (.val step), e7, some (.val (.int k)), e9, e10, e11, e12, e13, e14])
    (a := .range 0 ((k + 1 : Nat) : Int) 1) (src_ok rfl) (by rw [ops_items]; exact hri) c1
  have hc10 := pe_comp (O := ops) (cal := calB) (caps := [3, 4]) (src := .bcall .range (.cons (.bin .Add (.name 8) (.const (.int 1))) .nil)) (ρ := [e0, e1, e2, some (.val (.lst (word.map .int))), some (.own (ws.map .int)), some (.val v'), some (.val step), e7, some (.val (.int k)), some (.val (.lst ((picks 1 word ws (k + 1)).map .int))), e10, e11, e12, e13, e14])
    (a := .range 0 ((k + 1 : Nat) : Int) 1) (src_ok rfl) (by rw [ops_items]; exact hri) c2
  have q1 : ops.bin .Mult (.int s) step = .ok p := by rw [ops_bin]; exact hp
  have q2 : ops.bin .Add value p = .ok v' := by rw [ops_bin]; exact hq
  have q3 : ops.bin .Mult v' (.int 2048) = .ok v2 := by rw [ops_bin]; exact m1
  have q4 : ops.cmp .NotEq v2 (.int told) = some false := by rw [ops_cmp]; exact m4
  have q6 : ops.cmp .NotEq (.float md) v' = some false := by rw [ops_cmp]; exact m6
  have q7 : ops.cmp .NotEq (.float bk) (.int told) = some false := by rw [ops_cmp]; exact m7
  have q8 : ops.cmp .IsNot (.type "float") (.type "float") = some false := by rw [ops_cmp]; rfl
  have q9 : ∀ y, ops.bcall .type [.float y] = .ok (.type "float") := fun _ => by rw [ops_bcall]; rfl
  have q10 : ops.idx (.lst (word.map AV.int)) (.int k) = .ok (.int s) := by rw [ops_idx]; simp only [opIdx, i1]
  have h5 : px ops calB true [e0, e1, e2, some (.val (.lst (word.map .int))), some (.own (ws.map .int)), some (.val value), some (.val step), e7, some (.val (.int k)), e9, e10, e11, e12, e13, e14] (.assign 5 false (.bin .Add (.name 5) (.bin .Mult (.sub (.name 3) (.name 8)) (.name 6)))) = .next [e0, e1, e2, some (.val (.lst (word.map .int))), some (.own (ws.map .int)), some (.val v'), some (.val step), e7, some (.val (.int k)), e9, e10, e11, e12, e13, e14] := by
    simp only [pxs, px, appV, pes, pe_const, pe_name, pe_glob, pe_bin, pe_un, pe_cmp, pe_bop, pe_sub, pe_call, pe_bcall, PR.of, List.getElem?_cons_zero, List.getElem?_cons_succ, ops_truth, opTruth, Res.bind, resS, List.set_cons_zero, List.set_cons_succ, seqV, seqO, onSome, Option.map_some, ofB, Res.truth, allT, if_true, q1, q2, q10]
  have h9 : px ops calB true [e0, e1, e2, some (.val (.lst (word.map .int))), some (.own (ws.map .int)), some (.val v'), some (.val step), e7, some (.val (.int k)), e9, e10, e11, e12, e13, e14] (.assign 9 false (.comp [3, 4] (.sub (.name 4) (.name 15)) (.bcall .range (.cons (.bin .Add (.name 8) (.const (.int 1))) .nil)) (.cons (.cmp .Eq (.sub (.name 3) (.name 15)) (.const (.int 1))) .nil))) = .next [e0, e1, e2, some (.val (.lst (word.map .int))), some (.own (ws.map .int)), some (.val v'), some (.val step), e7, some (.val (.int k)), some (.val (.lst ((picks 1 word ws (k + 1)).map .int))), e10, e11, e12, e13, e14] := by
    rw [px_assign (v := .lst ((picks (1) word ws (k + 1)).map .int)) (by rw [hc9]; simp only [PR.of])]
    simp only [List.set_cons_zero, List.set_cons_succ]
  have h10 : px ops calB true [e0, e1, e2, some (.val (.lst (word.map .int))), some (.own (ws.map .int)), some (.val v'), some (.val step), e7, some (.val (.int k)), some (.val (.lst ((picks 1 word ws (k + 1)).map .int))), e10, e11, e12, e13, e14] (.assign 10 false (.comp [3, 4] (.sub (.name 4) (.name 15)) (.bcall .range (.cons (.bin .Add (.name 8) (.const (.int 1))) .nil)) (.cons (.cmp .Eq (.sub (.name 3) (.name 15)) (.un .USub (.const (.int 1)))) .nil))) = .next [e0, e1, e2, some (.val (.lst (word.map .int))), some (.own (ws.map .int)), some (.val v'), some (.val step), e7, some (.val (.int k)), some (.val (.lst ((picks 1 word ws (k + 1)).map .int))), some (.val (.lst ((picks (-1) word ws (k + 1)).map .int))), e11, e12, e13, e14] := by
    rw [px_assign (v := .lst ((picks (-1) word ws (k + 1)).map .int)) (by rw [hc10]; simp only [PR.of])]
    simp only [List.set_cons_zero, List.set_cons_succ]
  have h11 : px ops calB true [e0, e1, e2, some (.val (.lst (word.map .int))), some (.own (ws.map .int)), some (.val v'), some (.val step), e7, some (.val (.int k)), some (.val (.lst ((picks 1 word ws (k + 1)).map .int))), some (.val (.lst ((picks (-1) word ws (k + 1)).map .int))), e11, e12, e13, e14] (.assign 11 false (.call 1 (.cons (.name 9) (.cons (.name 10) .nil)))) = .next [e0, e1, e2, some (.val (.lst (word.map .int))), some (.own (ws.map .int)), some (.val v'), some (.val step), e7, some (.val (.int k)), some (.val (.lst ((picks 1 word ws (k + 1)).map .int))), some (.val (.lst ((picks (-1) word ws (k + 1)).map .int))), some (.val (.int told)), e12, e13, e14] := by
    simp only [pxs, px, appV, pes, pe_const, pe_name, pe_glob, pe_bin, pe_un, pe_cmp, pe_bop, pe_sub, pe_call, pe_bcall, PR.of, List.getElem?_cons_zero, List.getElem?_cons_succ, ops_truth, opTruth, Res.bind, resS, List.set_cons_zero, List.set_cons_succ, seqV, seqO, onSome, Option.map_some, ofB, Res.truth, allT, if_true, sm]
  have h4 : px ops calB true [e0, e1, e2, some (.val (.lst (word.map .int))), some (.own (ws.map .int)), some (.val v'), some (.val step), e7, some (.val (.int k)), some (.val (.lst ((picks 1 word ws (k + 1)).map .int))), some (.val (.lst ((picks (-1) word ws (k + 1)).map .int))), some (.val (.int told)), e12, e13, e14] (.append 4 (.name 11) none) = .next [e0, e1, e2, some (.val (.lst (word.map .int))), some (.own (ws.map .int ++ [.int told])), some (.val v'), some (.val step), e7, some (.val (.int k)), some (.val (.lst ((picks 1 word ws (k + 1)).map .int))), some (.val (.lst ((picks (-1) word ws (k + 1)).map .int))), some (.val (.int told)), e12, e13, e14] := by
    simp only [pxs, px, appV, pes, pe_const, pe_name, pe_glob, pe_bin, pe_un, pe_cmp, pe_bop, pe_sub, pe_call, pe_bcall, PR.of, List.getElem?_cons_zero, List.getElem?_cons_succ, ops_truth, opTruth, Res.bind, resS, List.set_cons_zero, List.set_cons_succ, seqV, seqO, onSome, Option.map_some, ofB, Res.truth, allT, if_true, hlen]
  have ha : px ops calB true [e0, e1, e2, some (.val (.lst (word.map .int))), some (.own (ws.map .int ++ [.int told])), some (.val v'), some (.val step), e7, some (.val (.int k)), some (.val (.lst ((picks 1 word ws (k + 1)).map .int))), some (.val (.lst ((picks (-1) word ws (k + 1)).map .int))), some (.val (.int told)), e12, e13, e14] (.ite (.cmp .NotEq (.bin .Mult (.name 5) (.const (.int 2048))) (.name 11)) (.cons (.ret (.const (.bool false))) .nil) (.nil)) = .next [e0, e1, e2, some (.val (.lst (word.map .int))), some (.own (ws.map .int ++ [.int told])), some (.val v'), some (.val step), e7, some (.val (.int k)), some (.val (.lst ((picks 1 word ws (k + 1)).map .int))), some (.val (.lst ((picks (-1) word ws (k + 1)).map .int))), some (.val (.int told)), e12, e13, e14] := by
    simp only [pxs, px, appV, pes, pe_const, pe_name, pe_glob, pe_bin, pe_un, pe_cmp, pe_bop, pe_sub, pe_call, pe_bcall, PR.of, List.getElem?_cons_zero, List.getElem?_cons_succ, ops_truth, opTruth, Res.bind, resS, List.set_cons_zero, List.set_cons_succ, seqV, seqO, onSome, Option.map_some, ofB, Res.truth, allT, if_true, q3, q4]
  have h12 : px ops calB true [e0, e1, e2, some (.val (.lst (word.map .int))), some (.own (ws.map .int ++ [.int told])), some (.val v'), some (.val step), e7, some (.val (.int k)), some (.val (.lst ((picks 1 word ws (k + 1)).map .int))), some (.val (.lst ((picks (-1) word ws (k + 1)).map .int))), some (.val (.int told)), e12, e13, e14] (.assign 12 false (.call 0 (.cons (.name 11) (.cons (.const (.int 2048)) .nil)))) = .next [e0, e1, e2, some (.val (.lst (word.map .int))), some (.own (ws.map .int ++ [.int told])), some (.val v'), some (.val step), e7, some (.val (.int k)), some (.val (.lst ((picks 1 word ws (k + 1)).map .int))), some (.val (.lst ((picks (-1) word ws (k + 1)).map .int))), some (.val (.int told)), some (.val (.float md)), e13, e14] := by
    simp only [pxs, px, appV, pes, pe_const, pe_name, pe_glob, pe_bin, pe_un, pe_cmp, pe_bop, pe_sub, pe_call, pe_bcall, PR.of, List.getElem?_cons_zero, List.getElem?_cons_succ, ops_truth, opTruth, Res.bind, resS, List.set_cons_zero, List.set_cons_succ, seqV, seqO, onSome, Option.map_some, ofB, Res.truth, allT, if_true, cb, m2]
  have h13 : px ops calB true [e0, e1, e2, some (.val (.lst (word.map .int))), some (.own (ws.map .int ++ [.int told])), some (.val v'), some (.val step), e7, some (.val (.int k)), some (.val (.lst ((picks 1 word ws (k + 1)).map .int))), some (.val (.lst ((picks (-1) word ws (k + 1)).map .int))), some (.val (.int told)), some (.val (.float md)), e13, e14] (.assign 13 false (.call 0 (.cons (.name 12) (.cons (.call 0 (.cons (.const (.int 1)) (.cons (.const (.int 2048)) .nil))) .nil)))) = .next [e0, e1, e2, some (.val (.lst (word.map .int))), some (.own (ws.map .int ++ [.int told])), some (.val v'), some (.val step), e7, some (.val (.int k)), some (.val (.lst ((picks 1 word ws (k + 1)).map .int))), some (.val (.lst ((picks (-1) word ws (k + 1)).map .int))), some (.val (.int told)), some (.val (.float md)), some (.val (.float bk)), e14] := by
    simp only [pxs, px, appV, pes, pe_const, pe_name, pe_glob, pe_bin, pe_un, pe_cmp, pe_bop, pe_sub, pe_call, pe_bcall, PR.of, List.getElem?_cons_zero, List.getElem?_cons_succ, ops_truth, opTruth, Res.bind, resS, List.set_cons_zero, List.set_cons_succ, seqV, seqO, onSome, Option.map_some, ofB, Res.truth, allT, if_true, cb, m3, m5]
  have hb : px ops calB true [e0, e1, e2, some (.val (.lst (word.map .int))), some (.own (ws.map .int ++ [.int told])), some (.val v'), some (.val step), e7, some (.val (.int k)), some (.val (.lst ((picks 1 word ws (k + 1)).map .int))), some (.val (.lst ((picks (-1) word ws (k + 1)).map .int))), some (.val (.int told)), some (.val (.float md)), some (.val (.float bk)), e14] (.ite (.bop .Or (.cons (.cmp .IsNot (.bcall .type (.cons (.name 12) .nil)) (.glob .float)) (.cons (.cmp .NotEq (.name 12) (.name 5)) (.cons (.cmp .IsNot (.bcall .type (.cons (.name 13) .nil)) (.glob .float)) (.cons (.cmp .NotEq (.name 13) (.name 11)) .nil))))) (.cons (.ret (.const (.bool false))) .nil) (.nil)) = .next [e0, e1, e2, some (.val (.lst (word.map .int))), some (.own (ws.map .int ++ [.int told])), some (.val v'), some (.val step), e7, some (.val (.int k)), some (.val (.lst ((picks 1 word ws (k + 1)).map .int))), some (.val (.lst ((picks (-1) word ws (k + 1)).map .int))), some (.val (.int told)), some (.val (.float md)), some (.val (.float bk)), e14] := by
    simp only [pxs, px, appV, pes, pe_const, pe_name, pe_glob, pe_bin, pe_un, pe_cmp, pe_bop, pe_sub, pe_call, pe_bcall, PR.of, List.getElem?_cons_zero, List.getElem?_cons_succ, ops_truth, opTruth, Res.bind, resS, List.set_cons_zero, List.set_cons_succ, seqV, seqO, onSome, Option.map_some, ofB, Res.truth, allT, if_true, fl, q6, q7, q8, q9, or_and]
  have hd : px ops calB true [e0, e1, e2, some (.val (.lst (word.map .int))), some (.own (ws.map .int ++ [.int told])), some (.val v'), some (.val step), e7, some (.val (.int k)), some (.val (.lst ((picks 1 word ws (k + 1)).map .int))), some (.val (.lst ((picks (-1) word ws (k + 1)).map .int))), some (.val (.int told)), some (.val (.float md)), some (.val (.float bk)), e14] (.ite (.bop .Or (.cons (.un .Not (.call 2 (.cons (.name 11) (.cons (.const (.int 0)) .nil)))) (.cons (.un .Not (.call 2 (.cons (.name 12) (.cons (.const (.int 0)) .nil)))) (.cons (.un .Not (.call 2 (.cons (.name 11) (.cons (.const (.bool false)) .nil)))) .nil)))) (.cons (.ret (.const (.bool false))) .nil) (.nil)) = .next [e0, e1, e2, some (.val (.lst (word.map .int))), some (.own (ws.map .int ++ [.int told])), some (.val v'), some (.val step), e7, some (.val (.int k)), some (.val (.lst ((picks 1 word ws (k + 1)).map .int))), some (.val (.lst ((picks (-1) word ws (k + 1)).map .int))), some (.val (.int told)), some (.val (.float md)), some (.val (.float bk)), e14] := by
    simp only [pxs, px, appV, pes, pe_const, pe_name, pe_glob, pe_bin, pe_un, pe_cmp, pe_bop, pe_sub, pe_call, pe_bcall, PR.of, List.getElem?_cons_zero, List.getElem?_cons_succ, ops_truth, opTruth, Res.bind, resS, List.set_cons_zero, List.set_cons_succ, seqV, seqO, onSome, Option.map_some, ofB, Res.truth, allT, if_true, rf1, rf2, rf3, Bool.not_true, or_and]
  unfold turnRest
  rw [pxs_next h5, pxs_next h9, pxs_next h10, pxs_next h11, pxs_next h4, pxs_next ha, pxs_next h12, pxs_next h13, pxs_next hb, pxs_next hd, pxs, List.map_append]
  rfl
end Mine
end
section
open PySem PySem.W PyProof.Rows
namespace Mine
set_option maxRecDepth 100000
set_option linter.unusedSimpArgs false

def runs (w0 : Int) : List Int → St → Option St
  | [], σ => some σ
  | s :: r, σ => match turnP w0 s σ with
    | some σ' => runs w0 r σ'
    | none => none
theorem turn_ok {word ws : List Int} {k : Nat} {s w0 : Int} {σ σ' : St} (hk : word[k]? = some s) (h0 : word[0]? = some w0) (hwl : ws.length = k + 1) (hk100 : k < 100) (hl : ws[k]? = some σ.last)
    (hlo : picks 1 word ws k = σ.lows) (hhi : picks (-1) word ws k = σ.highs) (ht : turnP w0 s σ = some σ') (e0 e1 e2 e8 e9 e10 e11 e12 e13 e14 : Option Ent) :
    (∃ f9 f10 f11 f12 f13, pxs ops calB true ([e0, e1, e2, some (.val (.lst (word.map .int))), some (.own (ws.map .int)), some (.val σ.value), some (.val σ.step), some (.val (.bool σ.turned)), e8, e9, e10, e11, e12, e13, e14].set 8 (some (.val (.int k)))) turnBody
      = .next [e0, e1, e2, some (.val (.lst (word.map .int))), some (.own ((ws ++ [σ'.last]).map .int)), some (.val σ'.value), some (.val σ'.step), some (.val (.bool σ'.turned)), some (.val (.int k)), f9, f10, f11, f12, f13, e14]) ∧
    picks 1 word ws (k + 1) = σ'.lows ∧ picks (-1) word ws (k + 1) = σ'.highs := by
  have p1 : picks 1 word ws (k + 1) = lowsP s σ := by
    rw [picks_succ, hk, hl, hlo]
    unfold lowsP
    by_cases h : s = 1
    · subst h; simp
    · simp [h]
  have p2 : picks (-1) word ws (k + 1) = highsP s σ := by
    rw [picks_succ, hk, hl, hhi]
    unfold highsP
    by_cases h : s = -1
    · subst h; simp
    · simp [h]
  unfold turnP at ht
  cases h1 : stepP (σ.turned || s != w0) σ.step with
  | none => rw [h1] at ht; cases ht
  | some step =>
  rw [h1] at ht
  simp only at ht
  cases h2 : valueP σ.value step s with
  | none => rw [h2] at ht; cases ht
  | some value =>
  rw [h2] at ht
  simp only at ht
  split at ht
  case h_2 => cases ht
  rename_i told h3
  by_cases h4 : tellsP value told = true
  case neg => rw [if_neg h4] at ht; cases ht
  rw [if_pos h4] at ht
  simp only [Option.some.injEq] at ht
  subst ht
  refine ⟨?_, p1, p2⟩
  have A := if_turn hk h0 h1 e0 e1 e2 (some (.own (ws.map .int))) (some (.val σ.value)) e9 e10 e11 e12 e13 e14
  obtain ⟨m, b, lo, hi, B⟩ := rest_turn hk hwl hk100 h2 (by rw [p1, p2]; exact h3) h4 e0 e1 e2 (some (.val (.bool (σ.turned || s != w0)))) e9 e10 e11 e12 e13 e14
  refine ⟨lo, hi, some (.val (.int told)), m, b, ?_⟩
  simp only [List.set_cons_zero, List.set_cons_succ]
  unfold turnBody
  rw [pxs_next A, B]

theorem loop_ok {word : List Int} {w0 : Int} (h0 : word[0]? = some w0) (h100 : word.length ≤ 100) (e0 e1 e2 e14 : Option Ent) : ∀ (m k : Nat) (σ σ' : St) (ws : List Int) (e8 e9 e10 e11 e12 e13 : Option Ent), k + m = word.length → ws.length = k + 1 → ws[k]? = some σ.last →
    picks 1 word ws k = σ.lows → picks (-1) word ws k = σ.highs → runs w0 (word.drop k) σ = some σ' →
    ∃ (ws' : List Int) (f8 f9 f10 f11 f12 f13 : Option Ent), forF (fun x ρ => pxs ops calB true (ρ.set 8 (some (.val x))) turnBody) ((List.range' k m).map fun (i : Nat) => .int i) [e0, e1, e2, some (.val (.lst (word.map .int))), some (.own (ws.map .int)), some (.val σ.value), some (.val σ.step), some (.val (.bool σ.turned)), e8, e9, e10, e11, e12, e13, e14]
      = .next [e0, e1, e2, some (.val (.lst (word.map .int))), some (.own (ws'.map .int)), some (.val σ'.value), some (.val σ'.step), some (.val (.bool σ'.turned)), f8, f9, f10, f11, f12, f13, e14] ∧ ws'.length = word.length + 1 ∧ ws'[word.length]? = some σ'.last
  | 0, k, σ, σ', ws, e8, e9, e10, e11, e12, e13, hkm, hwl, hl, hlo, hhi, hr => by
    have : word.drop k = [] := by rw [List.drop_eq_nil_iff]; omega
    rw [this] at hr
    simp only [runs, Option.some.injEq] at hr
    subst hr
    refine ⟨ws, e8, e9, e10, e11, e12, e13, rfl, by omega, ?_⟩
    have : word.length = k := by omega
    rw [this]; exact hl
  | m + 1, k, σ, σ', ws, e8, e9, e10, e11, e12, e13, hkm, hwl, hl, hlo, hhi, hr => by
    have hk : k < word.length := by omega
    have hd : word.drop k = word[k] :: word.drop (k + 1) := List.drop_eq_getElem_cons hk
    rw [hd] at hr
    simp only [runs] at hr
    cases ht : turnP w0 word[k] σ with
    | none => rw [ht] at hr; cases hr
    | some σ₁ =>
      rw [ht] at hr
      simp only at hr
      obtain ⟨⟨f9, f10, f11, f12, f13, A⟩, p1, p2⟩ := turn_ok (by simp) h0 hwl (by omega) hl hlo hhi ht e0 e1 e2 e8 e9 e10 e11 e12 e13 e14
      obtain ⟨ws', g8, g9, g10, g11, g12, g13, B, hB1, hB2⟩ := loop_ok h0 h100 e0 e1 e2 e14 m (k + 1) σ₁ σ' (ws ++ [σ₁.last]) (some (.val (.int k))) f9 f10 f11 f12 f13 (by omega) (by simp [hwl]) (by simp [hwl])
        (by rw [picks_append _ _ _ _ _ (by omega), p1]) (by rw [picks_append _ _ _ _ _ (by omega), p2]) hr
      refine ⟨ws', g8, g9, g10, g11, g12, g13, ?_, hB1, hB2⟩
      rw [List.range'_succ, List.map_cons, forF, A]
      exact B
end Mine
end
section
open PySem PySem.W PyProof.Rows
namespace Mine
set_option maxRecDepth 100000
open PySem.Float64 (V dist decode val Right sgn pack infMag)

/-- a finite float with its worth, in 2 ** -1074ths -/
noncomputable def FinV (x : UInt64) (N : Int) : Prop := (∃ a m e, decode x = .fin a m e) ∧ val x = N
/-- a size that a float holds -/
noncomputable def Holds53 (N : Nat) : Prop := (∃ q k, q < 2 ^ 53 ∧ N = q * 2 ^ k) ∧ N < 2 ^ 2097

theorem V_ex : ∀ (k q : Nat), q < 2 ^ 53 → ∃ t, V t = q * 2 ^ k
  | 0, q, h => ⟨q, by have := Float64.V_at (k := 0) (q := q) (by omega) (.inr rfl); simpa using this⟩
  | k + 1, q, h => by
    by_cases h2 : 2 ^ 52 ≤ q
    · exact ⟨(k + 1) * 2 ^ 52 + q, Float64.V_at (by omega) (.inl h2)⟩
    · obtain ⟨t, ht⟩ := V_ex k (2 * q) (by omega)
      refine ⟨t, ?_⟩
      rw [ht, Nat.pow_succ, Nat.mul_comm (2 ^ k) 2, ← Nat.mul_assoc, Nat.mul_comm q 2]

theorem right_exact {r : UInt64} {neg : Bool} {W D N : Nat} (R : Right r neg W D) (hD : 0 < D) (hW : W = D * N) (hN : Holds53 N) : FinV r (sgn neg N) := by
  obtain ⟨⟨q, k, hq, hqk⟩, hb⟩ := hN
  obtain ⟨t0, ht0⟩ := V_ex k q hq
  rw [← hqk] at ht0
  obtain ⟨t, rfl, hle, hinf, hmin⟩ := R
  have hne : t ≠ infMag := by
    intro h
    have h1 := hinf.mp h
    rw [hW] at h1
    have h2 : D * ((2 ^ 54 - 1) * 2 ^ 2045) ≤ D * (2 * N) := by rw [← Nat.mul_assoc D 2 N, Nat.mul_comm D 2, Nat.mul_assoc]; exact h1
    have h3 := Nat.le_of_mul_le_mul_left h2 hD
    have h4 : 2 * 2 ^ 2097 ≤ (2 ^ 54 - 1) * 2 ^ 2045 := by decide +kernel
    omega
  have hlt : t < infMag := by omega
  have h5 := (hmin hlt t0).1
  have h6 : dist W (D * V t0) = 0 := by rw [hW, ht0]; unfold dist; omega
  rw [h6] at h5
  have h7 : W = D * V t := by unfold dist at h5; omega
  have h8 : V t = N := by
    rw [hW] at h7
    exact (Nat.eq_of_mul_eq_mul_left hD h7).symm
  obtain ⟨m, e, hd, _⟩ := Float64.decode_pack neg hlt
  exact ⟨⟨_, _, _, hd⟩, by rw [Float64.val_pack neg hlt, h8]⟩

theorem sgn_of {b : Bool} {N : Int} (h : N < 0 → b = true) (h' : 0 < N → b = false) : sgn b N.natAbs = N := by
  unfold sgn
  cases b with
  | true =>
    simp only [if_true]
    have : ¬ 0 < N := fun q => by have := h' q; cases this
    omega
  | false =>
    simp only [Bool.false_eq_true, if_false]
    have : ¬ N < 0 := fun q => by have := h q; cases this
    omega
theorem sgn_neg {a : Bool} {m : Nat} : (sgn a m < 0 → a = true) ∧ (0 < sgn a m → a = false) := by
  unfold sgn
  cases a <;> simp <;> omega

theorem ofFrac_exact {neg : Bool} {n d N : Nat} (hd : 0 < d) (h : n * 2 ^ 1074 = N * d) (hN : Holds53 N) : FinV (Float64.ofFrac neg n d) (sgn neg N) :=
  right_exact (Float64.ofFrac_right (W := N) (D := 1) hd (by rw [Nat.mul_one]; exact h) (by omega)) (by omega) (by omega) hN

/-- a by b, where it comes out -/
theorem frac_exact {a b N : Int} (hb : b ≠ 0) (h : a * 2 ^ 1074 = N * b) (hN : Holds53 N.natAbs) : FinV (frac a b) N := by
  have h1 : a.natAbs * 2 ^ 1074 = N.natAbs * b.natAbs := by
    have := congrArg Int.natAbs h
    rw [Int.natAbs_mul, Int.natAbs_mul, Int.natAbs_pow] at this
    exact this
  have h2 := ofFrac_exact (neg := (decide (a < 0) != decide (b < 0))) (d := b.natAbs) (by omega) h1 hN
  have hp : (0 : Int) < 2 ^ 1074 := Int.pow_pos (by omega)
  rw [sgn_of (N := N)] at h2
  · exact h2
  · intro hn
    by_cases hb2 : b < 0
    · have : 0 < N * b := Int.mul_pos_of_neg_of_neg hn hb2
      have ha : ¬ a < 0 := fun q => by have := Int.mul_neg_of_neg_of_pos q hp; omega
      simp [ha, hb2]
    · have : N * b < 0 := Int.mul_neg_of_neg_of_pos hn (by omega)
      have ha : a < 0 := by
        apply Classical.byContradiction
        intro q
        have := Int.mul_nonneg (show 0 ≤ a by omega) (Int.le_of_lt hp)
        omega
      simp [ha, hb2]
  · intro hn
    by_cases hb2 : b < 0
    · have : N * b < 0 := Int.mul_neg_of_pos_of_neg hn hb2
      have ha : a < 0 := by
        apply Classical.byContradiction
        intro q
        have := Int.mul_nonneg (show 0 ≤ a by omega) (Int.le_of_lt hp)
        omega
      simp [ha, hb2]
    · have : 0 < N * b := Int.mul_pos hn (by omega)
      have ha : ¬ a < 0 := fun q => by have := Int.mul_neg_of_neg_of_pos q hp; omega
      simp [ha, hb2]
theorem ofInt_exact {i : Int} (h : i.natAbs ≤ 2 ^ 53) : FinV (Float64.ofInt i) (i * 2 ^ 1074) := by
  have e : Float64.ofInt i = frac i 1 := by unfold Float64.ofInt frac; simp
  rw [e]
  refine frac_exact (by omega) (by omega) ?_
  rw [Int.natAbs_mul, Int.natAbs_pow]
  refine ⟨?_, ?_⟩
  · by_cases h2 : i.natAbs < 2 ^ 53
    · exact ⟨i.natAbs, 1074, h2, rfl⟩
    · have : i.natAbs = 2 ^ 53 := by omega
      exact ⟨1, 1127, by omega, by rw [this]; decide +kernel⟩
  · have h3 : i.natAbs * Int.natAbs 2 ^ 1074 ≤ 2 ^ 53 * 2 ^ 1074 := Nat.mul_le_mul_right _ h
    have h4 : (2 : Nat) ^ 53 * 2 ^ 1074 < 2 ^ 2097 := by decide +kernel
    omega

theorem add_exact {x y : UInt64} {M N : Int} (hx : FinV x M) (hy : FinV y N) (h : Holds53 (M + N).natAbs) : FinV (Float64.add x y) (M + N) := by
  obtain ⟨⟨a, m, e, dx⟩, rfl⟩ := hx
  obtain ⟨⟨b, k, f, dy⟩, rfl⟩ := hy
  obtain ⟨h0, h1⟩ := Float64.add_right dx dy
  by_cases hz : val x + val y = 0
  · rw [h0 hz, hz]
    have hi : (0 : Nat) < infMag := by decide
    obtain ⟨m', e', hd, _⟩ := Float64.decode_pack (a && b) hi
    refine ⟨⟨_, _, _, hd⟩, ?_⟩
    unfold Float64.zero
    rw [Float64.val_pack _ hi, Float64.V_zero]
    unfold sgn
    split <;> rfl
  · have := right_exact (h1 hz) (by omega) (by omega) h
    rw [sgn_of (fun q => decide_eq_true q) (fun q => decide_eq_false (by omega))] at this
    exact this
theorem mul_exact {x y : UInt64} {M N P : Int} (hx : FinV x M) (hy : FinV y N) (h : M * N = P * 2 ^ 1074) (hP : Holds53 P.natAbs) : FinV (Float64.mul x y) P := by
  obtain ⟨⟨a, m, e, dx⟩, rfl⟩ := hx
  obtain ⟨⟨b, k, f, dy⟩, rfl⟩ := hy
  have h1 : (val x).natAbs * (val y).natAbs = 2 ^ 1074 * P.natAbs := by
    have := congrArg Int.natAbs h
    rw [Int.natAbs_mul, Int.natAbs_mul, Int.natAbs_pow] at this
    rw [this, Nat.mul_comm]; rfl
  have := right_exact (Float64.mul_right dx dy) (Nat.two_pow_pos _) h1 hP
  have vx := Float64.val_eq dx
  have vy := Float64.val_eq dy
  have sx := sgn_neg (a := a) (m := m * 2 ^ (e + 1074).toNat)
  have sy := sgn_neg (a := b) (m := k * 2 ^ (f + 1074).toNat)
  rw [← vx] at sx
  rw [← vy] at sy
  have hp : (0 : Int) < 2 ^ 1074 := Int.pow_pos (by omega)
  rw [sgn_of (N := P)] at this
  · exact this
  · intro hn
    have : val x * val y < 0 := by rw [h]; exact Int.mul_neg_of_neg_of_pos hn hp
    rcases Int.lt_trichotomy (val x) 0 with q | q | q
    · rcases Int.lt_trichotomy (val y) 0 with q2 | q2 | q2
      · have := Int.mul_pos_of_neg_of_neg q q2; omega
      · rw [q2] at this; simp at this
      · rw [sx.1 q, sy.2 q2]; rfl
    · rw [q] at this; simp at this
    · rcases Int.lt_trichotomy (val y) 0 with q2 | q2 | q2
      · rw [sx.2 q, sy.1 q2]; rfl
      · rw [q2] at this; simp at this
      · have := Int.mul_pos q q2; omega
  · intro hn
    have : 0 < val x * val y := by rw [h]; exact Int.mul_pos hn hp
    rcases Int.lt_trichotomy (val x) 0 with q | q | q
    · rcases Int.lt_trichotomy (val y) 0 with q2 | q2 | q2
      · rw [sx.1 q, sy.1 q2]; rfl
      · rw [q2] at this; simp at this
      · have := Int.mul_neg_of_neg_of_pos q q2; omega
    · rw [q] at this; simp at this
    · rcases Int.lt_trichotomy (val y) 0 with q2 | q2 | q2
      · have := Int.mul_neg_of_pos_of_neg q q2; omega
      · rw [q2] at this; simp at this
      · rw [sx.2 q, sy.2 q2]; rfl
theorem div_exact {x y : UInt64} {M N P : Int} (hx : FinV x M) (hy : FinV y N) (hN : N ≠ 0) (h : M * 2 ^ 1074 = P * N) (hP : Holds53 P.natAbs) : FinV (Float64.div x y) P := by
  obtain ⟨⟨a, m, e, dx⟩, rfl⟩ := hx
  obtain ⟨⟨b, k, f, dy⟩, rfl⟩ := hy
  have hk : k ≠ 0 := by
    rintro rfl
    apply hN
    rw [Float64.val_eq dy]
    unfold sgn; split <;> simp
  have h1 : (val x).natAbs * 2 ^ 1074 = (val y).natAbs * P.natAbs := by
    have := congrArg Int.natAbs h
    rw [Int.natAbs_mul, Int.natAbs_mul, Int.natAbs_pow] at this
    rw [Nat.mul_comm (val y).natAbs, ← this]; rfl
  have := right_exact (Float64.div_right dx dy hk) (by omega) h1 hP
  have vx := Float64.val_eq dx
  have vy := Float64.val_eq dy
  have sx := sgn_neg (a := a) (m := m * 2 ^ (e + 1074).toNat)
  have sy := sgn_neg (a := b) (m := k * 2 ^ (f + 1074).toNat)
  rw [← vx] at sx
  rw [← vy] at sy
  have hp : (0 : Int) < 2 ^ 1074 := Int.pow_pos (by omega)
  have xneg : val x * 2 ^ 1074 < 0 → val x < 0 := fun q => by
    apply Classical.byContradiction
    intro z
    have := Int.mul_nonneg (show 0 ≤ val x by omega) (Int.le_of_lt hp)
    omega
  have xpos : 0 < val x * 2 ^ 1074 → 0 < val x := fun q => by
    apply Classical.byContradiction
    intro z
    have := Int.mul_nonneg (show 0 ≤ -val x by omega) (Int.le_of_lt hp)
    rw [Int.neg_mul] at this
    omega
  rw [sgn_of (N := P)] at this
  · exact this
  · intro hn
    rcases Int.lt_trichotomy (val y) 0 with q2 | q2 | q2
    · have z := Int.mul_pos_of_neg_of_neg hn q2
      rw [← h] at z
      rw [sx.2 (xpos z), sy.1 q2]; rfl
    · exact absurd q2 hN
    · have z := Int.mul_neg_of_neg_of_pos hn q2
      rw [← h] at z
      rw [sx.1 (xneg z), sy.2 q2]; rfl
  · intro hn
    rcases Int.lt_trichotomy (val y) 0 with q2 | q2 | q2
    · have z := Int.mul_neg_of_pos_of_neg hn q2
      rw [← h] at z
      rw [sx.1 (xneg z), sy.1 q2]; rfl
    · exact absurd q2 hN
    · have z := Int.mul_pos hn q2
      rw [← h] at z
      rw [sx.2 (xpos z), sy.2 q2]; rfl
theorem cmp_exact {x y : UInt64} {M N : Int} (hx : FinV x M) (hy : FinV y N) : Float64.cmp x y = some (compare M N) := by
  obtain ⟨⟨a, m, e, dx⟩, rfl⟩ := hx
  obtain ⟨⟨b, k, f, dy⟩, rfl⟩ := hy
  exact Float64.cmp_right dx dy
theorem FinV.notInf {x : UInt64} {M : Int} (hx : FinV x M) : Float64.isInf x = false := by
  obtain ⟨⟨a, m, e, dx⟩, rfl⟩ := hx
  unfold Float64.isInf; rw [dx]
theorem FinV.notZero {x : UInt64} {M : Int} (hx : FinV x M) (h : M ≠ 0) : Float64.isZero x = false := by
  obtain ⟨⟨a, m, e, dx⟩, rfl⟩ := hx
  unfold Float64.isZero; rw [dx]
  cases m with
  | zero => exfalso; apply h; rw [Float64.val_eq dx]; unfold sgn; split <;> simp
  | succ m => rfl
end Mine
end
section
open PySem PySem.W PyProof.Rows
namespace Mine
set_option maxRecDepth 100000
/- the simplest number between two neighbours -/
theorem smp1_miss {u q t : Int} (hu : 0 < u) (ht : 0 < t) : smp1 (2 * u * q) (2 * u * (q + 1)) (2 * u * t) = none := by
  have hp : 0 < 2 * u := by omega
  have hpt : 0 < 2 * u * t := Int.mul_pos hp ht
  have e1 : (2 * u * q).fdiv (2 * u * t) = q / t := by
    rw [Int.fdiv_eq_ediv_of_nonneg _ (by omega), Int.mul_ediv_mul_of_pos _ _ hp]
  have e2 : (-(2 * u * (q + 1))).fdiv (2 * u * t) = (-(q + 1)) / t := by
    rw [Int.fdiv_eq_ediv_of_nonneg _ (by omega), ← Int.mul_neg, Int.mul_ediv_mul_of_pos _ _ hp]
  have a1 := Int.mul_ediv_add_emod q t
  have a2 := Int.emod_lt_of_pos q ht
  have b : -(q / t) - 1 ≤ (-(q + 1)) / t := by
    rw [Int.le_ediv_iff_mul_le ht, Int.sub_mul, Int.neg_mul, Int.mul_comm (q / t)]
    omega
  unfold smp1
  rw [e1, e2, if_neg (by omega)]
theorem smp1_hit {u q : Int} (hu : 0 < u) : smp1 (2 * u * q) (2 * u * (q + 1)) u = some (u * (2 * q + 1)) := by
  have e1 : (2 * u * q).fdiv u = 2 * q := by
    rw [Int.fdiv_eq_ediv_of_nonneg _ (by omega), Int.mul_comm 2 u, Int.mul_assoc, Int.mul_ediv_cancel_left _ (by omega)]
  have e2 : (-(2 * u * (q + 1))).fdiv u = -(2 * (q + 1)) := by
    rw [Int.fdiv_eq_ediv_of_nonneg _ (by omega), Int.mul_comm 2 u, Int.mul_assoc, ← Int.mul_neg, Int.mul_ediv_cancel_left _ (by omega)]
  unfold smp1
  rw [e1, e2, if_pos (by omega)]
  by_cases h : 2 * q + 1 > 0
  · rw [if_pos h, Int.mul_comm]
  · rw [if_neg h, if_pos (by omega), Int.mul_comm u]
    congr 2
    omega
theorem smp_mid (i : Nat) (q : Int) : ∀ d : Nat, smp (2 * 2 ^ i * q) (2 * 2 ^ i * (q + 1)) (i + d) = some (2 ^ i * (2 * q + 1))
  | 0 => by
    have h := smp1_hit (u := 2 ^ i) (q := q) (Int.pow_pos (by omega))
    cases i with
    | zero => exact h
    | succ i => rw [Nat.add_zero, smp_succ, h]
  | d + 1 => by
    have h := smp1_miss (u := 2 ^ i) (q := q) (t := 2 ^ d) (Int.pow_pos (by omega)) (Int.pow_pos (by omega))
    have e : (2 : Int) * 2 ^ i * 2 ^ d = 2 ^ (i + d + 1) := by rw [Int.pow_succ', Int.pow_add, Int.mul_assoc]
    rw [e] at h
    rw [← Nat.add_assoc, smp_succ, h, smp_mid i q d]

noncomputable def Low (l : List Int) (m : Int) : Prop := m ∈ l ++ [-1000000] ∧ ∀ x ∈ l ++ [-1000000], x ≤ m
noncomputable def High (l : List Int) (m : Int) : Prop := m ∈ l ++ [1000000] ∧ ∀ x ∈ l ++ [1000000], m ≤ x
theorem Low.push {l : List Int} {m a : Int} (h : Low l m) (ha : m ≤ a) : Low (l ++ [a]) a := by
  refine ⟨by simp, fun x hx => ?_⟩
  rw [List.append_assoc] at hx
  rcases List.mem_append.mp hx with h1 | h1
  · exact Int.le_trans (h.2 x (List.mem_append_left _ h1)) ha
  · rcases List.mem_cons.mp h1 with rfl | h2
    · omega
    · exact Int.le_trans (h.2 x (List.mem_append_right _ h2)) ha
theorem High.push {l : List Int} {m a : Int} (h : High l m) (ha : a ≤ m) : High (l ++ [a]) a := by
  refine ⟨by simp, fun x hx => ?_⟩
  rw [List.append_assoc] at hx
  rcases List.mem_append.mp hx with h1 | h1
  · exact Int.le_trans ha (h.2 x (List.mem_append_left _ h1))
  · rcases List.mem_cons.mp h1 with rfl | h2
    · omega
    · exact Int.le_trans ha (h.2 x (List.mem_append_right _ h2))
theorem simplest_of {lo hi : List Int} {a b m : Int} (h1 : Low lo a) (h2 : High hi b) (h3 : smp a b 11 = some m) : simplest lo hi = .int m := by
  unfold simplest
  rw [maxI_of h1.1 h1.2, minI_of h2.1 h2.2]
  simp only [smpL_eq, h3]
theorem simplest_mid {lo hi : List Int} {i : Nat} {q : Int} (hi11 : i ≤ 11) (h1 : Low lo (2 ^ i * (2 * q + 1) - 2 ^ i)) (h2 : High hi (2 ^ i * (2 * q + 1) + 2 ^ i)) : simplest lo hi = .int (2 ^ i * (2 * q + 1)) := by
  have e := smp_mid i q (11 - i)
  rw [Nat.add_sub_cancel' hi11] at e
  refine simplest_of h1 h2 ?_
  rw [← e]
  generalize (2 : Int) ^ i = u
  congr 1
  · rw [Int.mul_add, Int.mul_one, ← Int.mul_assoc, Int.mul_comm u 2]; omega
  · rw [Int.mul_add, Int.mul_one, ← Int.mul_assoc, Int.mul_comm u 2, Int.mul_add, Int.mul_one]; omega
theorem smp_up {a : Int} (h0 : 0 ≤ a) (h1 : a ≤ 20) : smp (2048 * a) 1000000 11 = some (2048 * (a + 1)) := by
  have e1 : (2048 * a).fdiv 2048 = a := by rw [Int.fdiv_eq_ediv_of_nonneg _ (by omega)]; omega
  have e2 : (-1000000 : Int).fdiv 2048 = -489 := by decide
  rw [smp_succ]
  have : smp1 (2048 * a) 1000000 (2 ^ (10 + 1)) = some (2048 * (a + 1)) := by
    show smp1 (2048 * a) 1000000 2048 = _
    unfold smp1
    rw [e1, e2, if_pos (by omega), if_pos (by omega), Int.mul_comm]
  rw [this]
theorem smp_down {a : Int} (h0 : 0 ≤ a) (h1 : a ≤ 20) : smp (-1000000) (-(2048 * a)) 11 = some (-(2048 * (a + 1))) := by
  have e1 : (- -(2048 * a)).fdiv 2048 = a := by rw [Int.fdiv_eq_ediv_of_nonneg _ (by omega)]; omega
  have e2 : (-1000000 : Int).fdiv 2048 = -489 := by decide
  rw [smp_succ]
  have : smp1 (-1000000) (-(2048 * a)) (2 ^ (10 + 1)) = some (-(2048 * (a + 1))) := by
    show smp1 (-1000000) (-(2048 * a)) 2048 = _
    unfold smp1
    rw [e1, e2, if_pos (by omega), if_neg (by omega), if_pos (by omega)]
    congr 1; omega
  rw [this]

open PySem.Float64 (V dist decode val Right sgn pack infMag)
set_option exponentiation.threshold 3000 in
theorem holds_mul {n : Int} {k : Nat} (hn : n.natAbs < 2 ^ 53) (hk : k ≤ 1074) : Holds53 (n * 2 ^ k).natAbs := by
  rw [Int.natAbs_mul, Int.natAbs_pow]
  refine ⟨⟨n.natAbs, k, hn, rfl⟩, ?_⟩
  have h3 : n.natAbs * Int.natAbs 2 ^ k ≤ 2 ^ 53 * 2 ^ 1074 := Nat.mul_le_mul (Nat.le_of_lt hn) (Nat.pow_le_pow_right (by decide) hk)
  have h4 : (2 : Nat) ^ 53 * 2 ^ 1074 < 2 ^ 2097 := by decide +kernel
  omega
theorem pow1074 : (2 : Int) ^ 1074 = 2048 * 2 ^ 1063 := by rw [show (1074 : Nat) = 11 + 1063 from rfl, Int.pow_add]; rfl
theorem cmpInt_ex {x : UInt64} {M : Int} (hx : FinV x M) (i : Int) : Float64.cmpInt x i = some (compare M (i * 2 ^ 1074)) := by
  obtain ⟨⟨a, m, e, dx⟩, rfl⟩ := hx
  exact Float64.cmpInt_right dx i
theorem fiNe {x : UInt64} {n : Int} (hx : FinV x (n * 2 ^ 1074)) : opCmp .NotEq (.float x) (.int n) = some false := by
  show some (Float64.cmpInt x n != some Ordering.eq) = some false
  rw [cmpInt_ex hx, Int.compare_eq_eq.mpr rfl]; rfl
theorem ffNe {x y : UInt64} {n : Int} (hx : FinV x n) (hy : FinV y n) : opCmp .NotEq (.float x) (.float y) = some false := by
  show some (Float64.cmp x y != some Ordering.eq) = some false
  rw [cmp_exact hx hy, Int.compare_eq_eq.mpr rfl]; rfl
theorem divInt {a b N : Int} (hb : b ≠ 0) (h : FinV (frac a b) N) : opInpl .Div (.int a) (.int b) = .ok (.float (frac a b)) := by
  show intBin .Div a b = _
  unfold intBin
  simp only [h.notInf, Bool.false_eq_true, if_false]
  rw [if_neg (by simpa using hb)]
theorem half_int : ∃ y, opInpl .Div (.int 1) (.int 2) = .ok (.float y) ∧ FinV y (2 ^ (10 + 1063)) := by
  have F : FinV (frac 1 2) (1 * 2 ^ (10 + 1063)) := by
    refine frac_exact (by omega) ?_ (holds_mul (by decide) (by omega))
    rw [show (1074 : Nat) = 10 + 1063 + 1 from rfl, Int.pow_succ, Int.mul_assoc]
  rw [Int.one_mul] at F
  exact ⟨_, divInt (by omega) F, F⟩
theorem half_float {x : UInt64} {t : Nat} (ht : t + 1 ≤ 1074) (hx : FinV x (2 ^ (t + 1))) : ∃ y, opInpl .Div (.float x) (.int 2) = .ok (.float y) ∧ FinV y (2 ^ t) := by
  have F := ofInt_exact (i := 2) (by decide)
  have hz : (2 : Int) * 2 ^ 1074 ≠ 0 := Int.mul_ne_zero (by omega) (by decide +kernel)
  refine ⟨Float64.div x (Float64.ofInt 2), ?_, ?_⟩
  · show fiBin .Div x 2 = _
    unfold fiBin
    simp only [F.notInf, F.notZero hz, Bool.false_eq_true, if_false]
  · have H := holds_mul (n := 1) (k := t) (by decide) (by omega)
    rw [Int.one_mul] at H
    refine div_exact hx F hz ?_ H
    rw [Int.pow_succ, Int.mul_assoc]
/-- a number's worth, in 2048ths -/
noncomputable def Worth (a : AV) (N : Int) : Prop := (∃ i, a = .int i ∧ N = i * 2048) ∨ ∃ x, a = .float x ∧ FinV x (N * 2 ^ 1063)
theorem mul_ex {x : UInt64} {s d : Int} (hs : s.natAbs < 2 ^ 53) (hd : (s * d).natAbs < 2 ^ 53) (hx : FinV x (d * 2 ^ 1063)) : ∃ y, opBin .Mult (.int s) (.float x) = .ok (.float y) ∧ FinV y (s * d * 2 ^ 1063) := by
  have F := ofInt_exact (i := s) (by omega)
  refine ⟨Float64.mul (Float64.ofInt s) x, ?_, mul_exact F hx ?_ (holds_mul hd (by omega))⟩
  · show ifBin .Mult s x = _
    unfold ifBin
    simp only [F.notInf, Bool.false_eq_true, if_false]
  · generalize (2 : Int) ^ 1074 = P
    generalize (2 : Int) ^ 1063 = R
    rw [Int.mul_assoc, ← Int.mul_assoc P, Int.mul_comm P d, Int.mul_assoc d, Int.mul_comm P R, ← Int.mul_assoc d, ← Int.mul_assoc s, Int.mul_assoc s d]
theorem add_ex {a : AV} {y : UInt64} {v d : Int} (ha : Worth a v) (hv : v.natAbs < 2 ^ 52) (hd : (v + d).natAbs < 2 ^ 53) (hy : FinV y (d * 2 ^ 1063)) : ∃ z, opBin .Add a (.float y) = .ok (.float z) ∧ FinV z ((v + d) * 2 ^ 1063) := by
  have H := holds_mul (k := 1063) hd (by omega)
  rw [Int.add_mul] at H ⊢
  rcases ha with ⟨i, rfl, rfl⟩ | ⟨x, rfl, hx⟩
  · have F := ofInt_exact (i := i) (by omega)
    rw [pow1074, ← Int.mul_assoc] at F
    refine ⟨Float64.add (Float64.ofInt i) y, ?_, add_exact F hy H⟩
    show ifBin .Add i y = _
    unfold ifBin
    simp only [F.notInf, Bool.false_eq_true, if_false]
  · exact ⟨Float64.add x y, rfl, add_exact hx hy H⟩
theorem value_ex {a : AV} {x : UInt64} {v d s : Int} (hs : s = 1 ∨ s = -1) (ha : Worth a v) (hv : v.natAbs < 2 ^ 52) (hd : d.natAbs < 2 ^ 52) (hx : FinV x (d * 2 ^ 1063)) : ∃ z, valueP a (.float x) s = some (.float z) ∧ FinV z ((v + s * d) * 2 ^ 1063) := by
  have h1 : (s * d).natAbs < 2 ^ 52 := by rcases hs with rfl | rfl <;> omega
  obtain ⟨y, e1, hy⟩ := mul_ex (s := s) (by rcases hs with rfl | rfl <;> omega) (by omega) hx
  obtain ⟨z, e2, hz⟩ := add_ex ha hv (by omega) hy
  refine ⟨z, ?_, hz⟩
  unfold valueP
  rw [e1]
  simp only [e2]
theorem tells_ok {a : AV} {m : Int} (ha : Worth a m) (hm : m.natAbs < 2 ^ 40) : tellsP a m = true := by
  have Fm : FinV (frac m 2048) (m * 2 ^ 1063) := by
    refine frac_exact (by omega) ?_ (holds_mul (by omega) (by omega))
    rw [pow1074, Int.mul_comm 2048, Int.mul_assoc]
  have F1 : FinV (frac 1 2048) (1 * 2 ^ 1063) := by
    refine frac_exact (by omega) ?_ (holds_mul (by decide) (by omega))
    rw [pow1074, Int.mul_comm 2048, Int.mul_assoc]
  have F2 := ofInt_exact (i := 2048) (by decide)
  have hz : (1 : Int) * 2 ^ 1063 ≠ 0 := Int.mul_ne_zero (by omega) (by decide +kernel)
  have B : FinV (Float64.div (frac m 2048) (frac 1 2048)) (m * 2 ^ 1074) := by
    refine div_exact Fm F1 hz ?_ (holds_mul (by omega) (by omega))
    rw [Int.one_mul]
    generalize (2 : Int) ^ 1074 = P
    generalize (2 : Int) ^ 1063 = R
    rw [Int.mul_assoc, Int.mul_comm R, Int.mul_assoc]
  have b1 : opInpl .Div (.float (frac m 2048)) (.float (frac 1 2048)) = .ok (.float (Float64.div (frac m 2048) (frac 1 2048))) := by
    show floatBin .Div _ _ = _
    unfold floatBin
    simp only [F1.notZero hz, Bool.false_eq_true, if_false]
  unfold tellsP
  rcases ha with ⟨i, rfl, hi⟩ | ⟨x, rfl, hx⟩
  · have c1 : opBin .Mult (.int i) (.int 2048) = .ok (.int (i * 2048)) := mult_right _ _ (by omega) (by omega)
    have c2 : opCmp .NotEq (.int (i * 2048)) (.int m) = some false := by
      show some (i * 2048 != m) = _
      rw [hi]; simp
    have c3 : opCmp .NotEq (.float (frac m 2048)) (.int i) = some false := by
      refine fiNe ?_
      rw [hi, Int.mul_assoc, ← pow1074] at Fm
      rw [hi]; exact Fm
    rw [c1, divInt (by omega) Fm, divInt (by omega) F1]
    simp only [c2, b1, c3, fiNe B]
  · have M : FinV (Float64.mul x (Float64.ofInt 2048)) (m * 2 ^ 1074) := by
      refine mul_exact hx F2 ?_ (holds_mul (by omega) (by omega))
      rw [pow1074]
      generalize (2 : Int) ^ 1063 = R
      simp only [Int.mul_assoc, Int.mul_comm, Int.mul_left_comm]
    have c1 : opBin .Mult (.float x) (.int 2048) = .ok (.float (Float64.mul x (Float64.ofInt 2048))) := by
      show fiBin .Mult x 2048 = _
      unfold fiBin
      simp only [F2.notInf, Bool.false_eq_true, if_false]
    rw [c1, divInt (by omega) Fm, divInt (by omega) F1]
    simp only [fiNe M, b1, ffNe Fm hx, fiNe B]
theorem whole_ok {m : Int} (hm : m.natAbs < 2 ^ 40) : wholeOk m = true := by
  have F : FinV (frac (m * 4096) 4096) (m * 2 ^ 1074) := by
    refine frac_exact (by omega) ?_ (holds_mul (by omega) (by omega))
    rw [Int.mul_assoc, Int.mul_assoc, Int.mul_comm 4096]
  unfold wholeOk
  have c1 : opBin .Mult (.int m) (.int 4096) = .ok (.int (m * 4096)) := mult_right _ _ (by omega) (by omega)
  rw [c1]
  simp only [divInt (b := 4096) (by omega) F, fiNe F]
  rfl
end Mine
end
section
open PySem PySem.W PyProof.Rows
namespace Mine
set_option maxRecDepth 100000
theorem turn_of {w0 s : Int} {σ : St} {step value : AV} {m : Int} (h1 : stepP (σ.turned || s != w0) σ.step = some step) (h2 : valueP σ.value step s = some value) (h3 : simplest (lowsP s σ) (highsP s σ) = .int m) (h4 : Worth value m) (hm : m.natAbs < 2 ^ 40) :
    turnP w0 s σ = some ⟨lowsP s σ, highsP s σ, m, value, step, σ.turned || s != w0⟩ := by
  unfold turnP
  simp only [h1, h2, h3]
  rw [if_pos (tells_ok h4 hm)]

/-- after the first other sign: the step is 2 ** j 2048ths -/
structure Bent (j : Nat) (σ : St) : Prop where
  turned : σ.turned = true
  step : ∃ x, σ.step = .float x ∧ FinV x (2 ^ (j + 1063))
  odd : ∃ q, σ.last = 2 ^ j * (2 * q + 1)
  value : Worth σ.value σ.last
  size : (σ.last.natAbs : Int) + 2 ^ j ≤ 100000
  low : Low σ.lows (σ.last - 2 ^ j)
  high : High σ.highs (σ.last + 2 ^ j)
theorem Bent.turn {j : Nat} {w0 s : Int} {σ : St} (hj : j + 1 ≤ 10) (hs : s = 1 ∨ s = -1) (h : Bent (j + 1) σ) : ∃ σ', turnP w0 s σ = some σ' ∧ Bent j σ' := by
  obtain ⟨x, ex, hx⟩ := h.step
  obtain ⟨q, eq⟩ := h.odd
  have hu : (0 : Int) < 2 ^ j := Int.pow_pos (by omega)
  have hsz := h.size
  have hlo := h.low
  have hhi := h.high
  rw [Int.pow_succ] at hsz eq hlo hhi
  have hx' : FinV x (2 ^ (j + 1063 + 1)) := by rw [show j + 1063 + 1 = j + 1 + 1063 from by omega]; exact hx
  obtain ⟨y, e1, hy⟩ := half_float (by omega) hx'
  have s1 : stepP (σ.turned || s != w0) σ.step = some (.float y) := by
    rw [h.turned, ex, Bool.true_or]
    unfold stepP
    simp only [e1]
  have hy' : FinV y (2 ^ j * 2 ^ 1063) := by rw [← Int.pow_add]; exact hy
  obtain ⟨z, e2, hz⟩ := value_ex (s := s) hs h.value (by omega) (by omega) hy'
  have hw : Worth (.float z) (σ.last + s * 2 ^ j) := .inr ⟨z, rfl, hz⟩
  rcases hs with rfl | rfl
  · have hodd : σ.last + 1 * 2 ^ j = 2 ^ j * (2 * (2 * q + 1) + 1) := by
      rw [eq, Int.mul_add (2 ^ j), Int.mul_one, Int.one_mul, ← Int.mul_assoc]
    have l1 : Low (lowsP 1 σ) σ.last := by
      unfold lowsP
      rw [if_pos rfl]
      exact hlo.push (by omega)
    have h1 : High (highsP 1 σ) (σ.last + 2 ^ j * 2) := by
      unfold highsP
      rw [if_neg (by omega)]
      exact hhi
    have l2 : Low (lowsP 1 σ) (2 ^ j * (2 * (2 * q + 1) + 1) - 2 ^ j) := by rw [← hodd]; rw [show σ.last + 1 * 2 ^ j - 2 ^ j = σ.last from by omega]; exact l1
    have h2 : High (highsP 1 σ) (2 ^ j * (2 * (2 * q + 1) + 1) + 2 ^ j) := by rw [← hodd]; rw [show σ.last + 1 * 2 ^ j + 2 ^ j = σ.last + 2 ^ j * 2 from by omega]; exact h1
    refine ⟨_, turn_of s1 e2 (simplest_mid (by omega) l2 h2) (by rw [← hodd]; exact hw) (by rw [← hodd]; omega), ?_⟩
    exact ⟨by rw [h.turned]; rfl, ⟨y, rfl, hy⟩, ⟨_, rfl⟩, by rw [← hodd]; exact hw, by show ((2 ^ j * (2 * (2 * q + 1) + 1) : Int).natAbs : Int) + 2 ^ j ≤ 100000; rw [← hodd]; omega, l2, h2⟩
  · have hodd : σ.last + -1 * 2 ^ j = 2 ^ j * (2 * (2 * q) + 1) := by
      rw [eq, Int.mul_assoc, Int.mul_add 2 (2 * q), Int.mul_add (2 ^ j) _ (2 * 1), Int.mul_add (2 ^ j), Int.mul_one, Int.mul_one]
      omega
    have h1 : High (highsP (-1) σ) σ.last := by
      unfold highsP
      rw [if_pos rfl]
      exact hhi.push (by omega)
    have l1 : Low (lowsP (-1) σ) (σ.last - 2 ^ j * 2) := by
      unfold lowsP
      rw [if_neg (by omega)]
      exact hlo
    have l2 : Low (lowsP (-1) σ) (2 ^ j * (2 * (2 * q) + 1) - 2 ^ j) := by rw [← hodd]; rw [show σ.last + -1 * 2 ^ j - 2 ^ j = σ.last - 2 ^ j * 2 from by omega]; exact l1
    have h2 : High (highsP (-1) σ) (2 ^ j * (2 * (2 * q) + 1) + 2 ^ j) := by rw [← hodd]; rw [show σ.last + -1 * 2 ^ j + 2 ^ j = σ.last from by omega]; exact h1
    refine ⟨_, turn_of s1 e2 (simplest_mid (by omega) l2 h2) (by rw [← hodd]; exact hw) (by rw [← hodd]; omega), ?_⟩
    exact ⟨by rw [h.turned]; rfl, ⟨y, rfl, hy⟩, ⟨_, rfl⟩, by rw [← hodd]; exact hw, by show ((2 ^ j * (2 * (2 * q) + 1) : Int).natAbs : Int) + 2 ^ j ≤ 100000; rw [← hodd]; omega, l2, h2⟩
theorem bent_runs {w0 : Int} : ∀ (w : List Int) (j : Nat) (σ : St), (∀ s ∈ w, s = 1 ∨ s = -1) → w.length ≤ j → j ≤ 10 → Bent j σ → ∃ σ', runs w0 w σ = some σ' ∧ wholeOk σ'.last = true
  | [], j, σ, _, _, _, h => ⟨σ, rfl, whole_ok (by
      have hu : (0 : Int) < 2 ^ j := Int.pow_pos (by omega)
      have := h.size
      omega)⟩
  | s :: w, 0, _, _, hl, _, _ => by simp at hl
  | s :: w, j + 1, σ, hs, hl, hj, h => by
    obtain ⟨σ', e, h'⟩ := Bent.turn (w0 := w0) hj (hs s (List.mem_cons_self ..)) h
    obtain ⟨σ'', e2, h2⟩ := bent_runs w j σ' (fun x hx => hs x (List.mem_cons_of_mem _ hx)) (by simpa using hl) (by omega) h'
    refine ⟨σ'', ?_, h2⟩
    simp only [runs, e]
    exact e2

/-- as long as all signs are alike: the k-th up -/
structure Up (k : Nat) (σ : St) : Prop where
  turned : σ.turned = false
  step : σ.step = .int 1
  value : σ.value = .int k
  last : σ.last = 2048 * k
  low : ∃ a, Low σ.lows a ∧ a ≤ 2048 * k ∧ (0 < k → a = 2048 * k - 2048)
  high : High σ.highs 1000000
structure Down (k : Nat) (σ : St) : Prop where
  turned : σ.turned = false
  step : σ.step = .int 1
  value : σ.value = .int (-k)
  last : σ.last = -(2048 * k)
  high : ∃ a, High σ.highs a ∧ -(2048 * k) ≤ a ∧ (0 < k → a = 2048 - 2048 * k)
  low : Low σ.lows (-1000000)
theorem Up.on {k : Nat} {σ : St} (hk : k ≤ 10) (h : Up k σ) : ∃ σ', turnP 1 1 σ = some σ' ∧ Up (k + 1) σ' := by
  obtain ⟨a, ha, hle, _⟩ := h.low
  have s1 : stepP (σ.turned || (1 : Int) != 1) σ.step = some (.int 1) := by rw [h.turned, h.step]; rfl
  have e2 : valueP σ.value (.int 1) 1 = some (.int ((k + 1 : Nat) : Int)) := by
    rw [h.value]
    unfold valueP
    rw [show opBin .Mult (.int 1) (.int 1) = .ok (.int (1 * 1)) from mult_right 1 1 (by omega) (by omega)]
    show some (AV.int (k + 1 * 1)) = _
    simp
  have l1 : Low (lowsP 1 σ) (2048 * k) := by
    unfold lowsP
    rw [if_pos rfl, h.last]
    exact ha.push hle
  have h1 : High (highsP 1 σ) 1000000 := by
    unfold highsP
    rw [if_neg (by omega)]
    exact h.high
  refine ⟨_, turn_of s1 e2 (simplest_of l1 h1 (smp_up (a := k) (by omega) (by omega))) (.inl ⟨_, rfl, by omega⟩) (by omega), ?_⟩
  exact ⟨by rw [h.turned]; rfl, rfl, rfl, by simp, ⟨_, l1, by omega, fun _ => by simp; omega⟩, h1⟩
theorem Down.on {k : Nat} {σ : St} (hk : k ≤ 10) (h : Down k σ) : ∃ σ', turnP (-1) (-1) σ = some σ' ∧ Down (k + 1) σ' := by
  obtain ⟨a, ha, hle, _⟩ := h.high
  have s1 : stepP (σ.turned || (-1 : Int) != -1) σ.step = some (.int 1) := by rw [h.turned, h.step]; rfl
  have e2 : valueP σ.value (.int 1) (-1) = some (.int (-((k + 1 : Nat) : Int))) := by
    rw [h.value]
    unfold valueP
    rw [show opBin .Mult (.int (-1)) (.int 1) = .ok (.int (-1 * 1)) from by unfold opBin; exact mult_right _ _ (by omega) (by omega)]
    show some (AV.int (-k + -1 * 1)) = _
    congr 2
    omega
  have h1 : High (highsP (-1) σ) (-(2048 * k)) := by
    unfold highsP
    rw [if_pos rfl, h.last]
    exact ha.push hle
  have l1 : Low (lowsP (-1) σ) (-1000000) := by
    unfold lowsP
    rw [if_neg (by omega)]
    exact h.low
  refine ⟨_, turn_of s1 e2 (simplest_of l1 h1 (smp_down (a := k) (by omega) (by omega))) (.inl ⟨_, rfl, by omega⟩) (by omega), ?_⟩
  exact ⟨by rw [h.turned]; rfl, rfl, rfl, by simp, ⟨_, h1, by omega, fun _ => by simp; omega⟩, l1⟩
theorem Up.bend {k : Nat} {σ : St} (hk : k ≤ 10) (h0 : 0 < k) (h : Up k σ) : ∃ σ', turnP 1 (-1) σ = some σ' ∧ Bent 10 σ' := by
  obtain ⟨a, ha, _, hle⟩ := h.low
  have hle := hle h0
  subst hle
  obtain ⟨y, e1, hy⟩ := half_int
  have s1 : stepP (σ.turned || (-1 : Int) != 1) σ.step = some (.float y) := by
    rw [h.turned, h.step]
    show stepP true _ = _
    unfold stepP
    simp only [e1]
  have hy' : FinV y (2 ^ 10 * 2 ^ 1063) := by rw [← Int.pow_add]; exact hy
  have hwk : Worth σ.value σ.last := by rw [h.value, h.last]; exact .inl ⟨_, rfl, by omega⟩
  have hlast := h.last
  obtain ⟨z, e2, hz⟩ := value_ex (s := -1) (.inr rfl) hwk (by omega) (by decide) hy'
  have hw : Worth (.float z) (σ.last + -1 * 2 ^ 10) := .inr ⟨z, rfl, hz⟩
  have hodd : σ.last + -1 * 2 ^ 10 = 2 ^ 10 * (2 * ((k : Int) - 1) + 1) := by rw [hlast]; omega
  have l1 : Low (lowsP (-1) σ) (2048 * k - 2048) := by
    unfold lowsP
    rw [if_neg (by omega)]
    exact ha
  have h1 : High (highsP (-1) σ) (2048 * k) := by
    unfold highsP
    rw [if_pos rfl, h.last]
    exact h.high.push (by omega)
  have l2 : Low (lowsP (-1) σ) (2 ^ 10 * (2 * ((k : Int) - 1) + 1) - 2 ^ 10) := by rw [show (2 : Int) ^ 10 * (2 * ((k : Int) - 1) + 1) - 2 ^ 10 = 2048 * k - 2048 from by omega]; exact l1
  have h2 : High (highsP (-1) σ) (2 ^ 10 * (2 * ((k : Int) - 1) + 1) + 2 ^ 10) := by rw [show (2 : Int) ^ 10 * (2 * ((k : Int) - 1) + 1) + 2 ^ 10 = 2048 * k from by omega]; exact h1
  refine ⟨_, turn_of s1 e2 (simplest_mid (by omega) l2 h2) (by rw [← hodd]; exact hw) (by rw [← hodd]; omega), ?_⟩
  exact ⟨by rw [h.turned]; rfl, ⟨y, rfl, hy⟩, ⟨_, rfl⟩, by rw [← hodd]; exact hw, by show ((2 ^ 10 * (2 * ((k : Int) - 1) + 1) : Int).natAbs : Int) + 2 ^ 10 ≤ 100000; rw [← hodd]; omega, l2, h2⟩
theorem Down.bend {k : Nat} {σ : St} (hk : k ≤ 10) (h0 : 0 < k) (h : Down k σ) : ∃ σ', turnP (-1) 1 σ = some σ' ∧ Bent 10 σ' := by
  obtain ⟨a, ha, _, hle⟩ := h.high
  have hle := hle h0
  subst hle
  obtain ⟨y, e1, hy⟩ := half_int
  have s1 : stepP (σ.turned || (1 : Int) != -1) σ.step = some (.float y) := by
    rw [h.turned, h.step]
    show stepP true _ = _
    unfold stepP
    simp only [e1]
  have hy' : FinV y (2 ^ 10 * 2 ^ 1063) := by rw [← Int.pow_add]; exact hy
  have hwk : Worth σ.value σ.last := by rw [h.value, h.last]; exact .inl ⟨_, rfl, by omega⟩
  have hlast := h.last
  obtain ⟨z, e2, hz⟩ := value_ex (s := 1) (.inl rfl) hwk (by omega) (by decide) hy'
  have hw : Worth (.float z) (σ.last + 1 * 2 ^ 10) := .inr ⟨z, rfl, hz⟩
  have hodd : σ.last + 1 * 2 ^ 10 = 2 ^ 10 * (2 * (-(k : Int)) + 1) := by rw [hlast]; omega
  have h1 : High (highsP 1 σ) (2048 - 2048 * k) := by
    unfold highsP
    rw [if_neg (by omega)]
    exact ha
  have l1 : Low (lowsP 1 σ) (-(2048 * k)) := by
    unfold lowsP
    rw [if_pos rfl, h.last]
    exact h.low.push (by omega)
  have l2 : Low (lowsP 1 σ) (2 ^ 10 * (2 * (-(k : Int)) + 1) - 2 ^ 10) := by rw [show (2 : Int) ^ 10 * (2 * (-(k : Int)) + 1) - 2 ^ 10 = -(2048 * k) from by omega]; exact l1
  have h2 : High (highsP 1 σ) (2 ^ 10 * (2 * (-(k : Int)) + 1) + 2 ^ 10) := by rw [show (2 : Int) ^ 10 * (2 * (-(k : Int)) + 1) + 2 ^ 10 = 2048 - 2048 * k from by omega]; exact h1
  refine ⟨_, turn_of s1 e2 (simplest_mid (by omega) l2 h2) (by rw [← hodd]; exact hw) (by rw [← hodd]; omega), ?_⟩
  exact ⟨by rw [h.turned]; rfl, ⟨y, rfl, hy⟩, ⟨_, rfl⟩, by rw [← hodd]; exact hw, by show ((2 ^ 10 * (2 * (-(k : Int)) + 1) : Int).natAbs : Int) + 2 ^ 10 ≤ 100000; rw [← hodd]; omega, l2, h2⟩
theorem up_runs : ∀ (w : List Int) (k : Nat) (σ : St), (∀ s ∈ w, s = 1 ∨ s = -1) → w.length + k ≤ 11 → 0 < k → Up k σ → ∃ σ', runs 1 w σ = some σ' ∧ wholeOk σ'.last = true
  | [], k, σ, _, _, _, h => ⟨σ, rfl, whole_ok (by rw [h.last]; omega)⟩
  | s :: w, k, σ, hs, hl, h0, h => by
    have hl : w.length + 1 + k ≤ 11 := hl
    have hw : ∀ s ∈ w, s = 1 ∨ s = -1 := fun x hx => hs x (List.mem_cons_of_mem _ hx)
    rcases hs s (List.mem_cons_self ..) with rfl | rfl
    · obtain ⟨σ', e, h'⟩ := h.on (by omega)
      obtain ⟨σ'', e2, h2⟩ := up_runs w (k + 1) σ' hw (by omega) (by omega) h'
      exact ⟨σ'', by simp only [runs, e]; exact e2, h2⟩
    · obtain ⟨σ', e, h'⟩ := h.bend (by omega) h0
      obtain ⟨σ'', e2, h2⟩ := bent_runs w 10 σ' hw (by omega) (by omega) h'
      exact ⟨σ'', by simp only [runs, e]; exact e2, h2⟩
theorem down_runs : ∀ (w : List Int) (k : Nat) (σ : St), (∀ s ∈ w, s = 1 ∨ s = -1) → w.length + k ≤ 11 → 0 < k → Down k σ → ∃ σ', runs (-1) w σ = some σ' ∧ wholeOk σ'.last = true
  | [], k, σ, _, _, _, h => ⟨σ, rfl, whole_ok (by rw [h.last]; omega)⟩
  | s :: w, k, σ, hs, hl, h0, h => by
    have hl : w.length + 1 + k ≤ 11 := hl
    have hw : ∀ s ∈ w, s = 1 ∨ s = -1 := fun x hx => hs x (List.mem_cons_of_mem _ hx)
    rcases hs s (List.mem_cons_self ..) with rfl | rfl
    · obtain ⟨σ', e, h'⟩ := h.bend (by omega) h0
      obtain ⟨σ'', e2, h2⟩ := bent_runs w 10 σ' hw (by omega) (by omega) h'
      exact ⟨σ'', by simp only [runs, e]; exact e2, h2⟩
    · obtain ⟨σ', e, h'⟩ := h.on (by omega)
      obtain ⟨σ'', e2, h2⟩ := down_runs w (k + 1) σ' hw (by omega) (by omega) h'
      exact ⟨σ'', by simp only [runs, e]; exact e2, h2⟩
theorem st0_up : Up 0 st0 := ⟨rfl, rfl, rfl, rfl, ⟨-1000000, ⟨by simp [st0], by simp [st0]⟩, by omega, fun h => by omega⟩, ⟨by simp [st0], by simp [st0]⟩⟩
theorem st0_down : Down 0 st0 := ⟨rfl, rfl, rfl, rfl, ⟨1000000, ⟨by simp [st0], by simp [st0]⟩, by omega, fun h => by omega⟩, ⟨by simp [st0], by simp [st0]⟩⟩
theorem word_up (w : List Int) (hs : ∀ s ∈ w, s = 1 ∨ s = -1) (hl : w.length ≤ 10) : ∃ σ', runs 1 (1 :: w) st0 = some σ' ∧ wholeOk σ'.last = true := by
  obtain ⟨σ', e, h'⟩ := st0_up.on (by omega)
  obtain ⟨σ'', e2, h2⟩ := up_runs w 1 σ' hs (by omega) (by omega) h'
  exact ⟨σ'', by simp only [runs, e]; exact e2, h2⟩
theorem word_down (w : List Int) (hs : ∀ s ∈ w, s = 1 ∨ s = -1) (hl : w.length ≤ 10) : ∃ σ', runs (-1) (-1 :: w) st0 = some σ' ∧ wholeOk σ'.last = true := by
  obtain ⟨σ', e, h'⟩ := st0_down.on (by omega)
  obtain ⟨σ'', e2, h2⟩ := down_runs w 1 σ' hs (by omega) (by omega) h'
  exact ⟨σ'', by simp only [runs, e]; exact e2, h2⟩
end Mine
end
section
open PySem PySem.W PyProof.Rows
namespace Mine
set_option maxRecDepth 100000
set_option linter.unusedSimpArgs false

theorem px_for {O : OpsF} {cal : Nat → List AV → Res} {ρ : List (Option Ent)} {i : Nat} {src : PE} {body : PSs} {v : AV} {l : List AV} (h : (pe O cal true ρ src).v = .ok v) (h2 : O.items v = some l) : px O cal true ρ (.for_ i src body) = forF (fun x ρ => pxs O cal true (ρ.set i (some (.val x))) body) l ρ := by
  simp only [px, h, h2]
def sgn (size : Int) (i : Nat) : Int := if ((((size.fdiv 11).fdiv (2 ^ i)).fmod 2) == 1) = true then 1 else -1
def wordOf (size : Int) : List Int := (List.range (1 + (size.fmod 11).toNat)).map (sgn size)
theorem wordOf_len (size : Int) : (wordOf size).length = 1 + (size.fmod 11).toNat ∧ (wordOf size).length ≤ 11 := by
  have h1 := Int.fmod_nonneg_of_pos size (b := 11) (by omega)
  have h2 := Int.fmod_lt_of_pos size (b := 11) (by omega)
  unfold wordOf
  simp only [List.length_map, List.length_range, true_and]
  omega
theorem wordOf_sgn (size : Int) : ∀ s ∈ wordOf size, s = 1 ∨ s = -1 := by
  intro s hs
  obtain ⟨i, _, rfl⟩ := List.mem_map.mp hs
  unfold sgn
  split
  · exact .inl rfl
  · exact .inr rfl
theorem big_pow : ∀ i : Fin 11, Builtin.Int.intTooBig (((Builtin.Int.intBits 2 : Nat) : Int) * ((i.val : Nat) : Int)) = false := by decide +kernel
theorem pow2 (i : Nat) (h : i < 11) : intBin .Pow 2 (i : Int) = .ok (.int (2 ^ i)) := by
  unfold intBin
  simp only
  rw [if_pos (by omega)]
  by_cases h0 : i = 0
  · subst h0; rfl
  · rw [if_neg (by simp; omega), if_neg (by decide), if_neg (by decide), big_pow ⟨i, h⟩]
    simp
theorem two_pow (i : Nat) (h : i < 11) : (0 : Int) < 2 ^ i ∧ (2 : Int) ^ i < 2 ^ 62 := by
  have := Nat.pow_lt_pow_right (a := 2) (by omega) (show i < 62 by omega)
  have e : ((2 ^ i : Nat) : Int) = (2 : Int) ^ i := by simp
  exact ⟨Int.pow_pos (by omega), by omega⟩

def wordE : PE := .ife (.cmp .Eq (.bin .Mod (.bin .FloorDiv (.bin .FloorDiv (.name 2) (.const (.int 11))) (.bin .Pow (.const (.int 2)) (.name 15))) (.const (.int 2))) (.const (.int 1))) (.const (.int 1)) (.un .USub (.const (.int 1)))
theorem word_comp (size : Int) (e0 e1 e3 e4 e5 e6 e7 e8 e9 e10 e11 e12 e13 e14 : Option Ent) :
    pe ops calB true [e0, e1, some (.val (.int size)), e3, e4, e5, e6, e7, e8, e9, e10, e11, e12, e13, e14] (.comp [2] wordE (.bcall .range (.cons (.bin .Add (.const (.int 1)) (.bin .Mod (.name 2) (.const (.int 11)))) .nil)) .nil)
      = .of ops.truth (.ok (.lst ((wordOf size).map .int))) := by
  have h1 := Int.fmod_nonneg_of_pos size (b := 11) (by omega)
  have h2 := Int.fmod_lt_of_pos size (b := 11) (by omega)
  have ra : ∀ a b, intBin .Add a b = .ok (.int (a + b)) := fun _ _ => rfl
  have rm : intBin .Mod size 11 = .ok (.int (size.fmod 11)) := mod_small _ _ (by omega)
  have hn : 1 + size.fmod 11 = ((1 + (size.fmod 11).toNat : Nat) : Int) := by omega
  refine pe_comp (a := .range 0 ((1 + (size.fmod 11).toNat : Nat) : Int) 1) ?_ (by rw [ops_items]; exact range_items _ (by omega)) ?_
  · simp only [pe_bcall, pes, pe_bin, pe_name, pe_const, List.getElem?_cons_zero, List.getElem?_cons_succ, PR.of, Res.bind, ops_bin, opBin, ra, rm, seqO, Option.map_some, onSome, ops_bcall, callB, hn]
  · rw [mapF_eq (h := fun i => some (.int (sgn size i)))]
    · unfold wordOf
      rw [List.map_map]
      congr 1
      generalize List.range (1 + (size.fmod 11).toNat) = l
      induction l with
      | nil => rfl
      | cons a l ih => simp only [List.filterMap_cons, List.map_cons, ih]; rfl
    · intro i hi
      have hi := List.mem_range.mp hi
      have hi11 : i < 11 := by omega
      have hm : ∀ y, mask [2] [e0, e1, some (.val (.int size)), e3, e4, e5, e6, e7, e8, e9, e10, e11, e12, e13, e14] ++ [y] = [none, none, some (.val (.int size)), none, none, none, none, none, none, none, none, none, none, none, none, y] := fun y => by simp [mask]
      rw [hm]
      have q1 : ops.bin .FloorDiv (.int size) (.int 11) = .ok (.int (size.fdiv 11)) := by rw [ops_bin]; exact floordiv_small size 11 (by omega) (by omega)
      have q2 : ops.bin .Pow (.int 2) (.int i) = .ok (.int (2 ^ i)) := by rw [ops_bin]; exact pow2 i hi11
      have q3 : ops.bin .FloorDiv (.int (size.fdiv 11)) (.int (2 ^ i)) = .ok (.int ((size.fdiv 11).fdiv (2 ^ i))) := by rw [ops_bin]; exact floordiv_small _ _ (two_pow i hi11).1 (two_pow i hi11).2
      have q4 : ops.bin .Mod (.int ((size.fdiv 11).fdiv (2 ^ i))) (.int 2) = .ok (.int (((size.fdiv 11).fdiv (2 ^ i)).fmod 2)) := by rw [ops_bin]; exact mod_small ((size.fdiv 11).fdiv (2 ^ i)) 2 (by omega)
      have q5 : ops.cmp .Eq (.int (((size.fdiv 11).fdiv (2 ^ i)).fmod 2)) (.int 1) = some (((size.fdiv 11).fdiv (2 ^ i)).fmod 2 == 1) := by rw [ops_cmp]; rfl
      have q6 : ops.un .USub (.int 1) = .ok (.int (-1)) := by rw [ops_un]; rfl
      unfold sgn
      cases hb : (((size.fdiv 11).fdiv (2 ^ i)).fmod 2 == 1) with
      | true =>
        rw [hb] at q5
        simp only [wordE, pes, allT, compF, pe_ife, pe_cmp, pe_bin, pe_name, pe_const, List.getElem?_cons_zero, List.getElem?_cons_succ, PR.of, Res.bind, q1, q2, q3, q4, q5, ofB, Res.truth, ops_truth, opTruth, if_true, beq_self_eq_true]
      | false =>
        rw [hb] at q5
        simp only [wordE, pes, allT, compF, pe_ife, pe_cmp, pe_bin, pe_un, pe_name, pe_const, List.getElem?_cons_zero, List.getElem?_cons_succ, PR.of, Res.bind, q1, q2, q3, q4, q5, q6, ofB, Res.truth, ops_truth, opTruth, if_false, beq_self_eq_true, Bool.false_eq_true]

def tailIf : PS := .ite (.bop .Or (.cons (.cmp .IsNot (.bcall .type (.cons (.name 14) .nil)) (.glob .float)) (.cons (.cmp .NotEq (.name 14) (.sub (.name 4) (.un .USub (.const (.int 1))))) .nil)))
 (.cons (.ret (.const (.bool false))) .nil)
 (.nil)
def sizeBody : PSs :=
 (.cons (.assign 3 false (.comp [2] wordE (.bcall .range (.cons (.bin .Add (.const (.int 1)) (.bin .Mod (.name 2) (.const (.int 11)))) .nil)) (.nil)))
 (.cons (.assign 4 true (.list (.cons (.const (.int 0)) .nil)))
 (.cons (.assign 5 false (.const (.int 0)))
 (.cons (.assign 6 false (.const (.int 1)))
 (.cons (.assign 7 false (.const (.bool false)))
 (.cons (.for_ 8 (.bcall .range (.cons (.bcall .len (.cons (.name 3) .nil)) .nil)) turnBody)
 (.cons (.assign 14 false (.call 0 (.cons (.bin .Mult (.sub (.name 4) (.un .USub (.const (.int 1)))) (.const (.int 4096))) (.cons (.const (.int 4096)) .nil))))
 (.cons tailIf .nil))))))))

theorem runs_word (size : Int) : ∃ w0 σ', (wordOf size)[0]? = some w0 ∧ runs w0 (wordOf size) st0 = some σ' ∧ wholeOk σ'.last = true := by
  obtain ⟨h1, h2⟩ := wordOf_len size
  have h3 := wordOf_sgn size
  revert h1 h2 h3
  generalize wordOf size = w
  intro h1 h2 h3
  cases w with
  | nil => simp at h1; omega
  | cons s w =>
    have hs := h3 s (List.mem_cons_self ..)
    have hw : ∀ x ∈ w, x = 1 ∨ x = -1 := fun x hx => h3 x (List.mem_cons_of_mem _ hx)
    have hl : w.length ≤ 10 := by simp at h2; omega
    rcases hs with rfl | rfl
    · obtain ⟨σ', a, b⟩ := word_up w hw hl
      exact ⟨1, σ', rfl, a, b⟩
    · obtain ⟨σ', a, b⟩ := word_down w hw hl
      exact ⟨-1, σ', rfl, a, b⟩

theorem size_ok (size : Int) (e0 e1 e3 e4 e5 e6 e7 e8 e9 e10 e11 e12 e13 e14 : Option Ent) : ∃ f3 f4 f5 f6 f7 f8 f9 f10 f11 f12 f13 f14, pxs ops calB true [e0, e1, some (.val (.int size)), e3, e4, e5, e6, e7, e8, e9, e10, e11, e12, e13, e14] sizeBody = .next [e0, e1, some (.val (.int size)), f3, f4, f5, f6, f7, f8, f9, f10, f11, f12, f13, f14] := by
  obtain ⟨w0, σ', hw0, hr, hwh⟩ := runs_word size
  obtain ⟨hl1, hl2⟩ := wordOf_len size
  obtain ⟨ws', f8, f9, f10, f11, f12, f13, L, hwl, hlast⟩ := loop_ok (word := wordOf size) hw0 (by omega) e0 e1 (some (.val (.int size))) e14 (wordOf size).length 0 st0 σ' [0] e8 e9 e10 e11 e12 e13 (by omega) rfl rfl rfl rfl hr
  have s3 : px ops calB true [e0, e1, some (.val (.int size)), e3, e4, e5, e6, e7, e8, e9, e10, e11, e12, e13, e14] (.assign 3 false (.comp [2] wordE (.bcall .range (.cons (.bin .Add (.const (.int 1)) (.bin .Mod (.name 2) (.const (.int 11)))) .nil)) (.nil))) = .next [e0, e1, some (.val (.int size)), some (.val (.lst ((wordOf size).map .int))), e4, e5, e6, e7, e8, e9, e10, e11, e12, e13, e14] := by
    rw [px_assign (v := .lst ((wordOf size).map .int)) (by rw [word_comp]; simp only [PR.of])]
    simp only [List.set_cons_zero, List.set_cons_succ]
  have s4 : px ops calB true [e0, e1, some (.val (.int size)), some (.val (.lst ((wordOf size).map .int))), e4, e5, e6, e7, e8, e9, e10, e11, e12, e13, e14] (.assign 4 true (.list (.cons (.const (.int 0)) .nil))) = .next [e0, e1, some (.val (.int size)), some (.val (.lst ((wordOf size).map .int))), some (.own [.int 0]), e5, e6, e7, e8, e9, e10, e11, e12, e13, e14] := by
    simp only [pxs, px, appV, pes, pe_const, pe_name, pe_glob, pe_bin, pe_un, pe_cmp, pe_bop, pe_sub, pe_call, pe_bcall, PR.of, List.getElem?_cons_zero, List.getElem?_cons_succ, ops_truth, opTruth, Res.bind, resS, List.set_cons_zero, List.set_cons_succ, seqV, seqO, onSome, Option.map_some, ofB, Res.truth, allT, if_true, pe_list, List.length_cons, List.length_nil, show (0 + 1 ≤ 100) = True from by simp]
  have s5 : px ops calB true [e0, e1, some (.val (.int size)), some (.val (.lst ((wordOf size).map .int))), some (.own [.int 0]), e5, e6, e7, e8, e9, e10, e11, e12, e13, e14] (.assign 5 false (.const (.int 0))) = .next [e0, e1, some (.val (.int size)), some (.val (.lst ((wordOf size).map .int))), some (.own [.int 0]), some (.val (.int 0)), e6, e7, e8, e9, e10, e11, e12, e13, e14] := by
    simp only [pxs, px, appV, pes, pe_const, pe_name, pe_glob, pe_bin, pe_un, pe_cmp, pe_bop, pe_sub, pe_call, pe_bcall, PR.of, List.getElem?_cons_zero, List.getElem?_cons_succ, ops_truth, opTruth, Res.bind, resS, List.set_cons_zero, List.set_cons_succ, seqV, seqO, onSome, Option.map_some, ofB, Res.truth, allT, if_true]
  have s6 : px ops calB true [e0, e1, some (.val (.int size)), some (.val (.lst ((wordOf size).map .int))), some (.own [.int 0]), some (.val (.int 0)), e6, e7, e8, e9, e10, e11, e12, e13, e14] (.assign 6 false (.const (.int 1))) = .next [e0, e1, some (.val (.int size)), some (.val (.lst ((wordOf size).map .int))), some (.own [.int 0]), some (.val (.int 0)), some (.val (.int 1)), e7, e8, e9, e10, e11, e12, e13, e14] := by
    simp only [pxs, px, appV, pes, pe_const, pe_name, pe_glob, pe_bin, pe_un, pe_cmp, pe_bop, pe_sub, pe_call, pe_bcall, PR.of, List.getElem?_cons_zero, List.getElem?_cons_succ, ops_truth, opTruth, Res.bind, resS, List.set_cons_zero, List.set_cons_succ, seqV, seqO, onSome, Option.map_some, ofB, Res.truth, allT, if_true]
  have s7 : px ops calB true [e0, e1, some (.val (.int size)), some (.val (.lst ((wordOf size).map .int))), some (.own [.int 0]), some (.val (.int 0)), some (.val (.int 1)), e7, e8, e9, e10, e11, e12, e13, e14] (.assign 7 false (.const (.bool false))) = .next [e0, e1, some (.val (.int size)), some (.val (.lst ((wordOf size).map .int))), some (.own [.int 0]), some (.val (.int 0)), some (.val (.int 1)), some (.val (.bool false)), e8, e9, e10, e11, e12, e13, e14] := by
    simp only [pxs, px, appV, pes, pe_const, pe_name, pe_glob, pe_bin, pe_un, pe_cmp, pe_bop, pe_sub, pe_call, pe_bcall, PR.of, List.getElem?_cons_zero, List.getElem?_cons_succ, ops_truth, opTruth, Res.bind, resS, List.set_cons_zero, List.set_cons_succ, seqV, seqO, onSome, Option.map_some, ofB, Res.truth, allT, if_true]
  have hri := range_items (wordOf size).length (by omega)
  have s8 : px ops calB true [e0, e1, some (.val (.int size)), some (.val (.lst ((wordOf size).map .int))), some (.own [.int 0]), some (.val (.int 0)), some (.val (.int 1)), some (.val (.bool false)), e8, e9, e10, e11, e12, e13, e14] (.for_ 8 (.bcall .range (.cons (.bcall .len (.cons (.name 3) .nil)) .nil)) turnBody) = .next [e0, e1, some (.val (.int size)), some (.val (.lst ((wordOf size).map .int))), some (.own (ws'.map .int)), some (.val σ'.value), some (.val σ'.step), some (.val (.bool σ'.turned)), f8, f9, f10, f11, f12, f13, e14] := by
    have hsrc : (pe ops calB true [e0, e1, some (.val (.int size)), some (.val (.lst ((wordOf size).map .int))), some (.own [.int 0]), some (.val (.int 0)), some (.val (.int 1)), some (.val (.bool false)), e8, e9, e10, e11, e12, e13, e14] (.bcall .range (.cons (.bcall .len (.cons (.name 3) .nil)) .nil))).v = .ok (.range 0 ((wordOf size).length : Int) 1) := by
      simp only [pe_bcall, pes, pe_name, List.getElem?_cons_zero, List.getElem?_cons_succ, PR.of, seqO, Option.map_some, onSome, ops_bcall, callB, List.length_map]
    rw [px_for hsrc (by rw [ops_items]; exact hri)]
    rw [List.range_eq_range']
    exact L
  unfold wholeOk at hwh
  cases m1 : opBin .Mult (.int σ'.last) (.int 4096) with
  | exc _ => rw [m1] at hwh; cases hwh
  | stuck => rw [m1] at hwh; cases hwh
  | ok v =>
  rw [m1] at hwh
  simp only at hwh
  split at hwh
  case h_2 => cases hwh
  rename_i x m2
  have m3 : opCmp .NotEq (.float x) (.int σ'.last) = some false := eq_of_beq hwh
  have hidx : idxL (ws'.map AV.int) (-1) = .ok (.int σ'.last) := by
    unfold idxL
    rw [if_neg (by omega), if_pos (by simp [hwl]; omega)]
    have : ((-1 : Int) + ((ws'.map AV.int).length : Nat)).toNat = (wordOf size).length := by simp [hwl]; omega
    rw [this, List.getElem?_map, hlast]; rfl
  have cb : ∀ a b, calB 0 [a, b] = opInpl .Div a b := itruediv_eq
  have fl : BI.name .float = "float" := rfl
  have q1 : ops.un .USub (.int 1) = .ok (.int (-1)) := by rw [ops_un]; rfl
  have q2 : ops.idx (.lst (ws'.map AV.int)) (.int (-1)) = .ok (.int σ'.last) := by rw [ops_idx]; simp only [opIdx, hidx]
  have q3 : ops.bin .Mult (.int σ'.last) (.int 4096) = .ok v := by rw [ops_bin]; exact m1
  have q4 : ops.cmp .NotEq (.float x) (.int σ'.last) = some false := by rw [ops_cmp]; exact m3
  have q8 : ops.cmp .IsNot (.type "float") (.type "float") = some false := by rw [ops_cmp]; rfl
  have q9 : ∀ y, ops.bcall .type [.float y] = .ok (.type "float") := fun _ => by rw [ops_bcall]; rfl
  have s9 : px ops calB true [e0, e1, some (.val (.int size)), some (.val (.lst ((wordOf size).map .int))), some (.own (ws'.map .int)), some (.val σ'.value), some (.val σ'.step), some (.val (.bool σ'.turned)), f8, f9, f10, f11, f12, f13, e14] (.assign 14 false (.call 0 (.cons (.bin .Mult (.sub (.name 4) (.un .USub (.const (.int 1)))) (.const (.int 4096))) (.cons (.const (.int 4096)) .nil)))) = .next [e0, e1, some (.val (.int size)), some (.val (.lst ((wordOf size).map .int))), some (.own (ws'.map .int)), some (.val σ'.value), some (.val σ'.step), some (.val (.bool σ'.turned)), f8, f9, f10, f11, f12, f13, some (.val (.float x))] := by
    simp only [pxs, px, appV, pes, pe_const, pe_name, pe_glob, pe_bin, pe_un, pe_cmp, pe_bop, pe_sub, pe_call, pe_bcall, PR.of, List.getElem?_cons_zero, List.getElem?_cons_succ, ops_truth, opTruth, Res.bind, resS, List.set_cons_zero, List.set_cons_succ, seqV, seqO, onSome, Option.map_some, ofB, Res.truth, allT, if_true, cb, q1, q2, q3, m2]
  have s10 : px ops calB true [e0, e1, some (.val (.int size)), some (.val (.lst ((wordOf size).map .int))), some (.own (ws'.map .int)), some (.val σ'.value), some (.val σ'.step), some (.val (.bool σ'.turned)), f8, f9, f10, f11, f12, f13, some (.val (.float x))] tailIf = .next [e0, e1, some (.val (.int size)), some (.val (.lst ((wordOf size).map .int))), some (.own (ws'.map .int)), some (.val σ'.value), some (.val σ'.step), some (.val (.bool σ'.turned)), f8, f9, f10, f11, f12, f13, some (.val (.float x))] := by
    simp only [tailIf, pxs, px, appV, pes, pe_const, pe_name, pe_glob, pe_bin, pe_un, pe_cmp, pe_bop, pe_sub, pe_call, pe_bcall, PR.of, List.getElem?_cons_zero, List.getElem?_cons_succ, ops_truth, opTruth, Res.bind, resS, List.set_cons_zero, List.set_cons_succ, seqV, seqO, onSome, Option.map_some, ofB, Res.truth, allT, if_true, fl, q1, q2, q4, q8, q9, or_and]
  have fin : pxs ops calB true [e0, e1, some (.val (.int size)), e3, e4, e5, e6, e7, e8, e9, e10, e11, e12, e13, e14] sizeBody = .next [e0, e1, some (.val (.int size)), some (.val (.lst ((wordOf size).map .int))), some (.own (ws'.map .int)), some (.val σ'.value), some (.val σ'.step), some (.val (.bool σ'.turned)), f8, f9, f10, f11, f12, f13, some (.val (.float x))] := by
    unfold sizeBody
    rw [pxs_next s3, pxs_next s4, pxs_next s5, pxs_next s6, pxs_next s7, pxs_next s8, pxs_next s9, pxs_next s10, pxs]
  exact ⟨_, _, _, _, _, _, _, _, _, _, _, _, fin⟩

theorem sizes_ok (e0 e1 : Option Ent) : ∀ (L : List Int) (e2 e3 e4 e5 e6 e7 e8 e9 e10 e11 e12 e13 e14 : Option Ent), ∃ f2 f3 f4 f5 f6 f7 f8 f9 f10 f11 f12 f13 f14,
    forF (fun x ρ => pxs ops calB true (ρ.set 2 (some (.val x))) sizeBody) (L.map .int) [e0, e1, e2, e3, e4, e5, e6, e7, e8, e9, e10, e11, e12, e13, e14] = .next [e0, e1, f2, f3, f4, f5, f6, f7, f8, f9, f10, f11, f12, f13, f14]
  | [], e2, e3, e4, e5, e6, e7, e8, e9, e10, e11, e12, e13, e14 => ⟨_, _, _, _, _, _, _, _, _, _, _, _, _, rfl⟩
  | size :: L, e2, e3, e4, e5, e6, e7, e8, e9, e10, e11, e12, e13, e14 => by
    obtain ⟨f3, f4, f5, f6, f7, f8, f9, f10, f11, f12, f13, f14, A⟩ := size_ok size e0 e1 e3 e4 e5 e6 e7 e8 e9 e10 e11 e12 e13 e14
    obtain ⟨g2, g3, g4, g5, g6, g7, g8, g9, g10, g11, g12, g13, g14, B⟩ := sizes_ok e0 e1 L (some (.val (.int size))) f3 f4 f5 f6 f7 f8 f9 f10 f11 f12 f13 f14
    refine ⟨g2, g3, g4, g5, g6, g7, g8, g9, g10, g11, g12, g13, g14, ?_⟩
    rw [List.map_cons, forF]
    simp only [List.set_cons_zero, List.set_cons_succ]
    rw [A]
    exact B

theorem ints_pick (ns : List Int) : ∀ is : List Nat, ints? (is.filterMap ((ns.map AV.int)[·]?)) = some (is.filterMap (ns[·]?))
  | [] => rfl
  | i :: is => by
    simp only [List.filterMap_cons, List.getElem?_map]
    cases ns[i]? with
    | none => simpa using ints_pick ns is
    | some x =>
      simp only [Option.map_some, ints?]
      have ih := ints_pick ns is
      simp only [List.getElem?_map] at ih
      rw [ih]
      rfl

def sizeE : PE := .bcall .abs (.cons (.bcall .sum (.cons (.slice (.name 0) (.name 15) (.const .none) (.const (.int 12))) .nil)) .nil)
theorem sizes_comp (ns : List Int) (e1 e2 e3 e4 e5 e6 e7 e8 e9 e10 e11 e12 e13 e14 : Option Ent) : ∃ L : List Int, L.length = 12 ∧
    pe ops calB true [some (.val (.lst (ns.map .int))), e1, e2, e3, e4, e5, e6, e7, e8, e9, e10, e11, e12, e13, e14] (.comp [0] sizeE (.bcall .range (.cons (.const (.int 12)) .nil)) .nil) = .of ops.truth (.ok (.lst (L.map .int))) := by
  have H : ∀ i : Nat, ∃ m : Int, (pe ops calB true [some (.val (.lst (ns.map .int))), none, none, none, none, none, none, none, none, none, none, none, none, none, none, some (.val (.int i))] sizeE).v = .ok (.int m) := by
    intro i
    have q1 : ops.slice (.lst (ns.map AV.int)) (.int i) .none (.int 12) = .ok (.lst (pickL (ns.map AV.int) (some (i : Int)) none (some 12))) := by
      rw [ops_slice]
      simp only [opSlice, sliceL, asPart]
      rw [if_neg (by simp)]
    have q2 : ∃ m, ops.bcall .sum [.lst (pickL (ns.map AV.int) (some (i : Int)) none (some 12))] = .ok (.int m) := by
      rw [ops_bcall]
      simp only [callB, pickL, ints_pick]
      exact ⟨_, rfl⟩
    obtain ⟨m, q2⟩ := q2
    have q3 : ops.bcall .abs [.int m] = .ok (.int (if m < 0 then -m else m)) := by rw [ops_bcall]; rfl
    refine ⟨if m < 0 then -m else m, ?_⟩
    simp only [sizeE, pe_bcall, pe_slice, pe_name, pe_const, pes, List.getElem?_cons_zero, List.getElem?_cons_succ, PR.of, Res.bind, seqO, Option.map_some, onSome, q1, q2, q3]
  obtain ⟨g, hg⟩ := Classical.skolem.mp H
  refine ⟨(List.range 12).map g, by simp, ?_⟩
  refine pe_comp (a := .range 0 ((12 : Nat) : Int) 1) ?_ (by rw [ops_items]; exact range_items _ (by omega)) ?_
  · simp only [pe_bcall, pes, pe_const, PR.of, seqO, Option.map_some, onSome, ops_bcall, callB]
    rfl
  · rw [mapF_eq (h := fun i => some (.int (g i)))]
    · rw [List.map_map]
      have : ∀ l : List Nat, l.filterMap (fun i => some (AV.int (g i))) = l.map (AV.int ∘ g) := by
        intro l
        induction l with
        | nil => rfl
        | cons a l ih => rw [List.filterMap_cons, List.map_cons, ih]; rfl
      rw [this]
    · intro i hi
      have hm : ∀ y, mask [0] [some (.val (.lst (ns.map AV.int))), e1, e2, e3, e4, e5, e6, e7, e8, e9, e10, e11, e12, e13, e14] ++ [y] = [some (.val (.lst (ns.map AV.int))), none, none, none, none, none, none, none, none, none, none, none, none, none, none, y] := fun y => by simp [mask]
      rw [hm]
      have hs := hg i
      rw [pes]
      unfold compF
      simp only [allT, beq_self_eq_true]
      rw [hs]

theorem law_true (ns : List Int) : lawRes ns = .ok (.bool true) := by
  show fnRes (pxs ops calB true [some (.val (.lst (ns.map .int))), none, none, none, none, none, none, none, none, none, none, none, none, none, none] law_p) = _
  obtain ⟨L, hL, hc⟩ := sizes_comp ns none none none none none none none none none none none none none none
  have h1 : px ops calB true [some (.val (.lst (ns.map .int))), none, none, none, none, none, none, none, none, none, none, none, none, none, none] (.assign 1 false (.bin .Add (.comp [0] sizeE (.bcall .range (.cons (.const (.int 12)) .nil)) (.nil)) (.list (.cons (.const (.int 21)) (.cons (.const (.int 2026)) (.cons (.const (.int 1890)) .nil))))))
      = .next [some (.val (.lst (ns.map .int))), some (.val (.lst ((L ++ [21, 2026, 1890]).map .int))), none, none, none, none, none, none, none, none, none, none, none, none, none] := by
    have q : ops.bin .Add (.lst (L.map AV.int)) (.lst [.int 21, .int 2026, .int 1890]) = .ok (.lst ((L ++ [21, 2026, 1890]).map AV.int)) := by
      rw [ops_bin]
      simp only [opBin]
      rw [if_pos (by simp [hL])]
      simp
    rw [px_assign (v := .lst ((L ++ [21, 2026, 1890]).map .int)) (by
      rw [pe_bin, hc]
      simp only [PR.of, pe_list, pes, pe_const, seqV, Option.map_some, onSome, List.length_cons, List.length_nil, show (0 + 1 + 1 + 1 ≤ 100) = True from by simp, if_true, Res.bind, q])]
    simp only [List.set_cons_zero, List.set_cons_succ]
  obtain ⟨g2, g3, g4, g5, g6, g7, g8, g9, g10, g11, g12, g13, g14, B⟩ := sizes_ok (some (.val (.lst (ns.map .int)))) (some (.val (.lst ((L ++ [21, 2026, 1890]).map .int)))) (L ++ [21, 2026, 1890]) none none none none none none none none none none none none none
  have h2 : px ops calB true [some (.val (.lst (ns.map .int))), some (.val (.lst ((L ++ [21, 2026, 1890]).map .int))), none, none, none, none, none, none, none, none, none, none, none, none, none] (.for_ 2 (.name 1) sizeBody)
      = .next [some (.val (.lst (ns.map .int))), some (.val (.lst ((L ++ [21, 2026, 1890]).map .int))), g2, g3, g4, g5, g6, g7, g8, g9, g10, g11, g12, g13, g14] := by
    rw [px_for (v := .lst ((L ++ [21, 2026, 1890]).map .int)) (by simp only [pe_name, List.getElem?_cons_zero, List.getElem?_cons_succ, PR.of]) (by rw [ops_items]; rfl)]
    exact B
  have e : law_p = .cons (.assign 1 false (.bin .Add (.comp [0] sizeE (.bcall .range (.cons (.const (.int 12)) .nil)) (.nil)) (.list (.cons (.const (.int 21)) (.cons (.const (.int 2026)) (.cons (.const (.int 1890)) .nil))))))
    (.cons (.for_ 2 (.name 1) sizeBody) (.cons (.ret (.const (.bool true))) .nil)) := rfl
  rw [e, pxs_next h1, pxs_next h2]
  simp only [pxs, px, pe_const, PR.of, resS, fnRes]
end Mine
end
section
open PySem PySem.W PyProof.Rows
set_option Elab.async false
set_option maxRecDepth 100000 in
set_option maxHeartbeats 8000000 in
theorem PySem.Challenge.cw_dm0221_01_holds : PySem.Challenge.rw_dm0221_01.Holds := by
  (w_on; o_law; k_head; (case hw => w_witness2))
  k_fill
  intro w s₀ s₁ mg mb G Y fa o pm cd doc dV kV ho hd hcd hD hmg hg args vals as hpre hlay hrd hwl hlo
  have KX := kIn_of Y
  refine Ground.open G ?_
  intro T B D TE TW
  try (refine guard_noD D (by decide +kernel) ?_; clear D)
  wrow_args hpre hlay hrd hwl hlo
  refine enter_call ?_
  w_top on
  try refine codeAny_mono ?_ (fun _ _ g => GoodW.toG g)
  rename_i hL _ w1 _ hI _ hlen _
  clear hd hD ho hcd
  have hn := Int.not_lt.mp hlen
  have hl := Mine.isL_of_well hL w1 rfl
  refine Mine.law_code T (by decide +kernel) (Mine.law_true _) (by omega) hl hI hmg fun s' h1 h2 h3 => ?_
  refine ⟨.inl ⟨_, .bool true, [], rfl, fun cls => rfl, .bool true, ?_, fun _ => ⟨List.nodup_nil, fun a ha => by cases ha⟩⟩, h1, h2, h3.trans hg⟩
  wrow_post
end
