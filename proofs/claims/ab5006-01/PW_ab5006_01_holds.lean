import PyProof.Rows.All
import Wide.All
import OpenK.AllK
import Wide.FinOn
import PyProof.ExcFactsAll.NotImplementedError
import PySem.Challenge.RW_ab5006_01
set_option Elab.async false
set_option maxRecDepth 100000
set_option maxHeartbeats 8000000
set_option linter.unusedVariables false
set_option linter.unusedSimpArgs false
namespace Mine
open PySem PySem.W PyProof.Rows
open_top hd01 for PySem.Challenge.rw_ab5006_01
open PySem PySem.W PySem.Calls PyProof.Rows
/-! plain data, and what it is that a value stands for in a heap -/
abbrev Kp (h h' : Heap) : Prop := ∀ b o, h.get? b = some o → h'.get? b = some o
theorem Kp.rfl' (h : Heap) : Kp h h := fun _ _ e => e
theorem Kp.trans {a b c : Heap} (x : Kp a b) (y : Kp b c) : Kp a c := fun _ _ e => y _ _ (x _ _ e)
theorem Kp.push (h : Heap) (o : Obj) : Kp h (h.push o) := fun _ _ e => Heap.get?_push_of_some _ e
theorem Kp.hide (h : Heap) (a : Addr) : Kp (h.hide a) h := fun _ _ e => Heap.of_hide e
theorem Kp.hide2 {h h' : Heap} (k : Kp h h') (a : Addr) : Kp (h.hide a) (h'.hide a) := fun b o e => by
  have hb : b ≠ a := by rintro rfl; rw [Heap.hide_self] at e; cases e
  rw [Heap.hide_ne _ hb] at e ⊢; exact k b o e

inductive D where
  | none
  | bool (b : Bool)
  | int (i : Int)
  | str (s : Str)
  | list (xs : List D)
  | tup (xs : List D)

mutual
def Rep (h : Heap) : Value → D → Prop
  | v, .none => v = .none
  | v, .bool b => v = .bool b
  | v, .int i => ∃ t, v = .int i t
  | v, .str s => ∃ t, v = .str s t
  | v, .list xs => ∃ a items, v = .ref a ∧ h.IsList a items ∧ RepL h items.toList xs
  | v, .tup xs => ∃ a items, v = .ref a ∧ h.IsTuple a items ∧ RepL h items.toList xs
def RepL (h : Heap) : List Value → List D → Prop
  | vs, [] => vs = []
  | vs, x :: xs => ∃ v r, vs = v :: r ∧ Rep h v x ∧ RepL h r xs
end

mutual
theorem Rep.kp {h h' : Heap} (k : Kp h h') : ∀ {d : D} {v : Value}, Rep h v d → Rep h' v d
  | .none, _, r => r
  | .bool _, _, r => r
  | .int _, _, r => r
  | .str _, _, r => r
  | .list xs, _, ⟨a, items, e, hl, r⟩ => ⟨a, items, e, hl.at fun o e => k _ o e, RepL.kp k r⟩
  | .tup xs, _, ⟨a, items, e, hl, r⟩ => ⟨a, items, e, hl.at fun o e => k _ o e, RepL.kp k r⟩
theorem RepL.kp {h h' : Heap} (k : Kp h h') : ∀ {ds : List D} {vs : List Value}, RepL h vs ds → RepL h' vs ds
  | [], _, r => r
  | _ :: _, _, ⟨v, t, e, r, rs⟩ => ⟨v, t, e, Rep.kp k r, RepL.kp k rs⟩
end

theorem RepL.length {h : Heap} : ∀ {ds : List D} {vs : List Value}, RepL h vs ds → vs.length = ds.length
  | [], _, r => by unfold RepL at r; subst r; rfl
  | _ :: _, _, r => by unfold RepL at r; obtain ⟨v, t, rfl, _, rs⟩ := r; simp [RepL.length rs]
theorem RepL.get {h : Heap} : ∀ {ds : List D} {vs : List Value} {i : Nat} {d : D}, RepL h vs ds → ds[i]? = some d → ∃ v, vs[i]? = some v ∧ Rep h v d
  | [], _, _, _, _, e => by simp at e
  | x :: xs, _, 0, d, r, e => by unfold RepL at r; obtain ⟨v, t, rfl, r, rs⟩ := r; simp at e; subst e; exact ⟨v, rfl, r⟩
  | x :: xs, _, i + 1, d, r, e => by unfold RepL at r; obtain ⟨v, t, rfl, r, rs⟩ := r; simp at e; simpa using RepL.get rs e
theorem RepL.get' {h : Heap} : ∀ {ds : List D} {vs : List Value} {i : Nat} {v : Value}, RepL h vs ds → vs[i]? = some v → ∃ d, ds[i]? = some d ∧ Rep h v d
  | [], _, _, _, r, e => by unfold RepL at r; subst r; simp at e
  | x :: xs, _, 0, _, r, e => by unfold RepL at r; obtain ⟨v, t, rfl, r, rs⟩ := r; simp at e; subst e; exact ⟨x, rfl, r⟩
  | x :: xs, _, i + 1, _, r, e => by unfold RepL at r; obtain ⟨v, t, rfl, r, rs⟩ := r; simp at e; simpa using RepL.get' rs e
theorem RepL.nil {h : Heap} : RepL h [] [] := by unfold RepL; rfl
theorem RepL.cons {h : Heap} {v : Value} {vs : List Value} {d : D} {ds : List D} (r : Rep h v d) (rs : RepL h vs ds) : RepL h (v :: vs) (d :: ds) := by unfold RepL; exact ⟨v, vs, rfl, r, rs⟩
theorem RepL.append {h : Heap} : ∀ {ds ds' : List D} {vs vs' : List Value}, RepL h vs ds → RepL h vs' ds' → RepL h (vs ++ vs') (ds ++ ds')
  | [], _, _, _, r, r' => by unfold RepL at r; subst r; exact r'
  | _ :: _, _, _, _, r, r' => by unfold RepL at r; obtain ⟨v, t, rfl, r, rs⟩ := r; exact RepL.cons r (RepL.append rs r')
theorem RepL.of {h : Heap} : ∀ {ds : List D} {vs : List Value}, vs.length = ds.length → (∀ (i : Nat) v d, vs[i]? = some v → ds[i]? = some d → Rep h v d) → RepL h vs ds
  | [], vs, hl, _ => by cases vs with | nil => exact RepL.nil | cons _ _ => simp at hl
  | d :: ds, vs, hl, hr => by
    cases vs with
    | nil => simp at hl
    | cons v vs => exact RepL.cons (hr 0 v d rfl rfl) (RepL.of (by simpa using hl) fun i v' d' e e' => hr (i + 1) v' d' (by simpa using e) (by simpa using e'))

abbrev intsD (xs : List Int) : D := .list (xs.map .int)
theorem RepL.intsAre {h : Heap} : ∀ {xs : List Int} {vs : List Value}, RepL h vs (xs.map D.int) → IntsAre vs xs
  | [], vs, r => by simp only [List.map_nil] at r; unfold RepL at r; subst r; exact .nil
  | x :: xs, vs, r => by
    simp only [List.map_cons] at r; unfold RepL at r; obtain ⟨v, t, rfl, r, rs⟩ := r
    unfold Rep at r; obtain ⟨tk, rfl⟩ := r; exact .cons _ _ (RepL.intsAre rs)
theorem RepL.ofInts {h : Heap} : ∀ {xs : List Int} {vs : List Value}, IntsAre vs xs → RepL h vs (xs.map D.int)
  | _, _, .nil => RepL.nil
  | _, _, .cons _ _ r => RepL.cons (by unfold Rep; exact ⟨_, rfl⟩) (RepL.ofInts r)

theorem rep_int {h : Heap} {i : Int} {t : Tok} : Rep h (.int i t) (.int i) := by unfold Rep; exact ⟨t, rfl⟩
theorem rep_bool {h : Heap} {b : Bool} : Rep h (.bool b) (.bool b) := by unfold Rep; rfl
theorem rep_none {h : Heap} : Rep h .none .none := by unfold Rep; rfl
theorem rep_str {h : Heap} {x : Str} {t : Tok} : Rep h (.str x t) (.str x) := by unfold Rep; exact ⟨t, rfl⟩
theorem rep_list {h : Heap} {a : Addr} {items : Array Value} {xs : List D} (hl : h.IsList a items) (r : RepL h items.toList xs) : Rep h (.ref a) (.list xs) := by unfold Rep; exact ⟨a, items, rfl, hl, r⟩
theorem rep_tup {h : Heap} {a : Addr} {items : Array Value} {xs : List D} (hl : h.IsTuple a items) (r : RepL h items.toList xs) : Rep h (.ref a) (.tup xs) := by unfold Rep; exact ⟨a, items, rfl, hl, r⟩
theorem rep_ints {h : Heap} {a : Addr} {items : Array Value} {xs : List Int} (hl : h.IsList a items) (r : IntsAre items.toList xs) : Rep h (.ref a) (intsD xs) := rep_list hl (RepL.ofInts r)
theorem Rep.toInt {h : Heap} {v : Value} {i : Int} (r : Rep h v (.int i)) : ∃ t, v = .int i t := by unfold Rep at r; exact r
theorem Rep.toBool {h : Heap} {v : Value} {i : Bool} (r : Rep h v (.bool i)) : v = .bool i := by unfold Rep at r; exact r
theorem Rep.toNone {h : Heap} {v : Value} (r : Rep h v .none) : v = .none := by unfold Rep at r; exact r
theorem Rep.toStr {h : Heap} {v : Value} {i : Str} (r : Rep h v (.str i)) : ∃ t, v = .str i t := by unfold Rep at r; exact r
theorem Rep.toList {h : Heap} {v : Value} {xs : List D} (r : Rep h v (.list xs)) : ∃ a items, v = .ref a ∧ h.IsList a items ∧ RepL h items.toList xs := by unfold Rep at r; exact r
theorem Rep.toTup {h : Heap} {v : Value} {xs : List D} (r : Rep h v (.tup xs)) : ∃ a items, v = .ref a ∧ h.IsTuple a items ∧ RepL h items.toList xs := by unfold Rep at r; exact r
theorem Rep.toInts {h : Heap} {v : Value} {xs : List Int} (r : Rep h v (intsD xs)) : ∃ a items, v = .ref a ∧ h.IsList a items ∧ IntsAre items.toList xs := by
  obtain ⟨a, items, e, hl, r⟩ := r.toList; exact ⟨a, items, e, hl, r.intsAre⟩

def D.flat : D → Bool
  | .none | .bool _ | .int _ | .str _ => true
  | _ => false
theorem Rep.flat {h : Heap} (h' : Heap) {v : Value} {d : D} (hf : d.flat = true) (r : Rep h v d) : Rep h' v d := by
  cases d <;> first | (simp [D.flat] at hf; done) | (unfold Rep at *; exact r)

/-! states alike but for heap and count of tokens -/
structure Same (s s' : Shared) : Prop where
  gens : s'.gens = s.gens
  drawn : s'.drawn = s.drawn
  os : s'.os = s.os
theorem Same.rfl' (s : Shared) : Same s s := ⟨rfl, rfl, rfl⟩
theorem Same.trans {a b c : Shared} (x : Same a b) (y : Same b c) : Same a c := ⟨y.gens.trans x.gens, y.drawn.trans x.drawn, y.os.trans x.os⟩
theorem Same.mk' {s : Shared} {h : Heap} {tk : Nat} : Same s { s with heap := h, toks := tk } := ⟨rfl, rfl, rfl⟩
theorem Same.eq {s s' : Shared} (x : Same s s') : s' = { s with heap := s'.heap, toks := s'.toks } := by
  obtain ⟨a, b, c, d, e⟩ := s; obtain ⟨a', b', c', d', e'⟩ := s'; obtain ⟨x1, x2, x3⟩ := x; simp_all
theorem Same.ofKeeps {s s' : Shared} (x : Keeps s s') : Same s s' ∧ Kp s.heap s'.heap := by
  obtain ⟨h', tk, rfl, k⟩ := x; exact ⟨⟨rfl, rfl, rfl⟩, k⟩
theorem Same.keeps {s s' : Shared} (x : Same s s') (k : Kp s.heap s'.heap) : Keeps s s' := ⟨s'.heap, s'.toks, x.eq, k⟩

/-! names -/
def Var (env : Env) (h : Heap) (x : Str) (v : Value) : Prop :=
  (env.kindOf x = some .local ∧ ∃ m, h.Ns env.locals m ∧ m x = some v) ∨
  ((env.kindOf x = some .cell ∨ env.kindOf x = some .free) ∧ ∃ c, env.cells.lookup x = some c ∧ h.IsCell c (some v))
theorem Var.kp {env : Env} {h h' : Heap} {x : Str} {v : Value} (k : Kp h h') : Var env h x v → Var env h' x v
  | .inl ⟨e, m, hn, hv⟩ => .inl ⟨e, m, hn.keeps k, hv⟩
  | .inr ⟨e, c, hc, o, ho, hd⟩ => .inr ⟨e, c, hc, o, k _ _ ho, hd⟩

abbrev Rho := List (Str × D)
def Sees (env : Env) (h : Heap) (ρ : Rho) : Prop := ∀ p ∈ ρ, ∃ v, Var env h p.1 v ∧ Rep h v p.2
theorem Sees.kp {env : Env} {h h' : Heap} {ρ : Rho} (k : Kp h h') (x : Sees env h ρ) : Sees env h' ρ := fun p hp => let ⟨v, a, b⟩ := x p hp; ⟨v, a.kp k, b.kp k⟩

/-- what is known of the text's top, whatever the heap -/
structure W0 where
  prog : Program
  w : World
  K : Frag
  mg : Str → Option Value
  mb : Str → Option Value
def bNames : List Str := ["int", "sum", "len", "range", "sorted", "max", "abs", "list", "NotImplementedError"]
structure GW (C : W0) (h : Heap) : Prop where
  g : h.Ns mainGlobals C.mg
  b : h.Ns builtinsNs C.mb
  nolimit : h.NoLimit
  bi : ∀ x : Str, x ≠ "__name__" → C.mb x = bootBuiltins x
  X : C.K.In h
  nb : ∀ x ∈ bNames, C.mg x = none
theorem GW.kp {C : W0} {h h' : Heap} (k : Kp h h') (x : GW C h) : GW C h' := ⟨x.g.keeps k, x.b.keeps k, x.nolimit.keeps k, x.bi, x.X.keeps k, x.nb⟩

structure Room (n : Nat) (A : Around) : Prop where
  depth : A.depth + n < recursionLimit
  units : A.units + 10 * n + 400 < cLine
  handled : A.handled = none
theorem Room.deeper {n : Nat} {A : Around} (r : Room (n + 1) A) (env : Env) : Room n (A.deeper env) :=
  ⟨by have := r.depth; show A.depth + 1 + n < _; omega, by have := r.units; show A.units + 3 + 10 * n + 400 < _; omega, r.handled⟩
theorem Room.in1 {n : Nat} {A : Around} (r : Room (n + 1) A) : Room n A.in1 :=
  ⟨by have := r.depth; show A.depth + n < _; omega, by have := r.units; show A.units + 1 + 10 * n + 400 < _; omega, r.handled⟩
theorem Room.le {n m : Nat} {A : Around} (r : Room n A) (h : m ≤ n) : Room m A := ⟨by have := r.depth; omega, by have := r.units; omega, r.handled⟩

structure EnvOk (env : Env) : Prop where
  g : env.globals = mainGlobals
  b : env.builtins = builtinsNs
  k : env.scope.kind = .function

/-- an expression gives this datum, and nothing that stood is changed -/
def Ev (C : W0) (n : Nat) (env : Env) (ρ : Rho) (e : Expr) (d : D) : Prop :=
  ∀ ⦃A : Around⦄ ⦃s : Shared⦄ ⦃Q : Value → Shared → Prop⦄ ⦃E : Value → Shared → Prop⦄, Room n A → GW C s.heap → Sees env s.heap ρ →
    (∀ v s', Same s s' → Kp s.heap s'.heap → Rep s'.heap v d → Q v s') → wpAny (model C.prog C.w) A (eval e env) Q E s
/-- a test -/
def Ts (C : W0) (n : Nat) (env : Env) (ρ : Rho) (e : Expr) (b : Bool) : Prop :=
  ∀ ⦃A : Around⦄ ⦃s : Shared⦄ ⦃Q : Bool → Shared → Prop⦄ ⦃E : Value → Shared → Prop⦄, Room n A → GW C s.heap → Sees env s.heap ρ →
    (∀ s', Same s s' → Kp s.heap s'.heap → Q b s') → wpAny (model C.prog C.w) A (isTrue e env (eval e env)) Q E s
/-- a made list of ints, new -/
def EvF (C : W0) (n : Nat) (env : Env) (ρ : Rho) (e : Expr) (xs : List Int) : Prop :=
  ∀ ⦃A : Around⦄ ⦃s : Shared⦄ ⦃Q : Value → Shared → Prop⦄ ⦃E : Value → Shared → Prop⦄, Room n A → GW C s.heap → Sees env s.heap ρ →
    (∀ a items s', Same s s' → Kp s.heap s'.heap → s.heap.get? a = none → s'.heap.IsList a items → IntsAre items.toList xs → Q (.ref a) s') → wpAny (model C.prog C.w) A (eval e env) Q E s
theorem EvF.ev {C : W0} {n : Nat} {env : Env} {ρ : Rho} {e : Expr} {xs : List Int} (x : EvF C n env ρ e xs) : Ev C n env ρ e (intsD xs) :=
  fun _ _ _ _ R G S k => x R G S fun a items s' sm kp _ hl hi => k _ s' sm kp (rep_ints hl hi)
/-- the arguments of a call, a display's items -/
def EvL (C : W0) (n : Nat) (env : Env) (ρ : Rho) (es : List Expr) (ds : List D) : Prop :=
  ∀ ⦃A : Around⦄ ⦃s : Shared⦄ ⦃pos : Pos⦄ ⦃Q : List Value → Shared → Prop⦄ ⦃E : Value → Shared → Prop⦄, Room n A → GW C s.heap → Sees env s.heap ρ →
    (∀ vs s', Same s s' → Kp s.heap s'.heap → RepL s'.heap vs ds → Q vs s') → wpAny (model C.prog C.w) A (spliced (backTo pos (starEach es env))) Q E s

section
variable {C : W0} {n : Nat} {env : Env} {ρ : Rho} {e e₁ e₂ : Expr} {d d₁ d₂ : D} {pos : Pos}

theorem Ev.int {i : Int} {k : Nat} : Ev C n env ρ (.Constant (.int i) k pos) (.int i) := fun _ _ _ _ _ _ _ k => wpAny_Constant_int (k _ _ ⟨rfl, rfl, rfl⟩ (Kp.rfl' _) rep_int)
theorem Ev.str {i : Str} {k : Nat} : Ev C n env ρ (.Constant (.str i) k pos) (.str i) := fun _ _ _ _ _ _ _ k => wpAny_Constant_str (k _ _ ⟨rfl, rfl, rfl⟩ (Kp.rfl' _) rep_str)
theorem Ev.bool {i : Bool} {k : Nat} : Ev C n env ρ (.Constant (.bool i) k pos) (.bool i) := fun _ _ _ _ _ _ _ k => wpAny_Constant_bool (k _ _ ⟨rfl, rfl, rfl⟩ (Kp.rfl' _) rep_bool)
theorem Ev.non {k : Nat} : Ev C n env ρ (.Constant .none k pos) .none := fun _ _ _ _ _ _ _ k => wpAny_Constant_none (k _ _ ⟨rfl, rfl, rfl⟩ (Kp.rfl' _) rep_none)

theorem Ev.name {x : Str} (ho : EnvOk env) (hm : (x, d) ∈ ρ) (hd : (x == ("__debug__" : Str)) = false := by decide) (hd' : (x == ("__classdict__" : Str)) = false := by decide) : Ev C n env ρ (.Name x pos) d := fun _ _ _ _ _ _ S k => by
  obtain ⟨v, hv, r⟩ := S _ hm
  refine wpAny_Name ?_ hd
  rcases hv with ⟨e, m, hn, hv⟩ | ⟨e | e, c, hc, hi⟩
  · exact wpAny_loadName_local ho.k e hn hv (k _ _ (Same.rfl' _) (Kp.rfl' _) r)
  · exact wpAny_loadName_cell ho.k e hc hi (k _ _ (Same.rfl' _) (Kp.rfl' _) r)
  · exact wpAny_loadName_free ho.k e hc hi (k _ _ (Same.rfl' _) (Kp.rfl' _) r) hd'
end
section
variable {C : W0} {n : Nat} {env : Env} {ρ : Rho} {e e₁ e₂ : Expr} {d d₁ d₂ : D} {pos : Pos}

/-! two operands -/
theorem Ev.bin {op : Operator} (h₁ : Ev C n env ρ e₁ d₁) (h₂ : Ev C n env ρ e₂ d₂)
    (ho : ∀ {A : Around} {s : Shared} {Q : Value → Shared → Prop} {E : Value → Shared → Prop} {v u : Value}, Room n A → GW C s.heap → Rep s.heap v d₁ → Rep s.heap u d₂ →
      (∀ r s', Same s s' → Kp s.heap s'.heap → Rep s'.heap r d → Q r s') → wpAny (model C.prog C.w) A (binaryOp op v u) Q E s) :
    Ev C n env ρ (.BinOp e₁ op e₂ pos) d := fun _ _ _ _ R G S k =>
  wpAny_BinOp (h₁ R G S fun v s₁ m₁ k₁ r₁ => h₂ R (G.kp k₁) (S.kp k₁) fun u s₂ m₂ k₂ r₂ =>
    ho R ((G.kp k₁).kp k₂) (r₁.kp k₂) r₂ fun r s₃ m₃ k₃ r₃ => k r s₃ ((m₁.trans m₂).trans m₃) ((k₁.trans k₂).trans k₃) r₃)

theorem Ev.binI {op : Operator} {a b c : Int} (h₁ : Ev C n env ρ e₁ (.int a)) (h₂ : Ev C n env ρ e₂ (.int b))
    (ho : ∀ {A : Around} {s : Shared} {Q : Value → Shared → Prop} {E : Value → Shared → Prop} {t u : Tok}, Room n A → (∀ tk, Q (.int c s.toks) { s with toks := tk }) → wpAny (model C.prog C.w) A (binaryOp op (.int a t) (.int b u)) Q E s) :
    Ev C n env ρ (.BinOp e₁ op e₂ pos) (.int c) := Ev.bin h₁ h₂ fun R _ r₁ r₂ k => by
  obtain ⟨t, rfl⟩ := r₁.toInt; obtain ⟨u, rfl⟩ := r₂.toInt
  exact ho R fun tk => k _ _ ⟨rfl, rfl, rfl⟩ (Kp.rfl' _) rep_int
theorem Ev.add {a b : Int} (h₁ : Ev C n env ρ e₁ (.int a)) (h₂ : Ev C n env ρ e₂ (.int b)) : Ev C n env ρ (.BinOp e₁ .Add e₂ pos) (.int (a + b)) := Ev.binI h₁ h₂ fun _ q => PyProof.Rows.add_int (q _)
theorem Ev.sub {a b : Int} (h₁ : Ev C n env ρ e₁ (.int a)) (h₂ : Ev C n env ρ e₂ (.int b)) : Ev C n env ρ (.BinOp e₁ .Sub e₂ pos) (.int (a - b)) := Ev.binI h₁ h₂ fun _ q => PyProof.Rows.sub_int (q _)

/-- small enough that a product is one step -/
def Sm (a : Int) : Prop := a.natAbs < 2 ^ 250
theorem Sm.bits {a : Int} (h : Sm a) : Builtin.Int.intBits a ≤ 2 ^ 20 := by
  unfold Builtin.Int.intBits
  split
  · exact Nat.zero_le _
  · rename_i h0
    have h1 : a.natAbs ≠ 0 := by simpa using h0
    have h2 := (Nat.log2_lt h1).mpr h
    exact Nat.le_trans (Nat.succ_le_of_lt (Nat.lt_of_lt_of_le h2 (Nat.le_refl _))) (by decide)
theorem Ev.mul {a b : Int} (h₁ : Ev C n env ρ e₁ (.int a)) (h₂ : Ev C n env ρ e₂ (.int b)) (ha : Sm a) (hb : Sm b) : Ev C n env ρ (.BinOp e₁ .Mult e₂ pos) (.int (a * b)) :=
  Ev.binI h₁ h₂ fun _ q => PyProof.Rows.mul_int (q _) (IntMulOk.of_bits ha.bits hb.bits)
theorem Sm.log {b : Int} (h : Sm b) : Nat.log2 b.natAbs < 9000 := by
  by_cases h1 : b.natAbs = 0
  · rw [h1]; decide
  · exact Nat.lt_trans ((Nat.log2_lt h1).mpr h) (by decide)
theorem Ev.fdiv {a b : Int} (h₁ : Ev C n env ρ e₁ (.int a)) (h₂ : Ev C n env ρ e₂ (.int b)) (hb : 0 < b) (hs : Sm b) : Ev C n env ρ (.BinOp e₁ .FloorDiv e₂ pos) (.int (a / b)) :=
  Ev.binI h₁ h₂ fun _ q => by
    rw [← Int.fdiv_eq_ediv_of_nonneg a (Int.le_of_lt hb)] at q
    exact PyProof.Rows.floordiv_int (Int.ne_of_gt hb) (q _) (.inl (PyProof.noPylong_of_log2 hs.log))
theorem Ev.mod {a b : Int} (h₁ : Ev C n env ρ e₁ (.int a)) (h₂ : Ev C n env ρ e₂ (.int b)) (hb : 0 < b) : Ev C n env ρ (.BinOp e₁ .Mod e₂ pos) (.int (a % b)) :=
  Ev.binI h₁ h₂ fun _ q => by
    rw [← Int.fmod_eq_emod_of_nonneg a (Int.le_of_lt hb)] at q
    exact PyProof.Rows.mod_int' (Int.ne_of_gt hb) (q _)
theorem Ev.pow10 {k₁ k₂ : Nat} {p₁ p₂ : Pos} : Ev C n env ρ (.BinOp (.Constant (.int 10) k₁ p₁) .Pow (.Constant (.int 12) k₂ p₂) pos) (.int 1000000000000) :=
  Ev.binI (a := 10) (b := 12) Ev.int Ev.int fun {A s Q E t u} _ q => PyProof.Rows.pow_int (a := 10) (n := 12) (by decide) (by decide +kernel) (by
    have e : (10 : Int) ^ (12 : Int).toNat = 1000000000000 := by decide +kernel
    rw [e]; exact q _)
theorem Ev.adds {x y : Str} (h₁ : Ev C n env ρ e₁ (.str x)) (h₂ : Ev C n env ρ e₂ (.str y)) (hx : x.length < 2 ^ 20) (hy : y.length < 2 ^ 20) : Ev C n env ρ (.BinOp e₁ .Add e₂ pos) (.str (x ++ y)) :=
  Ev.bin h₁ h₂ fun _ _ r₁ r₂ k => by
    obtain ⟨t, rfl⟩ := r₁.toStr; obtain ⟨u, rfl⟩ := r₂.toStr
    exact PyProof.Rows.add_str (fun t' tk => k _ _ ⟨rfl, rfl, rfl⟩ (Kp.rfl' _) rep_str) (by rw [sizeLine_eq]; omega)
theorem IsListP.new (h : Heap) (xs : Array Value) (k : Nat) : (h.push { cls := .type "list", data := .seq xs k }).IsList h.objs.size xs := ⟨_, Heap.get?_push_size _ rfl, rfl, k, rfl⟩
theorem RepL.size {h : Heap} {items : Array Value} {ds : List D} (r : RepL h items.toList ds) : items.size = ds.length := by have := r.length; simpa using this
theorem Ev.cat {xs ys : List D} (h₁ : Ev C n env ρ e₁ (.list xs)) (h₂ : Ev C n env ρ e₂ (.list ys)) (hl : xs.length + ys.length ≤ 1000) : Ev C n env ρ (.BinOp e₁ .Add e₂ pos) (.list (xs ++ ys)) :=
  Ev.bin h₁ h₂ fun {A s Q E v u} _ _ r₁ r₂ k => by
    obtain ⟨l, its, rfl, hl, rl⟩ := r₁.toList; obtain ⟨b, its2, rfl, hb, rb⟩ := r₂.toList
    obtain ⟨⟨cls, dd, data, sl⟩, ho, hc, n, hd⟩ := id hl
    obtain ⟨⟨cls2, dd2, data2, sl2⟩, ho2, hc2, n2, hd2⟩ := id hb
    simp only at hc hd hc2 hd2
    subst hc hd hc2 hd2
    refine concat_meets ⟨_, ho, rfl⟩ ⟨_, ho2, rfl⟩ noFill_list_add seq_list_add PySem.F.slot_list_add PySem.F.entry_list_add (PySem.F.args_list_add_2 _ _) (list_addW l b its its2 n n2 dd dd2 sl sl2 (by rw [sizeLine_eq, rl.size, rb.size]; omega)) ⟨ho, ho2, ?_⟩
    refine k _ _ ⟨rfl, rfl, rfl⟩ (Kp.push _ _) (rep_list (IsListP.new _ _ _) ?_)
    rw [Array.toList_append]
    exact (rl.kp (Kp.push _ _)).append (rb.kp (Kp.push _ _))

theorem Ev.neg {a : Int} (h : Ev C n env ρ e (.int a)) : Ev C n env ρ (.UnaryOp .USub e pos) (.int (-a)) := fun _ _ _ _ R G S k =>
  wpAny_UnaryOp (h R G S fun v s₁ m₁ k₁ r₁ => by obtain ⟨t, rfl⟩ := r₁.toInt; exact PyProof.Rows.neg_int (k _ _ (m₁.trans ⟨rfl, rfl, rfl⟩) k₁ rep_int))

/-! displays, arguments -/
theorem EvL.nil : EvL C n env ρ [] [] := fun _ _ _ _ _ _ _ _ k => wpAny_items_nil (k _ _ (Same.rfl' _) (Kp.rfl' _) RepL.nil)
theorem EvL.cons {es : List Expr} {ds : List D} (h : Ev C n env ρ e d) (hs : EvL C n env ρ es ds) (he : starEach (e :: es) env = (false, eval e env) :: starEach es env := by rfl) : EvL C n env ρ (e :: es) (d :: ds) := fun _ _ _ _ _ R G S k =>
  wpAny_items_cons (h R G S fun v s₁ m₁ k₁ r₁ => hs R (G.kp k₁) (S.kp k₁) fun vs s₂ m₂ k₂ r₂ => k _ _ (m₁.trans m₂) (k₁.trans k₂) (RepL.cons (r₁.kp k₂) r₂)) he
theorem Ev.tup {es : List Expr} {ds : List D} {k : Nat} (h : EvL C n env ρ es ds) (hl : ds.length ≤ 1000 := by exact Nat.le_of_ble_eq_true rfl) : Ev C n env ρ (.Tuple es k pos) (.tup ds) := fun _ _ _ _ R G S k =>
  wpAny_Tuple (h R G S fun vs s₁ m₁ k₁ r₁ => ⟨by rw [sizeLine_eq, r₁.length]; omega, k _ _ (m₁.trans ⟨rfl, rfl, rfl⟩) (k₁.trans (Kp.push _ _)) (rep_tup ⟨_, Heap.get?_push_size _ rfl, rfl, 0, rfl⟩ (by simpa using r₁.kp (Kp.push _ _)))⟩)
theorem Ev.list {es : List Expr} {ds : List D} (h : EvL C n env ρ es ds) (hl : ds.length ≤ 1000 := by exact Nat.le_of_ble_eq_true rfl) : Ev C n env ρ (.List es pos) (.list ds) := fun _ _ _ _ R G S k =>
  wpAny_List (h R G S fun vs s₁ m₁ k₁ r₁ => ⟨by rw [sizeLine_eq, r₁.length]; omega, k _ _ (m₁.trans ⟨rfl, rfl, rfl⟩) (k₁.trans (Kp.push _ _)) (rep_list (IsListP.new _ _ _) (by simpa using r₁.kp (Kp.push _ _)))⟩)
theorem EvF.nil : EvF C n env ρ (.List [] pos) [] := fun _ _ _ _ R G S k =>
  wpAny_List (wpAny_items_nil ⟨Nat.zero_le _, k _ _ _ ⟨rfl, rfl, rfl⟩ (Kp.push _ _) (Heap.get?_none_of_le (Nat.le_refl _)) (IsListP.new _ _ _) .nil⟩)

/-! comparisons -/
/-- a comparison of two data gives a bool, whatever the heap -/
def CmpOk (C : W0) (n : Nat) (op : CmpOp) (d₁ d₂ : D) (b : Bool) : Prop :=
  ∀ ⦃A : Around⦄ ⦃s : Shared⦄ ⦃Q : Value → Shared → Prop⦄ ⦃E : Value → Shared → Prop⦄ ⦃v u : Value⦄, Room n A → Rep s.heap v d₁ → Rep s.heap u d₂ → (∀ tk, Q (.bool b) { s with toks := tk }) → wpAny (model C.prog C.w) A (compareOp op v u) Q E s
theorem Ev.cmp {op : CmpOp} {b : Bool} (h₁ : Ev C n env ρ e₁ d₁) (h₂ : Ev C n env ρ e₂ d₂) (ho : CmpOk C n op d₁ d₂ b) (hm : behindInMarks op e₂ = false := by with_unfolding_all rfl) :
    Ev C n env ρ (.Compare e₁ [op] [e₂] pos) (.bool b) := fun _ _ _ _ R G S k =>
  wpAny_Compare1 (h₁ R G S fun v s₁ m₁ k₁ r₁ => h₂ R (G.kp k₁) (S.kp k₁) fun u s₂ m₂ k₂ r₂ => ho R (r₁.kp k₂) r₂ fun tk => k _ _ ((m₁.trans m₂).trans ⟨rfl, rfl, rfl⟩) (k₁.trans k₂) rep_bool) hm
theorem Ts.cmp {op : CmpOp} {b : Bool} (h₁ : Ev C n env ρ e₁ d₁) (h₂ : Ev C n env ρ e₂ d₂) (ho : CmpOk C n op d₁ d₂ b) (hm : behindInMarks op e₂ = false := by with_unfolding_all rfl) :
    Ts C n env ρ (.Compare e₁ [op] [e₂] pos) b := fun _ _ _ _ R G S k =>
  wpAny_isTrue_Compare1 (h₁ R G S fun v s₁ m₁ k₁ r₁ => h₂ R (G.kp k₁) (S.kp k₁) fun u s₂ m₂ k₂ r₂ => ho R (r₁.kp k₂) r₂ fun tk => wpAny_truthy_bool (k _ ((m₁.trans m₂).trans ⟨rfl, rfl, rfl⟩) (k₁.trans k₂))) hm
theorem CmpOk.ints {op : CmpOp} {a b : Int} {c : Bool} (h : ∀ {A : Around} {s : Shared} {Q : Value → Shared → Prop} {E : Value → Shared → Prop} {t u : Tok}, Q (.bool c) s → wpAny (model C.prog C.w) A (compareOp op (.int a t) (.int b u)) Q E s) : CmpOk C n op (.int a) (.int b) c := fun A s Q E v u _ r₁ r₂ k => by
  obtain ⟨t, rfl⟩ := r₁.toInt; obtain ⟨u, rfl⟩ := r₂.toInt
  exact h (k s.toks)
theorem CmpOk.lt {a b : Int} : CmpOk C n .Lt (.int a) (.int b) (decide (a < b)) := CmpOk.ints fun q => PyProof.Rows.lt_int q
theorem CmpOk.gt {a b : Int} : CmpOk C n .Gt (.int a) (.int b) (decide (b < a)) := CmpOk.ints fun q => PyProof.Rows.gt_int q
theorem CmpOk.ge {a b : Int} : CmpOk C n .GtE (.int a) (.int b) (decide (b ≤ a)) := CmpOk.ints fun q => PyProof.Rows.ge_int q
theorem CmpOk.eq {a b : Int} : CmpOk C n .Eq (.int a) (.int b) (decide (a = b)) := CmpOk.ints fun q => PyProof.Rows.eq_int q
theorem CmpOk.ne {a b : Int} : CmpOk C n .NotEq (.int a) (.int b) (!decide (a = b)) := CmpOk.ints fun q => PyProof.Rows.ne_int q
theorem CmpOk.eqS {a b : Str} : CmpOk C n .Eq (.str a) (.str b) (decide (a = b)) := fun A s Q E v u _ r₁ r₂ k => by
  obtain ⟨t, rfl⟩ := r₁.toStr; obtain ⟨u, rfl⟩ := r₂.toStr
  exact PyProof.Rows.eq_str (k s.toks)
theorem CmpOk.neS {a b : Str} : CmpOk C n .NotEq (.str a) (.str b) (!decide (a = b)) := fun A s Q E v u _ r₁ r₂ k => by
  obtain ⟨t, rfl⟩ := r₁.toStr; obtain ⟨u, rfl⟩ := r₂.toStr
  exact PyProof.Rows.ne_str (k s.toks)
theorem CmpOk.eqL {xs ys : List Int} : CmpOk C n .Eq (intsD xs) (intsD ys) (decide (xs = ys)) := fun A s Q E v u R r₁ r₂ k => by
  obtain ⟨a, i₁, rfl, h₁, q₁⟩ := r₁.toInts; obtain ⟨b, i₂, rfl, h₂, q₂⟩ := r₂.toInts
  exact eq_intsK (vs := i₁.toList) (us := i₂.toList) h₁ q₁ h₂ q₂ (by have := R.units; omega) (k s.toks)
theorem CmpOk.neL {xs ys : List Int} : CmpOk C n .NotEq (intsD xs) (intsD ys) (!decide (xs = ys)) := fun A s Q E v u R r₁ r₂ k => by
  obtain ⟨a, i₁, rfl, h₁, q₁⟩ := r₁.toInts; obtain ⟨b, i₂, rfl, h₂, q₂⟩ := r₂.toInts
  exact ne_intsK (vs := i₁.toList) (us := i₂.toList) h₁ q₁ h₂ q₂ (by have := R.units; omega) (k s.toks)
theorem CmpOk.inI {a : Int} {xs : List Int} : CmpOk C n .In (.int a) (intsD xs) (xs.contains a) := fun A s Q E v u _ r₁ r₂ k => by
  obtain ⟨t, rfl⟩ := r₁.toInt; obtain ⟨b, i₂, rfl, h₂, q₂⟩ := r₂.toInts
  refine PyProof.Rows.in_list_ints (vs := i₂.toList) h₂ q₂ ?_
  have e : (xs.any fun x => x == a) = xs.contains a := by
    rw [Bool.eq_iff_iff, List.any_eq_true, List.contains_iff_mem]
    constructor
    · rintro ⟨x, hx, h⟩; rw [← beq_iff_eq.mp h]; exact hx
    · intro h; exact ⟨a, h, by simp⟩
  rw [e]; exact k s.toks
theorem strsAre_of {h : Heap} : ∀ {xs : List Str} {vs : List Value}, RepL h vs (xs.map D.str) → StrsAre vs xs
  | [], vs, r => by simp only [List.map_nil] at r; unfold RepL at r; subst r; exact .nil
  | x :: xs, vs, r => by
    simp only [List.map_cons] at r; unfold RepL at r; obtain ⟨v, t, rfl, r, rs⟩ := r
    obtain ⟨tk, rfl⟩ := r.toStr; exact .cons _ _ (strsAre_of rs)
theorem CmpOk.inS {a : Str} {xs : List Str} : CmpOk C n .In (.str a) (.list (xs.map .str)) (xs.contains a) := fun A s Q E v u _ r₁ r₂ k => by
  obtain ⟨t, rfl⟩ := r₁.toStr; obtain ⟨b, i₂, rfl, h₂, q₂⟩ := r₂.toList
  refine PyProof.Rows.in_list_strs (vs := i₂.toList) h₂ (strsAre_of q₂) ?_
  have e : (xs.any fun x => x == a) = xs.contains a := by
    rw [Bool.eq_iff_iff, List.any_eq_true, List.contains_iff_mem]
    constructor
    · rintro ⟨x, hx, h⟩; rw [← beq_iff_eq.mp h]; exact hx
    · intro h; exact ⟨a, h, by simp⟩
  rw [e]; exact k s.toks
def D.isNone : D → Bool
  | .none => true
  | _ => false
theorem Rep.isNone {h : Heap} {v : Value} {d : D} (r : Rep h v d) : (v == Value.none) = d.isNone := by
  cases d <;> unfold Rep at r <;> first | (subst r; rfl) | (obtain ⟨t, rfl⟩ := r; rfl) | (obtain ⟨t, _, rfl, _⟩ := r; rfl)
theorem CmpOk.isN {d : D} : CmpOk C n .Is d .none d.isNone := fun A s Q E v u _ r₁ r₂ k => by
  have e := r₂.toNone; subst e
  exact is_none (by rw [r₁.isNone]; exact k s.toks)
theorem CmpOk.isNotN {d : D} : CmpOk C n .IsNot d .none (!d.isNone) := fun A s Q E v u _ r₁ r₂ k => by
  have e := r₂.toNone; subst e
  exact isNot_none (by rw [r₁.isNone]; exact k s.toks)
/-! tests -/
theorem Ts.val {b : Bool} (h : Ev C n env ρ e (.bool b)) (he : ∀ whole, isTrue e env whole = (do let v ← whole; standAt e.pos; holding [v] (truthy v)) := by intro _; rfl) : Ts C n env ρ e b := fun _ _ _ _ R G S k =>
  wpAny_isTrue_value (h R G S fun v s₁ m₁ k₁ r₁ => by have e := r₁.toBool; subst e; exact wpAny_truthy_bool (k _ m₁ k₁)) (he _)
theorem Ts.not {b : Bool} (h : Ts C n env ρ e b) : Ts C n env ρ (.UnaryOp .Not e pos) (!b) := fun _ _ _ _ R G S k => wpAny_isTrue_Not (h R G S fun s₁ m₁ k₁ => k _ m₁ k₁)
theorem Ts.and2 {a b : Bool} (h₁ : Ts C n env ρ e₁ a) (h₂ : a = true → Ts C n env ρ e₂ b) : Ts C n env ρ (.BoolOp .And [e₁, e₂] pos) (a && b) := fun _ _ _ _ R G S k =>
  wpAny_isTrue_BoolOp (wpAny_allTrue_And_cons (h₁ R G S fun s₁ m₁ k₁ => by
    cases a with
    | false => exact k _ m₁ k₁
    | true =>
      refine wpAny_allTrue_And_cons (h₂ rfl R (G.kp k₁) (S.kp k₁) fun s₂ m₂ k₂ => ?_)
      cases b with
      | false => exact k _ (m₁.trans m₂) (k₁.trans k₂)
      | true => exact wpAny_allTrue_And_nil (k _ (m₁.trans m₂) (k₁.trans k₂))))
theorem Ts.or2 {a b : Bool} (h₁ : Ts C n env ρ e₁ a) (h₂ : a = false → Ts C n env ρ e₂ b) : Ts C n env ρ (.BoolOp .Or [e₁, e₂] pos) (a || b) := fun _ _ _ _ R G S k =>
  wpAny_isTrue_BoolOp (wpAny_allTrue_Or_cons (h₁ R G S fun s₁ m₁ k₁ => by
    cases a with
    | true => exact k _ m₁ k₁
    | false =>
      refine wpAny_allTrue_Or_cons (h₂ rfl R (G.kp k₁) (S.kp k₁) fun s₂ m₂ k₂ => ?_)
      cases b with
      | true => exact k _ (m₁.trans m₂) (k₁.trans k₂)
      | false => exact wpAny_allTrue_Or_nil (k _ (m₁.trans m₂) (k₁.trans k₂))))
theorem Ts.or3 {e₃ : Expr} {a b c : Bool} (h₁ : Ts C n env ρ e₁ a) (h₂ : a = false → Ts C n env ρ e₂ b) (h₃ : a = false → b = false → Ts C n env ρ e₃ c) : Ts C n env ρ (.BoolOp .Or [e₁, e₂, e₃] pos) (a || b || c) := fun _ _ _ _ R G S k =>
  wpAny_isTrue_BoolOp (wpAny_allTrue_Or_cons (h₁ R G S fun s₁ m₁ k₁ => by
    cases a with
    | true => exact k _ m₁ k₁
    | false =>
      refine wpAny_allTrue_Or_cons (h₂ rfl R (G.kp k₁) (S.kp k₁) fun s₂ m₂ k₂ => ?_)
      cases b with
      | true => exact k _ (m₁.trans m₂) (k₁.trans k₂)
      | false =>
        refine wpAny_allTrue_Or_cons (h₃ rfl rfl R ((G.kp k₁).kp k₂) ((S.kp k₁).kp k₂) fun s₃ m₃ k₃ => ?_)
        cases c with
        | true => exact k _ ((m₁.trans m₂).trans m₃) ((k₁.trans k₂).trans k₃)
        | false => exact wpAny_allTrue_Or_nil (k _ ((m₁.trans m₂).trans m₃) ((k₁.trans k₂).trans k₃))))
theorem Ev.ite {e₃ : Expr} {b : Bool} {d' : D} (h : Ts C n env ρ e₁ b) (h₁ : b = true → Ev C n env ρ e₂ d) (h₂ : b = false → Ev C n env ρ e₃ d') : Ev C n env ρ (.IfExp e₁ e₂ e₃ pos) (if b then d else d') := fun _ _ _ _ R G S k =>
  wpAny_IfExp (h R G S fun s₁ m₁ k₁ => by
    cases b with
    | true => exact h₁ rfl R (G.kp k₁) (S.kp k₁) fun v s₂ m₂ k₂ r₂ => k _ _ (m₁.trans m₂) (k₁.trans k₂) r₂
    | false => exact h₂ rfl R (G.kp k₁) (S.kp k₁) fun v s₂ m₂ k₂ r₂ => k _ _ (m₁.trans m₂) (k₁.trans k₂) r₂)
end
section
variable {C : W0} {n : Nat} {env : Env} {ρ : Rho} {e e₁ e₂ : Expr} {d d₁ d₂ : D} {pos p : Pos}

/-! calls of built-ins -/
theorem args_of {es : List Expr} {f : Value} {A : Around} {s : Shared} {Q : Args → Shared → Prop} {E : Value → Shared → Prop}
    (he : starEach (e :: es) env = (false, eval e env) :: starEach es env)
    (h : wpAny (model C.prog C.w) A (spliced (backTo pos (starEach (e :: es) env))) (fun vs s' => Q ⟨vs, []⟩ s') E s) : wpAny (model C.prog C.w) A (evalArgs f true (backTo pos (starEach (e :: es) env)) []) Q E s := by
  have e1 : backTo pos (starEach (e :: es) env) = (false, eval e env) :: backTo pos (starEach es env) := by rw [he]; rfl
  rw [e1] at h ⊢
  exact Calls.evalArgs_plain h
theorem any_of {es : List Expr} (hs : starEach es env = es.map fun e => (false, eval e env)) : ((backTo pos (starEach es env)).any (·.1)) = false := by
  rw [hs]; simp [backTo]

/-- a call of a built-in by its name: what it does on its arguments' data -/
def FnOk (C : W0) (n : Nat) (f : Value) (ds : List D) (d : D) : Prop :=
  ∀ ⦃A : Around⦄ ⦃s : Shared⦄ ⦃Q : Value → Shared → Prop⦄ ⦃E : Value → Shared → Prop⦄ ⦃vs : List Value⦄, Room n A → GW C s.heap → RepL s.heap vs ds →
    (∀ r s', Same s s' → Kp s.heap s'.heap → Rep s'.heap r d → Q r s') → wpAny (model C.prog C.w) A (call f vs []) Q E s

theorem call_name {x : Str} {f : Value} {es : List Expr} {ds : List D} {A : Around} {s : Shared} {Q : Value → Shared → Prop} {E : Value → Shared → Prop} (ho : EnvOk env) (hx : x ∈ bNames) (hb : bootBuiltins x = some f) (hf : (∃ id, f = .builtin id) ∨ ∃ T, f = .type T) (ha : EvL C n env ρ (e :: es) ds)
    (hk : env.kindOf x = some .globalImplicit) (hs : starEach (e :: es) env = (e :: es).map fun e => (false, eval e env)) (he : starEach (e :: es) env = (false, eval e env) :: starEach es env)
    (R : Room n A) (G : GW C s.heap) (S : Sees env s.heap ρ)
    (k : ∀ vs s', Same s s' → Kp s.heap s'.heap → RepL s'.heap vs ds → wpAny (model C.prog C.w) A (call f vs []) Q E s') :
    wpAny (model C.prog C.w) A (eval (.Call (.Name x p) (e :: es) [] pos) env) Q E s := by
  refine wpAny_Call_NameR (Name_function_global ho.k hk (loadGlobal_builtin (env := env) (by rw [ho.g]; exact G.g) (G.nb x hx) (by rw [ho.b]; exact G.b) ((G.bi x (by rintro rfl; revert hx; decide)).trans hb) ?_) (by revert hx; unfold bNames; intro hx; simp only [List.mem_cons, List.not_mem_nil, or_false] at hx; rcases hx with rfl | rfl | rfl | rfl | rfl | rfl | rfl | rfl | rfl <;> decide))
  have key : wpAny (model C.prog C.w) A (evalArgs f true (backTo pos (starEach (e :: es) env)) []) (fun a s₁ => wpAny (model C.prog C.w) A (call f ([] ++ a.pos) a.kw) Q E s₁) E s :=
    args_of he (ha R G S fun vs s' m k' r => k vs s' m k' r)
  rcases hf with ⟨id, rfl⟩ | ⟨T, rfl⟩
  · exact Calls.callWith_builtin (any_of hs) key
  · exact PySem.callWith_type (any_of hs) key

theorem Ev.fn {x : Str} {f : Value} {es : List Expr} {ds : List D} (ho : EnvOk env) (hx : x ∈ bNames) (hb : bootBuiltins x = some f) (hf : (∃ id, f = .builtin id) ∨ ∃ T, f = .type T) (ha : EvL C n env ρ (e :: es) ds) (hfn : FnOk C n f ds d)
    (hk : env.kindOf x = some .globalImplicit := by rfl) (hs : starEach (e :: es) env = (e :: es).map fun e => (false, eval e env) := by rfl) (he : starEach (e :: es) env = (false, eval e env) :: starEach es env := by rfl) :
    Ev C n env ρ (.Call (.Name x p) (e :: es) [] pos) d := fun _ _ _ _ R G S k =>
  call_name ho hx hb hf ha hk hs he R G S fun vs s' m k' r => hfn R (G.kp k') r fun v s'' m' k'' r' => k v s'' (m.trans m') (k'.trans k'') r'

theorem RepL.one {h : Heap} {vs : List Value} {d : D} (r : RepL h vs [d]) : ∃ v, vs = [v] ∧ Rep h v d := by
  unfold RepL at r; obtain ⟨v, t, rfl, r, rs⟩ := r; unfold RepL at rs; subst rs; exact ⟨v, rfl, r⟩
theorem RepL.two {h : Heap} {vs : List Value} {d d' : D} (r : RepL h vs [d, d']) : ∃ v u, vs = [v, u] ∧ Rep h v d ∧ Rep h u d' := by
  unfold RepL at r; obtain ⟨v, t, rfl, r, rs⟩ := r; obtain ⟨u, rfl, r'⟩ := rs.one; exact ⟨v, u, rfl, r, r'⟩

theorem FnOk.int {i : Int} : FnOk C n (.type "int") [.int i] (.int i) := fun _ _ _ _ _ _ _ r k => by
  obtain ⟨v, rfl, r'⟩ := r.one; obtain ⟨t, rfl⟩ := r'.toInt
  exact call_int_int (k _ _ (Same.rfl' _) (Kp.rfl' _) rep_int)
theorem FnOk.intB {b : Bool} : FnOk C n (.type "int") [.bool b] (.int (if b then 1 else 0)) := fun _ _ _ _ _ _ _ r k => by
  obtain ⟨v, rfl, r'⟩ := r.one; have e := r'.toBool; subst e
  exact call_int_bool (k _ _ ⟨rfl, rfl, rfl⟩ (Kp.rfl' _) rep_int)
theorem FnOk.abs {i : Int} : FnOk C n (.builtin "abs") [.int i] (.int i.natAbs) := fun _ _ _ _ _ _ _ r k => by
  obtain ⟨v, rfl, r'⟩ := r.one; obtain ⟨t, rfl⟩ := r'.toInt
  refine call_abs_int fun u tk => ?_
  have e : (if i < 0 then -i else i) = (i.natAbs : Int) := by split <;> omega
  rw [e]; exact k _ _ ⟨rfl, rfl, rfl⟩ (Kp.rfl' _) rep_int
theorem FnOk.len {xs : List D} (hl : xs.length ≤ 100000) : FnOk C n (.builtin "len") [.list xs] (.int xs.length) := fun _ _ _ _ _ _ _ r k => by
  obtain ⟨v, rfl, r'⟩ := r.one; obtain ⟨a, items, rfl, h, q⟩ := r'.toList
  refine PyProof.Rows.len_list h (by rw [q.size]; omega) ?_
  rw [q.size]; exact k _ _ ⟨rfl, rfl, rfl⟩ (Kp.rfl' _) rep_int
/-- naturals in bounds -/
def Nn (xs : List Int) : Prop := xs.length ≤ 1000 ∧ ∀ x ∈ xs, 0 ≤ x ∧ x < 2 ^ 52
theorem Nn.sum : ∀ {xs : List Int}, (∀ x ∈ xs, 0 ≤ x ∧ x < 2 ^ 52) → 0 ≤ xs.sum ∧ xs.sum ≤ xs.length * 2 ^ 52
  | [], _ => by simp
  | x :: xs, h => by
    have h1 := h x (by simp); have h2 := Nn.sum (xs := xs) fun y hy => h y (by simp [hy])
    simp only [List.sum_cons, List.length_cons]; omega
theorem Nn.fits {xs : List Int} (h : Nn xs) : PySem.SumFits xs := fun j hj => by
  refine ⟨?_, ?_⟩
  · have := h.2 _ (PySem.getD_mem hj); constructor <;> omega
  · have h1 : ∀ x ∈ xs.take (j + 1), 0 ≤ x ∧ x < 2 ^ 52 := fun x hx => h.2 x (List.mem_of_mem_take hx)
    have h2 := Nn.sum h1
    have h3 : (xs.take (j + 1)).length ≤ 1000 := by rw [List.length_take]; have := h.1; omega
    constructor <;> omega
theorem FnOk.sum {xs : List Int} (hx : Nn xs) : FnOk C n (.builtin "sum") [intsD xs] (.int xs.sum) := fun A s Q E vs R _ r k => by
  obtain ⟨v, rfl, r'⟩ := r.one; obtain ⟨a, items, rfl, h, q⟩ := r'.toInts
  obtain ⟨ys, rfl⟩ : ∃ ys, items = intItems ys := by simpa using q.allInts.items
  have e : xs = ys.toList.map (·.1) := by rw [← q.numsOf, nums_intItems]
  refine sum_intList R.handled h (fun j hj => ?_) fun h' tk t' hk => ?_
  · rw [numAt_eq, preSum_eq, ← e]; exact hx.fits j (by rw [e]; simpa using hj)
  · rw [preSum_eq, ← e, List.take_of_length_le (by rw [e]; simp)]
    exact k _ _ ⟨rfl, rfl, rfl⟩ hk rep_int
def lmax (xs : List Int) : Int := (xs.max?).getD 0
theorem lmax_eq {xs : List Int} {M : Int} (h : M ∈ xs) (h' : ∀ a ∈ xs, a ≤ M) : lmax xs = M := by
  unfold lmax; rw [List.max?_eq_some_iff.mpr ⟨h, h'⟩]; rfl
theorem FnOk.max {xs : List Int} (hx : 0 < xs.length) : FnOk C n (.builtin "max") [intsD xs] (.int (lmax xs)) := fun A s Q E vs R _ r k => by
  obtain ⟨v, rfl, r'⟩ := r.one; obtain ⟨a, items, rfl, h, q⟩ := r'.toInts
  obtain ⟨ys, rfl⟩ : ∃ ys, items = intItems ys := by simpa using q.allInts.items
  have e : xs = ys.toList.map (·.1) := by rw [← q.numsOf, nums_intItems]
  have hsz : 0 < ys.size := by rw [e] at hx; simpa using hx
  refine max_intList R.handled h hsz fun v h' tk hv hk => ?_
  obtain ⟨t, rfl⟩ := intItems_at hv
  obtain ⟨h1, h2⟩ := argBest_gt (numAt ys) (ys.size - 1)
  have hM : lmax xs = numAt ys (argBest (fun i j => decide (numAt ys i > numAt ys j)) (ys.size - 1)) := lmax_eq (by
    rw [numAt_eq, e]; exact PySem.getD_mem (by rw [List.length_map, Array.length_toList]; omega)) fun a ha => by
      rw [e] at ha
      obtain ⟨j, hj, rfl⟩ := mem_getD ha
      rw [List.length_map, Array.length_toList] at hj
      rw [← numAt_eq]; exact h2 j (by omega)
  rw [← hM]; exact k _ _ ⟨rfl, rfl, rfl⟩ hk rep_int
def srt (xs : List Int) : List Int := xs.mergeSort fun a b => decide (a ≤ b)
theorem srt_perm (xs : List Int) : (srt xs).Perm xs := List.mergeSort_perm _ _
theorem srt_sorted (xs : List Int) : (srt xs).Pairwise (· ≤ ·) := by
  have := List.pairwise_mergeSort (le := fun (a b : Int) => decide (a ≤ b)) (fun a b c h1 h2 => by simp only [decide_eq_true_eq] at *; omega) (fun a b => by simp only [Bool.or_eq_true, decide_eq_true_eq]; omega) xs
  exact this.imp fun h => by simpa using h
theorem srt_eq {xs ys : List Int} (hp : ys.Perm xs) (hs : ys.Pairwise (· ≤ ·)) : ys = srt xs :=
  List.Perm.eq_of_pairwise (le := (· ≤ ·)) (fun a b _ _ h1 h2 => Int.le_antisymm h1 h2) hs (srt_sorted xs) (hp.trans (srt_perm xs).symm)
theorem FnOk.sorted {xs : List Int} (hx : xs.length < 64) : FnOk C n (.builtin "sorted") [intsD xs] (intsD (srt xs)) := fun A s Q E vs R _ r k => by
  obtain ⟨v, rfl, r'⟩ := r.one; obtain ⟨a, items, rfl, h, q⟩ := r'.toInts
  refine sorted_ints (vs := items.toList) h q (by rw [q.length]; exact hx) fun out ns' hi hp hs => ?_
  have hee := srt_eq hp hs; subst hee
  obtain ⟨e, he⟩ := sortedAll_at s.heap items.toList out
  exact k _ _ ⟨rfl, rfl, rfl⟩ (fun b o hb => sortedAll_old hb) (rep_ints ⟨_, he, rfl, e, rfl⟩ hi)
theorem FnOk.list {xs : List D} (hx : xs.length ≤ 1000) : FnOk C n (.type "list") [.list xs] (.list xs) := fun A s Q E vs R _ r k => by
  obtain ⟨v, rfl, r'⟩ := r.one; obtain ⟨a, items, rfl, ⟨o, ho, hc, m, hd⟩, q⟩ := r'.toList
  refine call_list_seq a (.inl rfl) ho hc hd (fun h' c' hk hn => ?_) (by rw [sizeLine_eq, q.size]; omega)
  exact k _ _ ⟨rfl, rfl, rfl⟩ hk (rep_list ⟨_, hn, rfl, c', rfl⟩ (q.kp hk))

/-! items -/
theorem Ev.item {xs : List D} {k : Int} (h₁ : Ev C n env ρ e₁ (.list xs)) (h₂ : Ev C n env ρ e₂ (.int k)) (h0 : 0 ≤ k) (h1 : k < 2 ^ 60) (hx : xs[k.toNat]? = some d)
    (hs : ∀ o i, subscripted e₂ false o i = operate [o, i] (getItem o i) := by intro _ _; rfl) : Ev C n env ρ (.Subscript e₁ e₂ pos) d := fun _ _ _ _ R G S kk =>
  Subscript_ (h₁ R G S fun v s₁ m₁ k₁ r₁ => h₂ R (G.kp k₁) (S.kp k₁) fun u s₂ m₂ k₂ r₂ => by
    obtain ⟨a, items, rfl, hl, q⟩ := (r₁.kp k₂).toList; obtain ⟨t, rfl⟩ := r₂.toInt
    obtain ⟨w, hw, rw'⟩ := q.get hx
    exact PyProof.Rows.tail_any hl.typeIs PySem.slot_list_getitem.lookup (wpAny_getItem_list hl h0 (by omega) (by simpa using hw) (kk _ _ (m₁.trans m₂) (k₁.trans k₂) rw')) (hs _ _))
theorem Ev.itemN {xs : List D} {k : Int} (h₁ : Ev C n env ρ e₁ (.list xs)) (h₂ : Ev C n env ρ e₂ (.int k)) (h0 : k < 0) (h1 : -(xs.length : Int) ≤ k) (hl : xs.length ≤ 100000) (hx : xs[(k + xs.length).toNat]? = some d)
    (hs : ∀ o i, subscripted e₂ false o i = operate [o, i] (getItem o i) := by intro _ _; rfl) : Ev C n env ρ (.Subscript e₁ e₂ pos) d := fun _ _ _ _ R G S kk =>
  Subscript_ (h₁ R G S fun v s₁ m₁ k₁ r₁ => h₂ R (G.kp k₁) (S.kp k₁) fun u s₂ m₂ k₂ r₂ => by
    obtain ⟨a, items, rfl, hl, q⟩ := (r₁.kp k₂).toList; obtain ⟨t, rfl⟩ := r₂.toInt
    obtain ⟨w, hw, rw'⟩ := q.get hx
    exact PyProof.Rows.tail_any hl.typeIs PySem.slot_list_getitem.lookup (wpAny_getItem_list_neg hl h0 (by rw [q.size]; exact h1) (by omega) (by rw [q.size]; simpa using hw) (kk _ _ (m₁.trans m₂) (k₁.trans k₂) rw')) (hs _ _))
theorem Ev.itemT {xs : List D} {k : Int} (h₁ : Ev C n env ρ e₁ (.tup xs)) (h₂ : Ev C n env ρ e₂ (.int k)) (h0 : 0 ≤ k) (h1 : k < 2 ^ 60) (hx : xs[k.toNat]? = some d)
    (hs : ∀ o i, subscripted e₂ false o i = operate [o, i] (getItem o i) := by intro _ _; rfl) : Ev C n env ρ (.Subscript e₁ e₂ pos) d := fun _ _ _ _ R G S kk =>
  Subscript_ (h₁ R G S fun v s₁ m₁ k₁ r₁ => h₂ R (G.kp k₁) (S.kp k₁) fun u s₂ m₂ k₂ r₂ => by
    obtain ⟨a, items, rfl, hl, q⟩ := (r₁.kp k₂).toTup; obtain ⟨t, rfl⟩ := r₂.toInt
    obtain ⟨w, hw, rw'⟩ := q.get hx
    have hlt : k.toNat < items.toList.length := (List.getElem?_eq_some_iff.mp hw).1
    rw [Array.length_toList] at hlt
    have hT : IsTup _ a items := hl
    refine PyProof.Rows.tail_any hT.typeIs PyProof.Rows.slot_tuple_getitem.lookup (PyProof.Rows.getItem_tuple (j := k.toNat) hl (by omega) (by omega) ?_ (by simpa using hw) (kk _ _ (m₁.trans m₂) (k₁.trans k₂) rw')) (hs _ _)
    unfold seqIndex?; simp only [if_neg (Int.not_lt.mpr h0)]; rw [if_pos (by simp; omega)])
theorem Ev.from {xs : List D} {k : Int} {q : Pos} (h₁ : Ev C n env ρ e₁ (.list xs)) (h₂ : Ev C n env ρ e₂ (.int k)) (h0 : 0 ≤ k) (h1 : k ≤ xs.length) (hl : xs.length ≤ 1000) (ht : ∀ o r, letTemporaryGo e₁ o r = pure () := by intro _ _; rfl) :
    Ev C n env ρ (.Subscript e₁ (.Slice (some e₂) none none q) pos) (.list (xs.drop k.toNat)) := fun _ _ _ _ R G S kk =>
  wpAny_Subscript_list_slice (h₁ R G S fun v s₁ m₁ k₁ r₁ => wpAny_evalPart_some (h₂ R (G.kp k₁) (S.kp k₁) fun u s₂ m₂ k₂ r₂ => wpAny_evalPart_none (by
    obtain ⟨a, items, rfl, hl', r⟩ := (r₁.kp k₂).toList; obtain ⟨t, rfl⟩ := r₂.toInt
    refine ⟨a, items, some k, none, rfl, hl', by rw [sizeLine_eq, r.size]; omega, .int _ _, .none, ?_⟩
    refine kk _ _ ((m₁.trans m₂).trans ⟨rfl, rfl, rfl⟩) ((k₁.trans k₂).trans ((Kp.push _ _).trans (Kp.push _ _))) ?_
    have e : slicePick items (some k) none none = (items.toList.drop k.toNat).toArray := by
      have := slicePick_from items k.toNat (by rw [r.size]; omega); rwa [Int.toNat_of_nonneg h0] at this
    rw [e]
    have hz := IsListP.new (s₂.heap.push { cls := .type "slice", data := .fields #[.int k t, .none, .none] }) (items.toList.drop k.toNat).toArray 0
    rw [Heap.size_push] at hz
    refine rep_list hz ?_
    exact RepL.of (by simp [r.size]) fun i v d hv hd => by
      obtain ⟨d', hd', rd⟩ := (r.kp ((Kp.push _ _).trans (Kp.push _ _))).get' (by simpa using hv)
      rw [List.getElem?_drop, hd'] at hd; cases hd; exact rd))) ht
theorem Ev.upto {xs : List D} {k : Int} {q : Pos} (h₁ : Ev C n env ρ e₁ (.list xs)) (h₂ : Ev C n env ρ e₂ (.int k)) (h0 : 0 ≤ k) (h1 : k ≤ xs.length) (hl : xs.length ≤ 1000) (ht : ∀ o r, letTemporaryGo e₁ o r = pure () := by intro _ _; rfl) :
    Ev C n env ρ (.Subscript e₁ (.Slice none (some e₂) none q) pos) (.list (xs.take k.toNat)) := fun _ _ _ _ R G S kk =>
  wpAny_Subscript_list_slice (h₁ R G S fun v s₁ m₁ k₁ r₁ => wpAny_evalPart_none (wpAny_evalPart_some (h₂ R (G.kp k₁) (S.kp k₁) fun u s₂ m₂ k₂ r₂ => by
    obtain ⟨a, items, rfl, hl', r⟩ := (r₁.kp k₂).toList; obtain ⟨t, rfl⟩ := r₂.toInt
    refine ⟨a, items, none, some k, rfl, hl', by rw [sizeLine_eq, r.size]; omega, .none, .int _ _, ?_⟩
    refine kk _ _ ((m₁.trans m₂).trans ⟨rfl, rfl, rfl⟩) ((k₁.trans k₂).trans ((Kp.push _ _).trans (Kp.push _ _))) ?_
    have e : slicePick items none (some k) none = (items.toList.take k.toNat).toArray := by
      have := slicePick_upto items k.toNat (by rw [r.size]; omega); rwa [Int.toNat_of_nonneg h0] at this
    rw [e]
    have hz := IsListP.new (s₂.heap.push { cls := .type "slice", data := .fields #[.none, .int k t, .none] }) (items.toList.take k.toNat).toArray 0
    rw [Heap.size_push] at hz
    refine rep_list hz ?_
    exact RepL.of (by simp [r.size]) fun i v d hv hd => by
      have hi : i < k.toNat := by
        have := (List.getElem?_eq_some_iff.mp hd).1; rw [List.length_take] at this; omega
      rw [List.getElem?_take, if_pos hi] at hd
      obtain ⟨d', hd', rd⟩ := (r.kp ((Kp.push _ _).trans (Kp.push _ _))).get' (i := i) (v := v) (by simpa [List.getElem?_take, hi] using hv)
      rw [hd'] at hd; cases hd; exact rd))) ht

theorem foldl_rep (z : Value) : ∀ k : Nat, (List.foldl (fun x1 x2 => x1 ++ x2) (#[] : Array Value) (List.replicate k #[z])).toList = List.replicate k z := by
  have key : ∀ (k : Nat) (acc : Array Value), (List.foldl (fun x1 x2 => x1 ++ x2) acc (List.replicate k #[z])).toList = acc.toList ++ List.replicate k z := by
    intro k; induction k with
    | zero => intro acc; simp
    | succ k ih => intro acc; rw [List.replicate_succ, List.foldl_cons, ih]; simp [List.replicate_succ]
  intro k; simpa using key k #[]
theorem intsAre_rep (z : Int) (t : Tok) : ∀ k : Nat, IntsAre (List.replicate k (.int z t)) (List.replicate k z)
  | 0 => .nil
  | k + 1 => by rw [List.replicate_succ, List.replicate_succ]; exact .cons _ _ (intsAre_rep z t k)
theorem EvF.zeros {z k : Int} {kk : Nat} {p₁ p₂ : Pos} (h : Ev C n env ρ e₂ (.int k)) (h0 : 0 ≤ k) (h1 : k ≤ 1000) : EvF C n env ρ (.BinOp (.List [.Constant (.int z) kk p₁] p₂) .Mult e₂ pos) (List.replicate k.toNat z) := fun A s Q E R G S K =>
  wpAny_BinOp (wpAny_List (wpAny_items_cons (wpAny_Constant_int (wpAny_items_nil ⟨Nat.le_of_ble_eq_true rfl, by
    have kp : Kp s.heap (s.heap.push { cls := .type "list", data := .seq #[.int z s.toks] }) := Kp.push _ _
    refine h R (G.kp kp) (S.kp kp) fun v s₂ m₂ k₂ r₂ => ?_
    obtain ⟨u, rfl⟩ := r₂.toInt
    have hl : s₂.heap.get? s.heap.objs.size = some { cls := .type "list", dict := none, data := .seq #[.int z s.toks] 0, slots := #[] } := k₂ _ _ (Heap.get?_push_size _ rfl)
    refine wpAny_binaryOp_repeat_ref (T := "list") (U := "int") (by decide) ⟨_, hl, rfl⟩ (fun s' => typeIs_int s' k u) noFill_list_mul F.fills_int_mul F.slot_int_rmul repeat_list F.slot_int_index.lookup
      (call_meets F.slot_int_rmul (typeIs_int s₂ k u) F.entry_int_rmul (F.args_int_rmul_2 _ _) (int___rmul___int_list k u s.heap.objs.size #[.int z s.toks] 0)
        ⟨hl, rfl, ⟨_, hl, rfl⟩, call_meets F.slot_list_mul ⟨_, hl, rfl⟩ F.entry_list_mul (F.args_list_mul_2 _ _)
          (AutoListH.list___mul___list_int_3 s.heap.objs.size #[.int z s.toks] 0 k u (by simp [Builtin.List.listFitsIndex]; omega) (by simp; omega) (by simp [Builtin.List.listTooLong, sizeLine]; omega))
          ⟨hl, ?_⟩⟩)
    refine K _ _ _ ⟨m₂.gens, m₂.drawn, m₂.os⟩ ((kp.trans k₂).trans (Kp.push _ _)) ?_ (IsListP.new _ _ _) ?_
    · cases q : s.heap.get? s₂.heap.objs.size with
      | none => rfl
      | some o => exact absurd (Heap.lt_size ((kp.trans k₂) _ _ q)) (Nat.lt_irrefl _)
    · rw [if_neg (by simp)]; rw [foldl_rep]; exact intsAre_rep _ _ _⟩))))
end
/-! what is iterated -/
structure IsWalk (C : W0) (A : Around) (h₀ h : Heap) (xs : List D) (I : Addr) (fp : List Addr) (P : Nat → Value → Prop) (St : Nat → Heap → Prop) : Prop where
  W : Walks C.prog C.w A I fp [I] xs.length P St
  st : St 0 h
  new : h₀.get? I = none
  fpl : ∀ b ∈ fp, b = I ∨ ∃ items, h.IsList b items
  lt : ∀ b ∈ fp, b < h.objs.size
  it : ∀ j v, P j v → ∃ d, xs[j]? = some d ∧ Rep h v d
  ref : I ∈ fp
  len : xs.length ≤ 100000
  old : ∀ i h', St i h' → ∃ o, h'.get? I = some o ∧ ∃ vs, o.data = .fields vs
def It (C : W0) (n : Nat) (env : Env) (ρ : Rho) (e : Expr) (xs : List D) : Prop :=
  ∀ ⦃A : Around⦄ ⦃s : Shared⦄ ⦃K : Value → Shared → Prop⦄ ⦃E : Value → Shared → Prop⦄, Room n A → GW C s.heap → Sees env s.heap ρ →
    (∀ I fp P St s', Same s s' → Kp s.heap s'.heap → IsWalk C A s.heap s'.heap xs I fp P St → K (.ref I) s') →
    wpAny (model C.prog C.w) A (eval e env) (fun x s₁ => wpAny (model C.prog C.w) A (pyIter x) K E s₁) E s

theorem none_of_lt {h h' : Heap} (k : Kp h h') {a : Addr} (ha : h'.objs.size ≤ a) : h.get? a = none := by
  cases q : h.get? a with
  | none => rfl
  | some o => exact absurd (Heap.lt_size (k _ _ q)) (Nat.not_lt.mpr ha)

theorem none_kp {h h' : Heap} (k : Kp h h') {a : Addr} (ha : h'.get? a = none) : h.get? a = none := by
  cases q : h.get? a with
  | none => rfl
  | some o => rw [k _ _ q] at ha; cases ha
section
variable {C : W0} {n : Nat} {env : Env} {ρ : Rho} {e e₁ e₂ : Expr} {d d₁ d₂ : D} {pos p : Pos}

theorem It.list {xs : List D} (h : Ev C n env ρ e (.list xs)) (hl : xs.length ≤ 100000) : It C n env ρ e xs := fun A s K E R G S k =>
  h R G S fun v s₁ m₁ k₁ r₁ => by
    obtain ⟨a, items, rfl, hl', r⟩ := r₁.toList
    refine wpAny_pyIter_list hl' ?_
    have hne : a ≠ s₁.heap.objs.size := Nat.ne_of_lt (let ⟨o, ho, _⟩ := hl'; Heap.lt_size ho)
    have hlt : a < s₁.heap.objs.size := let ⟨o, ho, _⟩ := hl'; Heap.lt_size ho
    have W := Walks.list (prog := C.prog) (w := C.w) R.handled s₁.heap.objs.size a hne items
    rw [r.size] at W
    refine k _ _ _ _ _ (m₁.trans ⟨rfl, rfl, rfl⟩) (k₁.trans (Kp.push _ _)) ⟨W, ⟨⟨_, Heap.get?_push_size _ rfl, rfl, rfl⟩, hl'.at fun o e => Heap.get?_push_of_some _ e⟩, none_of_lt k₁ (Nat.le_refl _), ?_, ?_, ?_, by simp, hl, ?_⟩
    · intro b hb
      rcases List.mem_cons.mp hb with e | hb
      · exact .inl e
      · rw [List.mem_singleton.mp hb]; exact .inr ⟨items, hl'.at fun o e => Heap.get?_push_of_some _ e⟩
    · intro b hb
      show b < (s₁.heap.push _).objs.size
      rw [Heap.size_push]
      rcases List.mem_cons.mp hb with e | hb
      · rw [e]; exact Nat.lt_succ_self _
      · rw [List.mem_singleton.mp hb]; exact Nat.lt_succ_of_lt hlt
    · intro j v hv
      obtain ⟨d, hd, rd⟩ := r.get' (i := j) (v := v) (by simpa using hv)
      exact ⟨d, hd, rd.kp (Kp.push _ _)⟩
    · rintro i h' ⟨⟨o, ho, _, hd⟩, _⟩; exact ⟨o, ho, _, hd⟩

def upD (a : Int) (k : Nat) : List D := (List.range k).map fun (i : Nat) => D.int (a + (i : Int))
theorem upD_length (a : Int) (k : Nat) : (upD a k).length = k := by simp [upD]
theorem range_walk {A : Around} {s₁ : Shared} {a b : Int} {t u v : Tok} {r : Addr} {K : Value → Shared → Prop} {E : Value → Shared → Prop} (R : Room n A) (hr : IsRange s₁.heap r a b 1 t u v) (ha : -1000 ≤ a ∧ a ≤ 1000) (hb : -1000 ≤ b ∧ b ≤ 1000)
    (k : ∀ I P St s', Same s₁ s' → Kp s₁.heap s'.heap → IsWalk C A s₁.heap s'.heap (upD a (b - a).toNat) I [I] P St → K (.ref I) s') : wpAny (model C.prog C.w) A (pyIter (.ref r)) K E s₁ := by
  refine wpAny_pyIter_range hr (small_one (by omega) (by omega) (by omega) (by omega)) ?_
  have hsz : Builtin.Range.rangeSize a b 1 = ((b - a).toNat : Int) := by rw [rangeSize_one]; split <;> omega
  have W := (Walks.range (prog := C.prog) (w := C.w) R.handled s₁.heap.objs.size a 1 (b - a).toNat).bound
  rw [← upD_length a (b - a).toNat] at W
  refine k _ _ _ _ ⟨rfl, rfl, rfl⟩ (Kp.push _ _) ⟨W, ?_, Heap.get?_none_of_le (Nat.le_refl _), fun b hb => .inl (List.mem_singleton.mp hb), fun b hb => ?_, ?_, by simp, by rw [upD_length]; omega, ?_⟩
  · rw [hsz, upD_length]
    show IsRangeIter _ _ _ _ _
    have e1 : a + ((0 : Nat) : Int) * 1 = a := by simp
    have e2 : (((b - a).toNat : Nat) : Int) - ((0 : Nat) : Int) = (b - a).toNat := by simp
    rw [e1, e2]
    exact Heap.get?_push_size _ rfl
  · rw [List.mem_singleton.mp hb]; show _ < (s₁.heap.push _).objs.size; rw [Heap.size_push]; exact Nat.lt_succ_self _
  · rintro j v ⟨hj, t, rfl⟩
    rw [upD_length] at hj
    refine ⟨.int (a + (j : Int)), by simp [upD, hj], ?_⟩
    rw [Int.mul_one]; exact rep_int
  · intro i h' st; exact ⟨_, st, _, rfl⟩
theorem It.range1 {k : Int} (ho : EnvOk env) (h : Ev C n env ρ e (.int k)) (h0 : -1000 ≤ k) (h1 : k ≤ 1000)
    (hk : env.kindOf "range" = some .globalImplicit := by rfl) (hs : starEach [e] env = [e].map fun e => (false, eval e env) := by rfl) (he : starEach [e] env = (false, eval e env) :: starEach [] env := by rfl) :
    It C n env ρ (.Call (.Name "range" p) [e] [] pos) (upD 0 k.toNat) := fun _ _ _ _ R G S K =>
  call_name (f := .type "range") ho (by decide) PyProof.Rows.boot_range (.inr ⟨_, rfl⟩) (EvL.cons h EvL.nil he) hk hs he R G S fun vs s₁ m₁ k₁ r₁ => by
    obtain ⟨v, rfl, r⟩ := r₁.one; obtain ⟨t, rfl⟩ := r.toInt
    refine call_range_1 ?_
    refine range_walk (a := 0) (b := k) R (Heap.get?_push_size _ rfl) (by omega) (by omega) fun I P St s' m' k' w => ?_
    rw [show (k - 0).toNat = k.toNat by rw [Int.sub_zero]] at w
    exact K I [I] P St s' (m₁.trans ⟨m'.gens, m'.drawn, m'.os⟩) (k₁.trans ((Kp.push _ _).trans k')) { w with new := none_kp (k₁.trans (Kp.push _ _)) w.new }
theorem It.range2 {a k : Int} (ho : EnvOk env) (h' : Ev C n env ρ e₁ (.int a)) (h : Ev C n env ρ e (.int k)) (ha : -1000 ≤ a ∧ a ≤ 1000) (h0 : -1000 ≤ k) (h1 : k ≤ 1000)
    (hk : env.kindOf "range" = some .globalImplicit := by rfl) (hs : starEach [e₁, e] env = [e₁, e].map fun e => (false, eval e env) := by rfl) (he : starEach [e₁, e] env = (false, eval e₁ env) :: starEach [e] env := by rfl) (he' : starEach [e] env = (false, eval e env) :: starEach [] env := by rfl) :
    It C n env ρ (.Call (.Name "range" p) [e₁, e] [] pos) (upD a (k - a).toNat) := fun _ _ _ _ R G S K =>
  call_name (f := .type "range") ho (by decide) PyProof.Rows.boot_range (.inr ⟨_, rfl⟩) (EvL.cons h' (EvL.cons h EvL.nil he') he) hk hs he R G S fun vs s₁ m₁ k₁ r₁ => by
    obtain ⟨v, u, rfl, r, r'⟩ := r₁.two; obtain ⟨t, rfl⟩ := r.toInt; obtain ⟨t', rfl⟩ := r'.toInt
    refine call_range_2 ?_
    refine range_walk (a := a) (b := k) R (Heap.get?_push_size _ rfl) (by omega) (by omega) fun I P St s' m' k' w => ?_
    exact K I [I] P St s' (m₁.trans ⟨m'.gens, m'.drawn, m'.os⟩) (k₁.trans ((Kp.push _ _).trans k')) { w with new := none_kp (k₁.trans (Kp.push _ _)) w.new }
/-- a range: what is walked is its own iterator alone -/
theorem range1_walk {k : Int} {A : Around} {s : Shared} {K : Value → Shared → Prop} {E : Value → Shared → Prop} (ho : EnvOk env) (h : Ev C n env ρ e (.int k)) (h0 : -1000 ≤ k) (h1 : k ≤ 1000)
    (hk : env.kindOf "range" = some .globalImplicit) (hs : starEach [e] env = [e].map fun e => (false, eval e env)) (he : starEach [e] env = (false, eval e env) :: starEach [] env)
    (R : Room n A) (G : GW C s.heap) (S : Sees env s.heap ρ)
    (K' : ∀ I P St s', Same s s' → Kp s.heap s'.heap → IsWalk C A s.heap s'.heap (upD 0 k.toNat) I [I] P St → K (.ref I) s') :
    wpAny (model C.prog C.w) A (eval (.Call (.Name "range" p) [e] [] pos) env) (fun x s₁ => wpAny (model C.prog C.w) A (pyIter x) K E s₁) E s :=
  call_name (f := .type "range") ho (by decide) PyProof.Rows.boot_range (.inr ⟨_, rfl⟩) (EvL.cons h EvL.nil he) hk hs he R G S fun vs s₁ m₁ k₁ r₁ => by
    obtain ⟨v, rfl, r⟩ := r₁.one; obtain ⟨t, rfl⟩ := r.toInt
    refine call_range_1 ?_
    refine range_walk (a := 0) (b := k) R (Heap.get?_push_size _ rfl) (by omega) (by omega) fun I P St s' m' k' w => ?_
    rw [show (k - 0).toNat = k.toNat by rw [Int.sub_zero]] at w
    exact K' I P St s' (m₁.trans ⟨m'.gens, m'.drawn, m'.os⟩) (k₁.trans ((Kp.push _ _).trans k')) { w with new := none_kp (k₁.trans (Kp.push _ _)) w.new }
end
/-! the block of a comprehension -/
def closL : List (Str × NameKind) → Env → List (Str × Addr) → List (Str × Addr)
  | [], _, acc => acc
  | (x, k) :: r, env, acc => if k == .free then closL r env ((x, (env.cells.lookup x).getD 0) :: acc) else closL r env acc
def namesOk (names : List (Str × NameKind)) (env : Env) : Bool := names.all fun q => match q.2 with
  | .free => (env.cells.lookup q.1).isSome && names.lookup q.1 == some .free && (env.kindOf q.1 == some .cell || env.kindOf q.1 == some .free)
  | k => names.lookup q.1 == some k
def compOk (scope : Scope) (env : Env) : Bool := scope.kind == .function && namesOk scope.names env

theorem closureFor_eq {scope : Scope} {env : Env} (h : namesOk scope.names env = true) : closureFor scope env = pure (closL scope.names env []) := by
  have hall : ∀ q ∈ scope.names, q.2 = .free → (env.cells.lookup q.1).isSome := by
    intro q hq hk
    have := List.all_eq_true.mp h q hq
    rw [hk] at this
    simp only [Bool.and_eq_true] at this
    exact this.1.1
  unfold closureFor
  suffices H : ∀ (l : List (Str × NameKind)) (acc : List (Str × Addr)), (∀ q ∈ l, q.2 = .free → (env.cells.lookup q.1).isSome) →
      (forIn l acc (fun x r => match x with | (name, kind) => (if kind == .free then (do let a ← cellOf env name; pure (ForInStep.yield ((name, a) :: r))) else pure (ForInStep.yield r) : Sem (ForInStep (List (Str × Addr)))))) = (pure (closL l env acc) : Sem _) by
    have := H scope.names [] hall
    simpa using this
  intro l
  induction l with
  | nil => intro acc _; rfl
  | cons x r ih =>
    intro acc hl
    obtain ⟨name, kind⟩ := x
    rw [List.forIn_cons]
    by_cases hk : (kind == NameKind.free) = true
    · have hs := hl (name, kind) (.head _) (by simpa using hk)
      obtain ⟨c, hc⟩ := Option.isSome_iff_exists.mp hs
      have e1 : cellOf env name = pure c := by unfold cellOf; rw [hc]
      simp only [hk, if_true, e1, pure_bind]
      rw [ih _ fun q hq => hl q (.tail _ hq)]
      simp only [closL, hk, if_true, hc, Option.getD_some]
    · simp only [hk, Bool.false_eq_true, if_false, pure_bind]
      rw [ih _ fun q hq => hl q (.tail _ hq)]
      simp only [closL, hk, Bool.false_eq_true, if_false]

theorem closL_lookup {env : Env} {y : Str} : ∀ {l : List (Str × NameKind)} {acc : List (Str × Addr)},
    (l.lookup y = some .free → True) → ((∃ q ∈ l, q.1 = y ∧ q.2 = .free) → (closL l env acc).lookup y = some ((env.cells.lookup y).getD 0)) ∧ ((∀ q ∈ l, q.1 = y → q.2 ≠ .free) → (closL l env acc).lookup y = acc.lookup y)
  | [], acc, _ => ⟨fun ⟨_, h, _⟩ => by simp at h, fun _ => rfl⟩
  | (x, k) :: r, acc, _ => by
    by_cases hk : (k == NameKind.free) = true
    · have hk' : k = .free := by simpa using hk
      have ih := @closL_lookup env y r ((x, (env.cells.lookup x).getD 0) :: acc) (fun _ => trivial)
      simp only [closL, hk, if_true]
      refine ⟨fun hex => ?_, fun hno => ?_⟩
      · by_cases hr : ∃ q ∈ r, q.1 = y ∧ q.2 = .free
        · exact ih.1 hr
        · rw [ih.2 fun q hq e h' => hr ⟨q, hq, e, h'⟩]
          obtain ⟨q, hq, e, h'⟩ := hex
          rcases List.mem_cons.mp hq with rfl | hq
          · simp only at e; subst e; simp [List.lookup_cons]
          · exact absurd ⟨q, hq, e, h'⟩ hr
      · rw [ih.2 fun q hq => hno q (.tail _ hq)]
        have : x ≠ y := fun e => hno (x, k) (.head _) e hk'
        have hb : (y == x) = false := by simpa using fun e : y = x => this e.symm
        simp [List.lookup_cons, hb]
    · have hk' : k ≠ .free := by simpa using hk
      have ih := @closL_lookup env y r acc (fun _ => trivial)
      simp only [closL, hk, Bool.false_eq_true, if_false]
      refine ⟨fun ⟨q, hq, e, h'⟩ => ?_, fun hno => ih.2 fun q hq => hno q (.tail _ hq)⟩
      rcases List.mem_cons.mp hq with rfl | hq
      · exact absurd h' hk'
      · exact ih.1 ⟨q, hq, e, h'⟩

theorem lookup_mem {β : Type} [DecidableEq β] : ∀ {l : List (Str × β)} {x : Str} {k : β}, l.lookup x = some k → (x, k) ∈ l
  | (y, b) :: r, x, k, h => by
    rw [List.lookup_cons] at h
    cases hb : x == y with
    | true => rw [hb] at h; cases h; rw [beq_iff_eq.mp hb]; exact .head _
    | false => rw [hb] at h; exact .tail _ (lookup_mem h)

theorem cellsFrom_old {y : Str} : ∀ (names : List (Str × NameKind)) (k : Nat) (acc : List (Str × Addr)), (∀ q ∈ names, q.1 = y → q.2 ≠ .cell) → (cellsFrom k names acc).lookup y = acc.lookup y
  | [], _, _, _ => rfl
  | (x, kd) :: r, k, acc, h => by
    unfold cellsFrom
    split
    · rename_i hk
      rw [cellsFrom_old r _ _ fun q hq => h q (.tail _ hq)]
      have : x ≠ y := fun e => h (x, kd) (.head _) e (by simpa using hk)
      have hb : (y == x) = false := by simpa using fun e : y = x => this e.symm
      simp [List.lookup_cons, hb]
    · exact cellsFrom_old r _ _ fun q hq => h q (.tail _ hq)
theorem cellsFrom_acc {y : Str} {lo : Nat} : ∀ (names : List (Str × NameKind)) (h : Heap) (acc : List (Str × Addr)), lo ≤ h.objs.size → (∃ c, acc.lookup y = some c ∧ lo ≤ c ∧ h.IsCell c none) →
    ∃ c, (cellsFrom h.objs.size names acc).lookup y = some c ∧ lo ≤ c ∧ (pushCells h names).IsCell c none
  | [], _, _, _, x => x
  | (x, kd) :: r, h, acc, hlo, ⟨c, h1, h2, h3⟩ => by
    unfold cellsFrom pushCells
    split
    · have := cellsFrom_acc (y := y) (lo := lo) r (h.push { cls := .type "cell", data := .cell none }) ((x, h.objs.size) :: acc) (by rw [Heap.size_push]; omega) (by
        by_cases e : y = x
        · subst e; exact ⟨h.objs.size, by simp [List.lookup_cons], hlo, _, Heap.get?_push_size _ rfl, rfl⟩
        · have hb : (y == x) = false := by simpa using e
          refine ⟨c, by simp [List.lookup_cons, hb, h1], h2, ?_⟩
          obtain ⟨o, ho, hd⟩ := h3; exact ⟨o, Heap.get?_push_of_some _ ho, hd⟩)
      rwa [Heap.size_push] at this
    · exact cellsFrom_acc r h acc hlo ⟨c, h1, h2, h3⟩
theorem cellsFrom_new {y : Str} {lo : Nat} : ∀ (names : List (Str × NameKind)) (h : Heap) (acc : List (Str × Addr)), lo ≤ h.objs.size → (y, NameKind.cell) ∈ names →
    ∃ c, (cellsFrom h.objs.size names acc).lookup y = some c ∧ lo ≤ c ∧ (pushCells h names).IsCell c none
  | (x, kd) :: r, h, acc, hlo, hm => by
    unfold cellsFrom pushCells
    rcases List.mem_cons.mp hm with e | hm
    · cases e
      rw [if_pos (by rfl), if_pos (by rfl)]
      have := cellsFrom_acc (y := y) (lo := lo) r (h.push { cls := .type "cell", data := .cell none }) ((y, h.objs.size) :: acc) (by rw [Heap.size_push]; omega)
        ⟨h.objs.size, by simp [List.lookup_cons], hlo, _, Heap.get?_push_size _ rfl, rfl⟩
      rwa [Heap.size_push] at this
    · split
      · have := cellsFrom_new (y := y) (lo := lo) r (h.push { cls := .type "cell", data := .cell none }) ((x, h.objs.size) :: acc) (by rw [Heap.size_push]; omega) hm
        rwa [Heap.size_push] at this
      · exact cellsFrom_new r h acc hlo hm

/-- the block's environment, its names at the address C₀ -/
def cEnv (scope : Scope) (env : Env) (C₀ : Addr) : Env :=
  { scope := relabel scope env, locals := C₀, globals := env.globals, cells := cellsFrom (C₀ + 1) scope.names (closL scope.names env []), qual := env.qual, func := none, code := env.code, frame := env.frame, builtins := env.builtins }
theorem cEnv_ok {scope : Scope} {env : Env} {C₀ : Addr} (ho : EnvOk env) (h : compOk scope env = true) : EnvOk (cEnv scope env C₀) := by
  refine ⟨ho.g, ho.b, ?_⟩
  unfold compOk at h
  simp only [Bool.and_eq_true] at h
  exact (by simpa using h.1 : scope.kind = .function)

theorem lookup_relabel (scope : Scope) (env : Env) (x : Str) : (relabel scope env).names.lookup x = (scope.names.lookup x).map fun k => if (k == .free && env.scope.kind == .function && env.kindOf x == some .cell) then .cell else k := by
  unfold relabel
  simp only
  induction scope.names with
  | nil => rfl
  | cons q r ih =>
    obtain ⟨n, k⟩ := q
    simp only [List.map_cons]
    by_cases hb : x = n
    · subst hb
      by_cases hc : (k == NameKind.free && env.scope.kind == .function && env.kindOf x == some .cell) = true
      · rw [if_pos hc, List.lookup_cons_self, List.lookup_cons_self, Option.map_some, if_pos hc]
      · rw [if_neg hc, List.lookup_cons_self, List.lookup_cons_self, Option.map_some, if_neg hc]
    · have hb' : (x == n) = false := by simpa using hb
      by_cases hc : (k == NameKind.free && env.scope.kind == .function && env.kindOf n == some .cell) = true
      · rw [if_pos hc, List.lookup_cons, List.lookup_cons, hb']; exact ih
      · rw [if_neg hc, List.lookup_cons, List.lookup_cons, hb']; exact ih

/-- the names that go into the block -/
def into (scope : Scope) (ρ : Rho) : Rho := ρ.filter fun p => scope.names.lookup p.1 == some .free
theorem mem_into {scope : Scope} {ρ : Rho} {x : Str} {d : D} (h : (x, d) ∈ ρ) (hx : (scope.names.lookup x == some .free) = true) : (x, d) ∈ into scope ρ := List.mem_filter.mpr ⟨h, hx⟩

theorem Var.into {scope : Scope} {env : Env} {C₀ : Addr} {h : Heap} {x : Str} {v : Value} (hk : compOk scope env = true) (hx : scope.names.lookup x = some .free) (hv : Var env h x v) : Var (cEnv scope env C₀) h x v := by
  unfold compOk at hk
  simp only [Bool.and_eq_true] at hk
  have hall := List.all_eq_true.mp hk.2
  have hmem := lookup_mem hx
  have h1 := hall _ hmem
  simp only [Bool.and_eq_true, Bool.or_eq_true] at h1
  rcases hv with ⟨e, _⟩ | ⟨_, c, hc, hi⟩
  · rw [e] at h1; exact absurd h1.2 (by simp)
  · refine .inr ⟨?_, c, ?_, hi⟩
    · show ((relabel scope env).names.lookup x = some .cell) ∨ _
      have := lookup_relabel scope env x
      rw [hx] at this
      simp only [Option.map_some] at this
      show (relabel scope env).names.lookup x = some .cell ∨ (relabel scope env).names.lookup x = some .free
      rw [this]
      split
      · exact .inl rfl
      · exact .inr rfl
    · show (cellsFrom (C₀ + 1) scope.names (closL scope.names env [])).lookup x = some c
      rw [cellsFrom_old]
      · rw [(closL_lookup (fun _ => trivial)).1 ⟨_, hmem, rfl, rfl⟩, hc]; rfl
      · intro q hq e hc'
        have h2 := hall q hq
        rw [hc'] at h2
        simp only [e, hx] at h2
        exact absurd h2 (by decide)

theorem Sees.into {scope : Scope} {env : Env} {C₀ : Addr} {h : Heap} {ρ : Rho} (hk : compOk scope env = true) (S : Sees env h ρ) : Sees (cEnv scope env C₀) h (into scope ρ) := fun p hp => by
  obtain ⟨hp, hx⟩ := List.mem_filter.mp hp
  obtain ⟨v, hv, r⟩ := S p hp
  exact ⟨v, hv.into hk (by simpa using hx), r⟩
abbrev Kav (av : Addr → Prop) (h h' : Heap) : Prop := ∀ b o, ¬ av b → h.get? b = some o → h'.get? b = some o
theorem Kav.trans {av : Addr → Prop} {a b c : Heap} (x : Kav av a b) (y : Kav av b c) : Kav av a c := fun b o n e => y b o n (x b o n e)
theorem Kav.of {av : Addr → Prop} {a b : Heap} (x : Kp a b) : Kav av a b := fun b o _ e => x b o e
theorem Kav.same {av : Addr → Prop} {a b : Heap} {c : Addr} (x : Heap.SameBut c a b) (h : av c) : Kav av a b := fun b o n e => (x.2 b (fun q => n (q ▸ h))).trans e
theorem Kav.mono {av av' : Addr → Prop} {a b : Heap} (x : Kav av a b) (h : ∀ b, av b → av' b) : Kav av' a b := fun b o n e => x b o (fun q => n (h b q)) e

def D.shallow : D → Bool
  | .list xs | .tup xs => xs.all D.flat
  | _ => false
theorem RepL.flat {h : Heap} (h' : Heap) : ∀ {ds : List D} {vs : List Value}, (ds.all D.flat) = true → RepL h vs ds → RepL h' vs ds
  | [], _, _, r => by unfold RepL at *; exact r
  | d :: ds, _, hf, r => by
    simp only [List.all_cons, Bool.and_eq_true] at hf
    unfold RepL at r; obtain ⟨v, t, rfl, r, rs⟩ := r
    exact RepL.cons (r.flat h' hf.1) (RepL.flat h' hf.2 rs)
/-- stands for the datum, and does not lean on what is avoided -/
def Rv (av : Addr → Prop) (h : Heap) (v : Value) (d : D) : Prop := Rep h v d ∧ (d.flat = true ∨ (d.shallow = true ∧ ∃ a, v = .ref a ∧ ¬ av a))
theorem Rv.kav {av : Addr → Prop} {h h' : Heap} {v : Value} {d : D} (k : Kav av h h') (r : Rv av h v d) : Rv av h' v d := by
  obtain ⟨r, hf | ⟨hs, a, rfl, ha⟩⟩ := r
  · exact ⟨r.flat h' hf, .inl hf⟩
  · refine ⟨?_, .inr ⟨hs, a, rfl, ha⟩⟩
    cases d with
    | list xs =>
      obtain ⟨b, items, e, hl, q⟩ := r.toList
      cases e
      exact rep_list (hl.at fun o e => k a o ha e) (q.flat h' hs)
    | tup xs =>
      obtain ⟨b, items, e, hl, q⟩ := r.toTup
      cases e
      exact rep_tup (hl.at fun o e => k a o ha e) (q.flat h' hs)
    | _ => simp [D.shallow] at hs
theorem Rv.mono {av av' : Addr → Prop} {h : Heap} {v : Value} {d : D} (r : Rv av' h v d) (hm : ∀ b, av b → av' b) : Rv av h v d := by
  obtain ⟨r, hf | ⟨hs, a, rfl, ha⟩⟩ := r
  · exact ⟨r, .inl hf⟩
  · exact ⟨r, .inr ⟨hs, a, rfl, fun q => ha (hm _ q)⟩⟩
inductive RvL (av : Addr → Prop) (h : Heap) : List Value → List D → Prop
  | nil : RvL av h [] []
  | cons {v d vs ds} : Rv av h v d → RvL av h vs ds → RvL av h (v :: vs) (d :: ds)
theorem RvL.kav {av : Addr → Prop} {h h' : Heap} {vs : List Value} {ds : List D} (k : Kav av h h') (r : RvL av h vs ds) : RvL av h' vs ds := by
  induction r with
  | nil => exact .nil
  | cons r _ ih => exact .cons (r.kav k) ih
theorem RvL.mono {av av' : Addr → Prop} {h : Heap} {vs : List Value} {ds : List D} (r : RvL av' h vs ds) (hm : ∀ b, av b → av' b) : RvL av h vs ds := by
  induction r with
  | nil => exact .nil
  | cons r _ ih => exact .cons (r.mono hm) ih
theorem RvL.repL {av : Addr → Prop} {h : Heap} {vs : List Value} {ds : List D} (r : RvL av h vs ds) : RepL h vs ds := by
  induction r with
  | nil => exact RepL.nil
  | cons r _ ih => exact RepL.cons r.1 ih
theorem RvL.snoc {av : Addr → Prop} {h : Heap} {vs : List Value} {ds : List D} {v : Value} {d : D} (r : RvL av h vs ds) (q : Rv av h v d) : RvL av h (vs ++ [v]) (ds ++ [d]) := by
  induction r with
  | nil => exact .cons q .nil
  | cons r _ ih => exact .cons r ih
theorem RvL.length {av : Addr → Prop} {h : Heap} {vs : List Value} {ds : List D} (r : RvL av h vs ds) : vs.length = ds.length := by
  induction r with
  | nil => rfl
  | cons r _ ih => simp [ih]

/-- a new datum: flat, or a list or tuple of flat ones made here -/
def Fresh (h : Heap) (v : Value) (d : D) : Prop := d.flat = true ∨ (d.shallow = true ∧ ∃ a, v = .ref a ∧ h.get? a = none)
theorem Fresh.kp {h h' : Heap} {v : Value} {d : D} (k : Kp h h') (x : Fresh h' v d) : Fresh h v d := x.imp id fun ⟨a, b, c, e⟩ => ⟨a, b, c, none_kp k e⟩
def EvN (C : W0) (n : Nat) (env : Env) (ρ : Rho) (e : Expr) (d : D) : Prop :=
  ∀ ⦃A : Around⦄ ⦃s : Shared⦄ ⦃Q : Value → Shared → Prop⦄ ⦃E : Value → Shared → Prop⦄, Room n A → GW C s.heap → Sees env s.heap ρ →
    (∀ v s', Same s s' → Kp s.heap s'.heap → Rep s'.heap v d → Fresh s.heap v d → Q v s') → wpAny (model C.prog C.w) A (eval e env) Q E s
theorem EvN.ev {C : W0} {n : Nat} {env : Env} {ρ : Rho} {e : Expr} {d : D} (x : EvN C n env ρ e d) : Ev C n env ρ e d := fun _ _ _ _ R G S k => x R G S fun v s' m k' r _ => k v s' m k' r
theorem EvN.of {C : W0} {n : Nat} {env : Env} {ρ : Rho} {e : Expr} {d : D} (x : Ev C n env ρ e d) (hf : d.flat = true := by rfl) : EvN C n env ρ e d := fun _ _ _ _ R G S k => x R G S fun v s' m k' r => k v s' m k' r (.inl hf)
theorem EvN.toF {C : W0} {n : Nat} {env : Env} {ρ : Rho} {e : Expr} {xs : List Int} (x : EvN C n env ρ e (intsD xs)) : EvF C n env ρ e xs := fun _ _ _ _ R G S k => x R G S fun v s' m k' r f => by
  obtain ⟨a, items, rfl, hl, q⟩ := r.toInts
  rcases f with f | ⟨_, b, e, hn⟩
  · exact absurd f (by simp [D.flat])
  · cases e; exact k _ _ _ m k' hn hl q
theorem EvN.tup {C : W0} {n : Nat} {env : Env} {ρ : Rho} {es : List Expr} {ds : List D} {k : Nat} {pos : Pos} (h : EvL C n env ρ es ds) (hf : ds.all D.flat = true := by rfl) (hl : ds.length ≤ 1000 := by exact Nat.le_of_ble_eq_true rfl) : EvN C n env ρ (.Tuple es k pos) (.tup ds) := fun _ _ _ _ R G S k =>
  wpAny_Tuple (h R G S fun vs s₁ m₁ k₁ r₁ => ⟨by rw [sizeLine_eq, r₁.length]; omega, k _ _ (m₁.trans ⟨rfl, rfl, rfl⟩) (k₁.trans (Kp.push _ _)) (rep_tup ⟨_, Heap.get?_push_size _ rfl, rfl, 0, rfl⟩ (by simpa using r₁.kp (Kp.push _ _))) (.inr ⟨hf, _, rfl, none_of_lt k₁ (Nat.le_refl _)⟩)⟩)

/-! the target of a block -/
structure Blk (cenv : Env) (tx : Str) (ct : Addr) (h : Heap) : Prop where
  ns : ∃ m, h.Ns cenv.locals m
  tg : (cenv.kindOf tx = some .local ∧ ct = cenv.locals) ∨ (cenv.kindOf tx = some .cell ∧ cenv.cells.lookup tx = some ct ∧ ct ≠ cenv.locals ∧ ∃ v₀, h.IsCell ct v₀)
theorem Blk.keep {cenv : Env} {tx : Str} {ct : Addr} {h h' : Heap} (B : Blk cenv tx ct h) (k : ∀ b o, (b = cenv.locals ∨ b = ct) → h.get? b = some o → h'.get? b = some o) : Blk cenv tx ct h' := by
  refine ⟨?_, B.tg.imp id ?_⟩
  · obtain ⟨m, o, es, ep, ho, r⟩ := B.ns; exact ⟨m, o, es, ep, k _ _ (.inl rfl) ho, r⟩
  · rintro ⟨a, b, c, v, o, ho, r⟩; exact ⟨a, b, c, v, o, k _ _ (.inr rfl) ho, r⟩
theorem blk_store {M : Model} {A : Around} {cenv : Env} {tx : Str} {ct : Addr} {s : Shared} {v : Value} {Q : Unit → Shared → Prop} {E : Value → Shared → Prop} (ho : EnvOk cenv) (B : Blk cenv tx ct s.heap)
    (k : ∀ h' tk, Blk cenv tx ct h' → Heap.SameBut ct s.heap h' → Var cenv h' tx v → Q () { s with heap := h', toks := tk }) : wpAny M A (storeName cenv tx v) Q E s := by
  obtain ⟨m, hn⟩ := B.ns
  rcases B.tg with ⟨hk, rfl⟩ | ⟨hk, hc, hne, v₀, hi⟩
  · exact wpAny_storeName_local hk hn (fun h' hn' hs => k h' _ ⟨⟨_, hn'⟩, .inl ⟨hk, rfl⟩⟩ hs (.inl ⟨hk, _, hn', by simp⟩)) (by rw [ho.k]; rfl)
  · exact wpAny_storeName_cell ho.k hk hc hi fun h' hi' hs => k h' _ ⟨⟨m, hn.sameBut hs (Ne.symm hne)⟩, .inr ⟨hk, hc, hne, _, hi'⟩⟩ hs (.inr ⟨.inl hk, _, hc, hi'⟩)
theorem Blk.has {cenv : Env} {tx : Str} {ct : Addr} {h : Heap} (B : Blk cenv tx ct h) : (∃ o, h.get? ct = some o) ∧ ∃ o, h.get? cenv.locals = some o := by
  obtain ⟨m, o, es, ep, ho, _⟩ := B.ns
  rcases B.tg with ⟨_, rfl⟩ | ⟨_, _, _, _, o', ho', _⟩
  · exact ⟨⟨o, ho⟩, o, ho⟩
  · exact ⟨⟨o', ho'⟩, o, ho⟩

def TestsOk (C : W0) (n : Nat) (env : Env) (ρ : Rho) (ifs : List Expr) (b : Bool) : Prop :=
  ∀ ⦃A : Around⦄ ⦃s : Shared⦄ ⦃Q : Bool → Shared → Prop⦄ ⦃E : Value → Shared → Prop⦄, Room n A → GW C s.heap → Sees env s.heap ρ → (∀ s', Same s s' → Kp s.heap s'.heap → Q b s') →
    wpAny (model C.prog C.w) A (forIn ifs true fun c r => if r = true then do let ok ← isTrue c env (eval c env); pure (ForInStep.yield ok) else pure (ForInStep.yield r)) Q E s
theorem TestsOk.nil {C : W0} {n : Nat} {env : Env} {ρ : Rho} : TestsOk C n env ρ [] true := fun _ _ _ _ _ _ _ k => wpAny_tests_nil (k _ (Same.rfl' _) (Kp.rfl' _))
theorem TestsOk.one {C : W0} {n : Nat} {env : Env} {ρ : Rho} {c : Expr} {b : Bool} (h : Ts C n env ρ c b) : TestsOk C n env ρ [c] b := fun _ _ _ _ R G S k => wpAny_tests_one (h R G S k)

theorem filter_take_succ {α : Type} (p : α → Bool) (l : List α) (i : Nat) (v : α) (h : l[i]? = some v) : (l.take (i + 1)).filter p = (l.take i).filter p ++ (if p v then [v] else []) := by
  rw [List.take_add_one, h, List.filter_append]
  cases hp : p v <;> simp [hp]

section
variable {C : W0} {n : Nat} {cenv : Env} {ρ' : Rho} {A : Around}

theorem comp_loop {xs : List D} {p : D → Bool} {f : D → D} {elt iter : Expr} {tx : Str} {px : Pos} {ifs : List Expr} {scope : Scope} {pos : Pos} {I Dd ct : Addr} {fp : List Addr} {P : Nat → Value → Prop} {St : Nat → Heap → Prop} {s : Shared} {R : Result → Shared → Prop}
    (av : Addr → Prop) (hav : ∀ b, av b ↔ (b = I ∨ b = Dd ∨ b = ct ∨ b = cenv.locals))
    (rm : Room n A) (W : Walks C.prog C.w A I fp [I] xs.length P St) (hst : St 0 s.heap) (hD : Dd ∉ fp) (hct : ct ∉ fp) (hold : ∀ i h', St i h' → ∃ o, h'.get? I = some o)
    (hit : ∀ j v, P j v → ∃ d, xs[j]? = some d ∧ ∀ h', Kav av s.heap h' → Rep h' v d)
    (B : Blk cenv tx ct s.heap) (ho : EnvOk cenv) (hacc : s.heap.IsList Dd #[]) (hID : I ≠ Dd) (hIc : I ≠ ct) (hIl : I ≠ cenv.locals) (hDc : Dd ≠ ct) (hDl : Dd ≠ cenv.locals)
    (hG : ∀ h', Kav av s.heap h' → GW C h') (hS : ∀ h', Kav av s.heap h' → Sees cenv h' ρ')
    (htest : ∀ x ∈ xs, TestsOk C n cenv ((tx, x) :: ρ') ifs (p x)) (helt : ∀ x ∈ xs, p x = true → EvN C n cenv ((tx, x) :: ρ') elt (f x))
    (hR : ∀ h' tk ys, Blk cenv tx ct h' → h'.IsList Dd ys → RvL av h' ys.toList ((xs.filter p).map f) → Kav av s.heap h' → R (.ok .next) { s with heap := h', toks := tk })
    (hlen : xs.length ≤ 100000) : codeAny (model C.prog C.w) A (.compLoop (.ListComp elt [⟨.Name tx px, iter, ifs, 0⟩] scope pos) 0 (.ref I) (.ref Dd) cenv) R s := by
  have avI : av I := (hav _).mpr (.inl rfl)
  have avD : av Dd := (hav _).mpr (.inr (.inl rfl))
  have avc : av ct := (hav _).mpr (.inr (.inr (.inl rfl)))
  refine codeAny_compLoop_tests (fun k s' => ∃ i h tk ys, s' = { s with heap := h, toks := tk } ∧ i ≤ xs.length ∧ k = xs.length + 1 - i ∧ St i h ∧ Blk cenv tx ct h ∧ h.IsList Dd ys ∧
    RvL av h ys.toList (((xs.take i).filter p).map f) ∧ Kav av s.heap h) ?_ (xs.length + 1) ⟨0, s.heap, s.toks, #[], rfl, Nat.zero_le _, rfl, hst, B, hacc, by simpa using RvL.nil, fun _ _ _ e => e⟩
  rintro k s' ⟨i, H, tk, ys, rfl, hi, rfl, hst', B', hacc', hys, hk⟩
  have ofI : ∀ {h₁ : Heap}, (∀ b o, b ∉ [I] → H.get? b = some o → h₁.get? b = some o) → Kav av H h₁ := fun hk₁ b o nb e => hk₁ b o (fun q => nb (by rw [List.mem_singleton.mp q]; exact avI)) e
  rcases Nat.lt_or_ge i xs.length with hlt | hge
  · refine W.item i _ _ _ hlt hst' fun v h₁ tk₁ hP hst₁ hk₁ => ?_
    obtain ⟨d, hd, hrep⟩ := hit i v hP
    have hmem : d ∈ xs := List.mem_of_getElem? hd
    have B₁ : Blk cenv tx ct h₁ := B'.keep fun b o hb e => hk₁ b o (fun q => by have q' := List.mem_singleton.mp q; rcases hb with hb | hb <;> rw [hb] at q' <;> first | exact hIl q'.symm | exact hIc q'.symm) e
    refine wpAny_assign_Name (blk_store ho B₁ fun h₂ tk₂ B₂ hs₂ hv₂ => ?_)
    have k12 : Kav av H h₂ := (ofI hk₁).trans (Kav.same hs₂ avc)
    have K2 : Kav av s.heap h₂ := hk.trans k12
    have st₂ : St (i + 1) h₂ := W.frame _ _ _ hst₁ fun b hb o e => (hs₂.2 b (fun q => hct (q ▸ hb))).trans e
    have S₂ : Sees cenv h₂ ((tx, d) :: ρ') := by
      intro q hq
      rcases List.mem_cons.mp hq with rfl | hq
      · exact ⟨v, hv₂, hrep h₂ K2⟩
      · exact hS h₂ K2 q hq
    refine htest d hmem rm (hG h₂ K2) S₂ fun s₃ m₃ k₃ => ?_
    have e₃ := m₃.eq
    have list₃ : s₃.heap.IsList Dd ys := hacc'.at fun o e => k₃ _ _ ((hs₂.2 _ hDc).trans (hk₁ _ _ (fun q => hID (List.mem_singleton.mp q).symm) e))
    have B₃ : Blk cenv tx ct s₃.heap := B₂.keep fun b o _ e => k₃ b o e
    have st₃ : St (i + 1) s₃.heap := W.frame _ _ _ st₂ fun b hb o e => k₃ b o e
    have ys₃ : RvL av s₃.heap ys.toList (((xs.take i).filter p).map f) := hys.kav (k12.trans (Kav.of k₃))
    have hsz : ys.size ≤ sizeLine := by
      have h1 := hys.length
      rw [List.length_map] at h1
      have h2 : ((xs.take i).filter p).length ≤ (xs.take i).length := List.length_filter_le _ _
      have h3 : (xs.take i).length ≤ i := by rw [List.length_take]; exact Nat.min_le_left _ _
      rw [Array.length_toList] at h1
      rw [sizeLine_eq]; omega
    cases hp : p d with
    | false =>
      simp only [Bool.false_eq_true, if_false]
      refine ⟨xs.length + 1 - (i + 1), by omega, i + 1, s₃.heap, s₃.toks, ys, e₃, hlt, rfl, st₃, B₃, list₃, ?_, K2.trans (Kav.of k₃)⟩
      rw [filter_take_succ p xs i d hd, hp]; simpa using ys₃
    | true =>
      simp only [if_true]
      refine helt d hmem hp rm ((hG h₂ K2).kp k₃) (S₂.kp k₃) fun y s₄ m₄ k₄ r₄ f₄ => ?_
      refine wpAny_list_append (hsz := hsz) (list₃.at fun o e => k₄ _ o e) fun h₅ hl₅ hs₅ => ?_
      have k35 : Kav av s₃.heap h₅ := (Kav.of k₄).trans (Kav.same hs₅ avD)
      have y₄ : Rv av s₄.heap y (f d) := by
        refine ⟨r₄, f₄.imp id fun ⟨a1, a, a2, a3⟩ => ⟨a1, a, a2, fun q => ?_⟩⟩
        have has : ∃ o, s₃.heap.get? a = some o := by
          rcases (hav a).mp q with rfl | rfl | rfl | rfl
          · exact hold _ _ st₃
          · obtain ⟨o, ho', _⟩ := list₃; exact ⟨o, ho'⟩
          · exact B₃.has.1
          · exact B₃.has.2
        obtain ⟨o, ho'⟩ := has
        rw [a3] at ho'; cases ho'
      refine ⟨xs.length + 1 - (i + 1), by omega, i + 1, h₅, s₄.toks, ys.push y, ?_, hlt, rfl, ?_, ?_, hl₅, ?_, (K2.trans (Kav.of k₃)).trans k35⟩
      · rw [m₄.eq, e₃]
      · refine W.frame _ _ _ st₃ fun b hb o e => (hs₅.2 b fun q => hD (q ▸ hb)).trans (k₄ b o e)
      · exact B₃.keep fun b o hb e => (hs₅.2 b fun q => by rcases hb with hb | hb <;> rw [hb] at q <;> first | exact hDl q.symm | exact hDc q.symm).trans (k₄ b o e)
      · rw [filter_take_succ p xs i d hd, hp]
        simp only [if_true, List.map_append, List.map_cons, List.map_nil, Array.toList_push]
        exact (ys₃.kav k35).snoc (y₄.kav (Kav.same hs₅ avD))
  · have e : i = xs.length := Nat.le_antisymm hi hge
    subst e
    refine W.done _ _ _ hst' fun h₁ tk₁ hk₁ => ?_
    rw [List.take_length] at hys
    exact hR h₁ _ ys (B'.keep fun b o hb e => hk₁ b o (fun q => by have q' := List.mem_singleton.mp q; rcases hb with hb | hb <;> rw [hb] at q' <;> first | exact hIl q'.symm | exact hIc q'.symm) e)
      (hacc'.at fun o e => hk₁ _ _ (fun q => hID (List.mem_singleton.mp q).symm) e) (hys.kav (ofI hk₁)) (hk.trans (ofI hk₁))
end
/-- what keeps the lists and tuples keeps the data -/
def Kps (h h' : Heap) : Prop := ∀ b o, h.get? b = some o → (∃ xs k, o.data = .seq xs k) → h'.get? b = some o
mutual
theorem Rep.kps {h h' : Heap} (k : Kps h h') : ∀ {d : D} {v : Value}, Rep h v d → Rep h' v d
  | .none, _, r => r
  | .bool _, _, r => r
  | .int _, _, r => r
  | .str _, _, r => r
  | .list xs, _, ⟨a, items, e, ⟨o, ho, hc, m, hd⟩, r⟩ => ⟨a, items, e, ⟨o, k _ _ ho ⟨_, _, hd⟩, hc, m, hd⟩, RepL.kps k r⟩
  | .tup xs, _, ⟨a, items, e, ⟨o, ho, hc, m, hd⟩, r⟩ => ⟨a, items, e, ⟨o, k _ _ ho ⟨_, _, hd⟩, hc, m, hd⟩, RepL.kps k r⟩
theorem RepL.kps {h h' : Heap} (k : Kps h h') : ∀ {ds : List D} {vs : List Value}, RepL h vs ds → RepL h' vs ds
  | [], _, r => r
  | _ :: _, _, ⟨v, t, e, r, rs⟩ => ⟨v, t, e, Rep.kps k r, RepL.kps k rs⟩
end

theorem new_blk {M : Model} {A : Around} {scope : Scope} {cl : List (Str × Addr)} {env : Env} {qual : Str} {g : Addr} {s : Shared} {Q : Env → Shared → Prop} {E : Value → Shared → Prop}
    (h : Q { scope, locals := s.heap.objs.size, globals := g, cells := cellsFrom (s.heap.objs.size + 1) scope.names cl, qual, func := none, code := env.code, frame := env.frame, builtins := env.builtins }
      { s with heap := pushCells (s.heap.push { cls := .type "dict", data := .dict #[] }) scope.names }) :
    wpAny M A (newFunctionEnv scope g cl [] qual none .none (some env)) Q E s := by
  simp only [newFunctionEnv, Option.isSome_some, if_true]
  refine wpAny_bind (wpAny_alloc ?_)
  refine wpAny_bind (wpAny_layCells _ (fun name kind cells => by cases hkc : kind == NameKind.cell <;> simp [hkc]) _ _ _ _ ?_)
  rw [show ({ s with heap := s.heap.push { cls := .type "dict", data := .dict #[] } } : Shared).heap.objs.size = s.heap.objs.size + 1 from Heap.size_push ..]
  exact wpAny_bind (wpAny_pure (wpAny_pure h))

section
variable {C : W0} {n : Nat} {env : Env} {ρ : Rho}
/-- a comprehension of one clause, run to its end -/
theorem comp_run {xs : List D} {p : D → Bool} {f : D → D} {elt iter : Expr} {tx : Str} {px : Pos} {ifs : List Expr} {scope : Scope} {pos pos' : Pos} {A : Around} {s : Shared} {use : Option (Value → Sem Unit)} {Q : Value → Shared → Prop} {E : Value → Shared → Prop}
    (ho : EnvOk env) (hc : compOk scope env = true) (htx : scope.names.lookup tx = some .local ∨ scope.names.lookup tx = some .cell)
    (hIt : It C n env ρ iter xs)
    (htest : ∀ x ∈ xs, ∀ C₀, TestsOk C n (cEnv scope env C₀) ((tx, x) :: into scope ρ) ifs (p x))
    (helt : ∀ x ∈ xs, p x = true → ∀ C₀, EvN C n (cEnv scope env C₀) ((tx, x) :: into scope ρ) elt (f x))
    (hs : ∀ x, foldedSetIterable iter env x = pure x) (R : Room n A) (G : GW C s.heap) (S : Sees env s.heap ρ)
    (k : ∀ Dd C₀ s' ys, Same s s' → Kp s.heap s'.heap → s.heap.get? Dd = none → s.heap.get? C₀ = none → Dd ≠ C₀ → (∃ m, s'.heap.Ns C₀ m) → s'.heap.IsList Dd ys → RvL (fun b => b = Dd ∨ b = C₀) s'.heap ys.toList ((xs.filter p).map f) →
      compPost (model C.prog C.w) A E use Q (.ref Dd) C₀ (.ok .next) s') :
    wpAny (model C.prog C.w) A (comprehension (.ListComp elt [⟨.Name tx px, iter, ifs, 0⟩] scope pos) scope env pos' (newList []) false (eval iter env) use) Q E s := by
  have hc' := hc
  unfold compOk at hc'
  simp only [Bool.and_eq_true] at hc'
  have hkind : scope.kind = .function := by simpa using hc'.1
  have hall := List.all_eq_true.mp hc'.2
  refine wpAny_comprehension_free (use := use) rfl hs (closureFor_eq hc'.2) hkind (fun x hx hl => ?_) (hIt R G S fun I fp P St s₂ m₂ k₂ w => ?_)
  · have := hall x hx
    rw [hl] at this
    simpa using this
  refine wpAny_newObj_type (new_blk ?_)
  generalize hh : (s₂.heap.push { cls := .type "list", data := .seq ([] : List Value).toArray }) = H1
  dsimp only
  have hsz1 : H1.objs.size = s₂.heap.objs.size + 1 := by rw [← hh, Heap.size_push]
  have kH1 : Kp s₂.heap H1 := by rw [← hh]; exact Kp.push _ _
  generalize hh2 : (pushCells (H1.push { cls := .type "dict", data := .dict #[] }) scope.names) = H2
  have kH2 : Kp H1 H2 := by rw [← hh2]; exact (Kp.push _ _).trans fun b o e => pushCells_keeps _ _ b o e
  show codeAny _ A (.compStart (.ListComp elt [⟨.Name tx px, iter, ifs, 0⟩] scope pos) 0 (.ref I) (.ref s₂.heap.objs.size) (cEnv scope env H1.objs.size)) (compPost (model C.prog C.w) A E use Q (.ref s₂.heap.objs.size) H1.objs.size) { s₂ with heap := H2 }
  have k2 : Kp s₂.heap H2 := kH1.trans kH2
  have hlist : H2.IsList s₂.heap.objs.size #[] := ⟨_, kH2 _ _ (by rw [← hh]; exact Heap.get?_push_size _ rfl), rfl, 0, rfl⟩
  have hns : ∃ m, H2.Ns H1.objs.size m := ⟨_, by rw [← hh2]; exact (Heap.Ns.new H1 (.type "dict")).keeps fun b o e => pushCells_keeps _ _ b o e⟩
  have hIlt : @LT.lt Nat _ I s₂.heap.objs.size := w.lt I w.ref
  -- the target
  obtain ⟨ct, B, hctlo⟩ : ∃ ct : Nat, Blk (cEnv scope env H1.objs.size) tx ct H2 ∧ @LE.le Nat _ H1.objs.size ct := by
    rcases htx with htx | htx
    · refine ⟨H1.objs.size, ⟨hns, .inl ⟨?_, rfl⟩⟩, Nat.le_refl _⟩
      show (relabel scope env).names.lookup tx = _
      rw [lookup_relabel, htx]; rfl
    · obtain ⟨c, h1, h2, h3⟩ := cellsFrom_new (y := tx) (lo := H1.objs.size + 1) scope.names (H1.push { cls := .type "dict", data := .dict #[] }) (closL scope.names env []) (by rw [Heap.size_push]; exact Nat.le_refl _) (lookup_mem htx)
      rw [hh2] at h3
      have h2' : @LE.le Nat _ (H1.objs.size + 1) c := h2
      rw [Heap.size_push] at h1
      refine ⟨c, ⟨hns, .inr ⟨?_, h1, ?_, _, h3⟩⟩, Nat.le_of_succ_le h2'⟩
      · show (relabel scope env).names.lookup tx = _
        rw [lookup_relabel, htx]; rfl
      · exact Nat.ne_of_gt h2'
  have loop : ∀ s₃ : Shared, s₃ = { s₂ with heap := H2 } → codeAny (model C.prog C.w) A (.compLoop (.ListComp elt [⟨.Name tx px, iter, ifs, 0⟩] scope pos) 0 (.ref I) (.ref s₂.heap.objs.size) (cEnv scope env H1.objs.size))
      (compPost (model C.prog C.w) A E use Q (.ref s₂.heap.objs.size) H1.objs.size) s₃ := by
    rintro s₃ rfl
    have gone : ∀ {h'} {b o}, Kav (fun b => b = I ∨ b = s₂.heap.objs.size ∨ b = ct ∨ b = H1.objs.size) H2 h' → s.heap.get? b = some o → h'.get? b = some o := fun {h' b o} kk e => by
      have e2 := k₂ _ _ e
      have hlt : @LT.lt Nat _ b s₂.heap.objs.size := Heap.lt_size e2
      refine kk b o ?_ (k2 _ _ e2)
      rintro (q | q | q | q)
      · rw [q, w.new] at e; cases e
      · have q' : @Eq Nat b s₂.heap.objs.size := q
        omega
      · have q' : @Eq Nat b ct := q
        omega
      · have q' : @Eq Nat b H1.objs.size := q
        omega
    have kp : ∀ {h'}, Kav (fun b => b = I ∨ b = s₂.heap.objs.size ∨ b = ct ∨ b = H1.objs.size) H2 h' → Kp s.heap h' := fun kk b o e => gone kk e
    refine comp_loop (n := n) (xs := xs) (p := p) (f := f) (ct := ct) (ρ' := into scope ρ) (fun b => b = I ∨ b = s₂.heap.objs.size ∨ b = ct ∨ b = H1.objs.size) (fun b => Iff.rfl) R w.W (w.W.frame _ _ _ w.st fun b _ o e => k2 b o e)
      (fun hm => Nat.lt_irrefl _ (w.lt _ hm)) (fun hm => by have h9 : @LT.lt Nat _ ct s₂.heap.objs.size := w.lt _ hm; omega) (fun i h' st => let ⟨o, e, _⟩ := w.old i h' st; ⟨o, e⟩) ?_ B (cEnv_ok ho hc) hlist (Nat.ne_of_lt hIlt) (Nat.ne_of_lt (by omega)) (Nat.ne_of_lt (by show @LT.lt Nat _ I H1.objs.size; omega)) (Nat.ne_of_lt (by omega)) (Nat.ne_of_lt (by show @LT.lt Nat _ s₂.heap.objs.size H1.objs.size; omega))
      (fun h' kk => G.kp (kp kk)) (fun h' kk => (S.kp (kp kk)).into hc) (fun x hx => htest x hx _) (fun x hx hp => helt x hx hp _) ?_ w.len
    · intro j v hP
      obtain ⟨d, hd, r⟩ := w.it j v hP
      refine ⟨d, hd, fun h' kk => ?_⟩
      -- items of what is walked are not of the block
      refine r.kps fun b o e hq => ?_
      have hlt : @LT.lt Nat _ b s₂.heap.objs.size := Heap.lt_size e
      refine kk b o ?_ (k2 _ _ e)
      rintro (q | q | q | q)
      · obtain ⟨o', e', vs, dd⟩ := w.old 0 _ w.st
        rw [q, e'] at e; cases e
        obtain ⟨xs', k', dd'⟩ := hq
        rw [dd] at dd'; cases dd'
      · have q' : @Eq Nat b s₂.heap.objs.size := q
        omega
      · have q' : @Eq Nat b ct := q
        omega
      · have q' : @Eq Nat b H1.objs.size := q
        omega
    · intro h' tk ys B' hl hys kk
      refine k _ _ _ ys (m₂.trans ⟨rfl, rfl, rfl⟩) (kp kk) (none_of_lt k₂ (Nat.le_refl _)) (none_of_lt k₂ (by omega)) (Nat.ne_of_lt (by omega)) B'.ns hl (hys.mono fun b hb => ?_)
      rcases hb with hb | hb
      · exact .inr (.inl hb)
      · exact .inr (.inr (.inr hb))
  exact codeAny_compStart_list (loop _ rfl) (w.W.self 0 _ _ _ (w.W.frame _ _ _ w.st fun b _ o e => k2 b o e) (loop _ rfl))

theorem foldedNot {iter : Expr} (h : ∀ x, foldedSetIterable iter env x = pure x) : ∀ x, foldedSetIterable iter env x = pure x := h

/-- a comprehension of one clause as a value: all that it makes is new; its items are flat, or lists or tuples of flat ones -/
theorem Ev.comp {xs : List D} (p : D → Bool) (f : D → D) {elt iter : Expr} {tx : Str} {px : Pos} {ifs : List Expr} {scope : Scope} {pos : Pos}
    (ho : EnvOk env) (hIt : It C n env ρ iter xs)
    (htest : ∀ x ∈ xs, ∀ C₀, TestsOk C n (cEnv scope env C₀) ((tx, x) :: into scope ρ) ifs (p x))
    (helt : ∀ x ∈ xs, p x = true → ∀ C₀, EvN C n (cEnv scope env C₀) ((tx, x) :: into scope ρ) elt (f x))
    (hc : compOk scope env = true := by rfl) (htx : scope.names.lookup tx = some .local ∨ scope.names.lookup tx = some .cell := by first | exact .inl rfl | exact .inr rfl)
    (hs : ∀ x, foldedSetIterable iter env x = pure x := by intro _; rfl) :
    Ev C n env ρ (.ListComp elt [⟨.Name tx px, iter, ifs, 0⟩] scope pos) (.list ((xs.filter p).map f)) := fun _ _ _ _ R G S k => by
  rw [eval_ListComp]
  refine comp_run (use := none) ho hc htx hIt htest helt hs R G S fun Dd C₀ s' ys m kp hD hC hDC hns hl hys => ?_
  obtain ⟨mm, hns⟩ := hns
  refine ⟨mm, hns, fun h' hs' => ?_⟩
  have kk : Kav (fun b => b = Dd ∨ b = C₀) s'.heap h' := Kav.same hs' (.inr rfl)
  exact k _ _ (m.trans ⟨rfl, rfl, rfl⟩) (fun b o e => (hs'.2 b fun q => by rw [q, hC] at e; cases e).trans (kp b o e)) (rep_list (hl.at fun o e => (hs'.2 _ hDC).trans e) (hys.kav kk).repL)
theorem EvN.comp {xs : List D} (p : D → Bool) (f : D → D) {elt iter : Expr} {tx : Str} {px : Pos} {ifs : List Expr} {scope : Scope} {pos : Pos}
    (ho : EnvOk env) (hIt : It C n env ρ iter xs)
    (htest : ∀ x ∈ xs, ∀ C₀, TestsOk C n (cEnv scope env C₀) ((tx, x) :: into scope ρ) ifs (p x))
    (helt : ∀ x ∈ xs, p x = true → ∀ C₀, EvN C n (cEnv scope env C₀) ((tx, x) :: into scope ρ) elt (f x))
    (hf : ∀ x, (f x).flat = true)
    (hc : compOk scope env = true := by rfl) (htx : scope.names.lookup tx = some .local ∨ scope.names.lookup tx = some .cell := by first | exact .inl rfl | exact .inr rfl)
    (hs : ∀ x, foldedSetIterable iter env x = pure x := by intro _; rfl) :
    EvN C n env ρ (.ListComp elt [⟨.Name tx px, iter, ifs, 0⟩] scope pos) (.list ((xs.filter p).map f)) := fun _ _ _ _ R G S k => by
  rw [eval_ListComp]
  refine comp_run (use := none) ho hc htx hIt htest helt hs R G S fun Dd C₀ s' ys m kp hD hC hDC hns hl hys => ?_
  obtain ⟨mm, hns⟩ := hns
  refine ⟨mm, hns, fun h' hs' => ?_⟩
  have kk : Kav (fun b => b = Dd ∨ b = C₀) s'.heap h' := Kav.same hs' (.inr rfl)
  exact k _ _ (m.trans ⟨rfl, rfl, rfl⟩) (fun b o e => (hs'.2 b fun q => by rw [q, hC] at e; cases e).trans (kp b o e)) (rep_list (hl.at fun o e => (hs'.2 _ hDC).trans e) (hys.kav kk).repL)
    (.inr ⟨List.all_eq_true.mpr fun d hd => by obtain ⟨x, _, rfl⟩ := List.mem_map.mp hd; exact hf x, Dd, rfl, hD⟩)
end
section
variable {C : W0} {n : Nat} {A : Around} {elt it1 it2 : Expr} {x1 x2 : Str} {p1 p2 : Pos} {scope : Scope} {pos : Pos}

theorem compTurn_d1 (it acc : Value) (env : Env) :
    compTurn (.ListComp elt [⟨.Name x1 p1, it1, [], 0⟩, ⟨.Name x2 p2, it2, [], 0⟩] scope pos) 1 it acc env = (standAt it2.pos >>= fun _ => pyNext it >>= fun r => match r with
      | none => pure (.done .next)
      | some v => letOwnedTupleGo (.Name x2 p2) it v >>= fun _ => assign (.Name x2 p2) env v >>= fun _ =>
        (eval elt env >>= fun x => call (.builtin "list.append") [acc, x] >>= fun _ => pure ()) >>= fun _ =>
          again (.compLoop (.ListComp elt [⟨.Name x1 p1, it1, [], 0⟩, ⟨.Name x2 p2, it2, [], 0⟩] scope pos) 1 it acc env)) := by rfl
theorem compTurn_d0 (it acc : Value) (env : Env) :
    compTurn (.ListComp elt [⟨.Name x1 p1, it1, [], 0⟩, ⟨.Name x2 p2, it2, [], 0⟩] scope pos) 0 it acc env = (standAt it1.pos >>= fun _ => pyNext it >>= fun r => match r with
      | none => pure (.done .next)
      | some v => letOwnedTupleGo (.Name x1 p1) it v >>= fun _ => assign (.Name x1 p1) env v >>= fun _ =>
        (eval it2 env >>= fun x => standAt it2.pos >>= fun _ => foldedSetIterable it2 env x >>= fun x =>
          holding [x] (pyIter x) >>= fun y => runOwn (.compStart (.ListComp elt [⟨.Name x1 p1, it1, [], 0⟩, ⟨.Name x2 p2, it2, [], 0⟩] scope pos) 1 y acc env) env >>= fun _ =>
          again (.compLoop (.ListComp elt [⟨.Name x1 p1, it1, [], 0⟩, ⟨.Name x2 p2, it2, [], 0⟩] scope pos) 0 it acc env))) := by rfl

theorem comp2_inner {cenv : Env} {ρ' : Rho} {xs : List Int} {f : Int → Int} {I Dd : Addr} {fp : List Addr} {P : Nat → Value → Prop} {St : Nat → Heap → Prop} {s : Shared} {R : Result → Shared → Prop} {ys₀ : Array Value} {ns₀ : List Int}
    (av : Addr → Prop) (hav : ∀ b, av b ↔ (b = I ∨ b = Dd ∨ b = cenv.locals))
    (rm : Room n A) (W : Walks C.prog C.w A I fp [I] xs.length P St) (hst : St 0 s.heap) (hD : Dd ∉ fp) (hct : cenv.locals ∉ fp)
    (hit : ∀ j v, P j v → ∃ d, xs[j]? = some d ∧ ∃ t, v = .int d t)
    (B : Blk cenv x2 cenv.locals s.heap) (ho : EnvOk cenv) (hacc : s.heap.IsList Dd ys₀) (hys₀ : IntsAre ys₀.toList ns₀) (hID : I ≠ Dd) (hIl : I ≠ cenv.locals) (hDl : Dd ≠ cenv.locals)
    (hG : ∀ h', Kav av s.heap h' → GW C h') (hS : ∀ h', Kav av s.heap h' → Sees cenv h' ρ')
    (helt : ∀ x ∈ xs, Ev C n cenv ((x2, .int x) :: ρ') elt (.int (f x)))
    (hR : ∀ h' tk ys, Blk cenv x2 cenv.locals h' → h'.IsList Dd ys → IntsAre ys.toList (ns₀ ++ xs.map f) → Kav av s.heap h' → R (.ok .next) { s with heap := h', toks := tk })
    (hlen : ns₀.length + xs.length ≤ 100000) : codeAny (model C.prog C.w) A (.compLoop (.ListComp elt [⟨.Name x1 p1, it1, [], 0⟩, ⟨.Name x2 p2, it2, [], 0⟩] scope pos) 1 (.ref I) (.ref Dd) cenv) R s := by
  have avI : av I := (hav _).mpr (.inl rfl)
  have avD : av Dd := (hav _).mpr (.inr (.inl rfl))
  have avc : av cenv.locals := (hav _).mpr (.inr (.inr rfl))
  refine codeAny_loop rfl (fun k s' => ∃ i h tk ys, s' = { s with heap := h, toks := tk } ∧ i ≤ xs.length ∧ k = xs.length + 1 - i ∧ St i h ∧ Blk cenv x2 cenv.locals h ∧ h.IsList Dd ys ∧
    IntsAre ys.toList (ns₀ ++ (xs.take i).map f) ∧ Kav av s.heap h) ?_ (xs.length + 1) ⟨0, s.heap, s.toks, ys₀, rfl, Nat.zero_le _, rfl, hst, B, hacc, by simpa using hys₀, fun _ _ _ e => e⟩
  rintro k s' ⟨i, H, tk, ys, rfl, hi, rfl, hst', B', hacc', hys, hk⟩
  show wpAny _ _ ((compTurn _ 1 (.ref I) (.ref Dd) cenv).onRaise (fun x => do noteFrame x cenv; theTreesLotGoes x)) _ _ _
  refine wpAny_noted ?_
  rw [compTurn_d1]
  refine wpAny_bind (wpAny_standAt (wpAny_bind ?_))
  have ofI : ∀ {h₁ : Heap}, (∀ b o, b ∉ [I] → H.get? b = some o → h₁.get? b = some o) → Kav av H h₁ := fun hk₁ b o nb e => hk₁ b o (fun q => nb (by rw [List.mem_singleton.mp q]; exact avI)) e
  have keepB : ∀ {h₁ : Heap}, (∀ b o, b ∉ [I] → H.get? b = some o → h₁.get? b = some o) → Blk cenv x2 cenv.locals h₁ := fun hk₁ => B'.keep fun b o hb e => hk₁ b o (fun q => by have q' := List.mem_singleton.mp q; rcases hb with hb | hb <;> rw [hb] at q' <;> exact hIl q'.symm) e
  rcases Nat.lt_or_ge i xs.length with hlt | hge
  · refine W.item i _ _ _ hlt hst' fun v h₁ tk₁ hP hst₁ hk₁ => ?_
    obtain ⟨d, hd, t, rfl⟩ := hit i v hP
    have hmem : d ∈ xs := List.mem_of_getElem? hd
    refine wpAny_bind (wpAny_of_eq (by rfl) (wpAny_bind ?_))
    refine wpAny_assign_Name (blk_store ho (keepB hk₁) fun h₂ tk₂ B₂ hs₂ hv₂ => ?_)
    have k12 : Kav av H h₂ := (ofI hk₁).trans (Kav.same hs₂ avc)
    have K2 : Kav av s.heap h₂ := hk.trans k12
    have st₂ : St (i + 1) h₂ := W.frame _ _ _ hst₁ fun b hb o e => (hs₂.2 b (fun q => hct (q ▸ hb))).trans e
    have S₂ : Sees cenv h₂ ((x2, .int d) :: ρ') := by
      intro q hq
      rcases List.mem_cons.mp hq with rfl | hq
      · exact ⟨_, hv₂, rep_int⟩
      · exact hS h₂ K2 q hq
    have list₃ : h₂.IsList Dd ys := hacc'.at fun o e => (hs₂.2 _ hDl).trans (hk₁ _ _ (fun q => hID (List.mem_singleton.mp q).symm) e)
    have hsz : ys.size ≤ sizeLine := by
      have h1 := hys.length
      rw [List.length_append, List.length_map, List.length_take, Array.length_toList] at h1
      rw [sizeLine_eq]; omega
    refine wpAny_bind (wpAny_bind (helt d hmem rm (hG h₂ K2) S₂ fun y s₄ m₄ k₄ r₄ => wpAny_bind ?_))
    obtain ⟨ty, rfl⟩ := r₄.toInt
    refine wpAny_list_append (hsz := hsz) (list₃.at fun o e => k₄ _ o e) fun h₅ hl₅ hs₅ => wpAny_pure (wpAny_pure ⟨rfl, xs.length + 1 - (i + 1), by omega, i + 1, h₅, s₄.toks, ys.push (.int (f d) ty), ?_, hlt, rfl, ?_, ?_, hl₅, ?_, ?_⟩)
    · rw [m₄.eq]
    · exact W.frame _ _ _ st₂ fun b hb o e => (hs₅.2 b fun q => hD (q ▸ hb)).trans (k₄ b o e)
    · exact B₂.keep fun b o hb e => (hs₅.2 b fun q => by rcases hb with hb | hb <;> rw [hb] at q <;> exact hDl q.symm).trans (k₄ b o e)
    · rw [List.take_add_one, hd, Array.toList_push]
      simp only [Option.toList_some, List.map_append, List.map_cons, List.map_nil, ← List.append_assoc]
      exact hys.append (.cons _ _ .nil)
    · exact K2.trans ((Kav.of k₄).trans (Kav.same hs₅ avD))
  · have e : i = xs.length := Nat.le_antisymm hi hge
    subst e
    refine W.done _ _ _ hst' fun h₁ tk₁ hk₁ => wpAny_pure ?_
    rw [List.take_length] at hys
    exact hR h₁ _ ys (keepB hk₁) (hacc'.at fun o e => hk₁ _ _ (fun q => hID (List.mem_singleton.mp q).symm) e) hys (hk.trans (ofI hk₁))

theorem codeAny_compStart_d1 {R : Result → Shared → Prop} {s : Shared} {it acc : Value} {env : Env}
    (h0 : codeAny (model C.prog C.w) A (.compLoop (.ListComp elt [⟨.Name x1 p1, it1, [], 0⟩, ⟨.Name x2 p2, it2, [], 0⟩] scope pos) 1 it acc env) R s)
    (h : ∀ E, wpAny (model C.prog C.w) A (pyIter it) (fun it' s' => codeAny (model C.prog C.w) A (.compLoop (.ListComp elt [⟨.Name x1 p1, it1, [], 0⟩, ⟨.Name x2 p2, it2, [], 0⟩] scope pos) 1 it' acc env) R s') E s) :
    codeAny (model C.prog C.w) A (.compStart (.ListComp elt [⟨.Name x1 p1, it1, [], 0⟩, ⟨.Name x2 p2, it2, [], 0⟩] scope pos) 1 it acc env) R s := by
  refine codeAny_of_tree ?_
  show wpAny _ _ ((compStart (.ListComp elt [⟨.Name x1 p1, it1, [], 0⟩, ⟨.Name x2 p2, it2, [], 0⟩] scope pos) 1 it acc env).onRaise (fun x => do noteFrame x env; standAt theWindowsPlace)) _ _ s
  refine wpAny_notedAt ?_
  unfold compStart
  show wpAny _ _ (ask >>= _) _ _ s
  refine wpAny_bind (wpAny_askSetting (wpAny_ite ?_))
  split
  · first
      | exact wpAny_bind (wpAny_pure (wpAny_pure (And.intro rfl h0)))
      | exact wpAny_pure (And.intro rfl h0)
  · first
      | exact wpAny_bind (wpAny_rule (wpAny_bind (wpAny_standAt (wpAny_bind (wpAny_mono (h _) (fun it' s' h' => wpAny_pure (And.intro rfl h')) fun _ _ x => x)))))
      | (refine wpAny_bind (wpAny_rule ?_); show wpAny _ _ (standAt it2.pos >>= _) _ _ s; exact wpAny_bind (wpAny_standAt (wpAny_bind (wpAny_mono (h _) (fun it' s' h' => wpAny_pure (And.intro rfl h')) fun _ _ x => x))))
end
theorem hide_kav {av : Addr → Prop} {h : Heap} {a : Addr} (ha : av a) : Kav av h (h.hide a) := fun b o n e => by
  have hb : b ≠ a := fun q => n (q ▸ ha)
  rw [Heap.hide_ne _ hb]; exact e

section
variable {C : W0} {n : Nat} {A : Around} {elt it1 : Expr} {x1 x2 : Str} {p1 p2 q1 : Pos} {scope : Scope} {pos : Pos}

theorem comp2_outer {cenv : Env} {ρ' : Rho} {xss : List (List Int)} {f : Int → Int} {I Dd : Addr} {fp : List Addr} {P : Nat → Value → Prop} {St : Nat → Heap → Prop} {s : Shared} {R : Result → Shared → Prop}
    (av : Addr → Prop) (hav : ∀ b, av b ↔ (b = I ∨ b = Dd ∨ b = cenv.locals))
    (rm : Room n A) (W : Walks C.prog C.w A I fp [I] xss.length P St) (hst : St 0 s.heap) (hD : Dd ∉ fp) (hct : cenv.locals ∉ fp) (hfl : ∀ b ∈ fp, b < s.heap.objs.size)
    (hold : ∀ i h', St i h' → ∃ o, h'.get? I = some o ∧ ∃ vs, o.data = .fields vs)
    (hit : ∀ j v, P j v → ∃ xs, xss[j]? = some xs ∧ ∀ h', Kav av s.heap h' → Rep h' v (intsD xs))
    (hn : ∃ m, s.heap.Ns cenv.locals m) (hx1 : cenv.kindOf x1 = some .local) (hx2 : cenv.kindOf x2 = some .local) (ho : EnvOk cenv) (hacc : s.heap.IsList Dd #[]) (hID : I ≠ Dd) (hIl : I ≠ cenv.locals) (hDl : Dd ≠ cenv.locals)
    (hG : ∀ h', Kav av s.heap h' → GW C h') (hS : ∀ h', Kav av s.heap h' → Sees cenv h' ρ')
    (helt : ∀ x, Ev C n cenv ((x2, .int x) :: ρ') elt (.int (f x))) (hd1 : (x1 == ("__debug__" : Str)) = false)
    (hR : ∀ h' tk ys, (∃ m, h'.Ns cenv.locals m) → h'.IsList Dd ys → IntsAre ys.toList (xss.flatten.map f) → Kav av s.heap h' → R (.ok .next) { s with heap := h', toks := tk })
    (hlen : xss.flatten.length ≤ 100000) (hlen' : xss.length ≤ 100000) :
    codeAny (model C.prog C.w) A (.compLoop (.ListComp elt [⟨.Name x1 p1, it1, [], 0⟩, ⟨.Name x2 p2, .Name x1 q1, [], 0⟩] scope pos) 0 (.ref I) (.ref Dd) cenv) R s := by
  have avI : av I := (hav _).mpr (.inl rfl)
  have avD : av Dd := (hav _).mpr (.inr (.inl rfl))
  have avc : av cenv.locals := (hav _).mpr (.inr (.inr rfl))
  refine codeAny_loop rfl (fun k s' => ∃ i h tk ys, s' = { s with heap := h, toks := tk } ∧ i ≤ xss.length ∧ k = xss.length + 1 - i ∧ St i h ∧ (∃ m, h.Ns cenv.locals m) ∧ h.IsList Dd ys ∧
    IntsAre ys.toList ((xss.take i).flatten.map f) ∧ Kav av s.heap h) ?_ (xss.length + 1) ⟨0, s.heap, s.toks, #[], rfl, Nat.zero_le _, rfl, hst, hn, hacc, by simpa using IntsAre.nil, fun _ _ _ e => e⟩
  rintro k s' ⟨i, H, tk, ys, rfl, hi, rfl, hst', ⟨m', hn'⟩, hacc', hys, hk⟩
  show wpAny _ _ ((compTurn _ 0 (.ref I) (.ref Dd) cenv).onRaise (fun x => do noteFrame x cenv; theTreesLotGoes x)) _ _ _
  refine wpAny_noted ?_
  rw [compTurn_d0]
  refine wpAny_bind (wpAny_standAt (wpAny_bind ?_))
  have ofI : ∀ {h₁ : Heap}, (∀ b o, b ∉ [I] → H.get? b = some o → h₁.get? b = some o) → Kav av H h₁ := fun hk₁ b o nb e => hk₁ b o (fun q => nb (by rw [List.mem_singleton.mp q]; exact avI)) e
  have keepN : ∀ {h₁ : Heap}, (∀ b o, b ∉ [I] → H.get? b = some o → h₁.get? b = some o) → h₁.Ns cenv.locals m' := fun hk₁ => hn'.at' fun o e => hk₁ _ o (fun q => hIl (List.mem_singleton.mp q).symm) e
  rcases Nat.lt_or_ge i xss.length with hlt | hge
  · refine W.item i _ _ _ hlt hst' fun v h₁ tk₁ hP hst₁ hk₁ => ?_
    obtain ⟨xs, hd, hrep⟩ := hit i v hP
    refine wpAny_bind (wpAny_of_eq (by rfl) (wpAny_bind ?_))
    refine wpAny_assign_Name (wpAny_storeName_local hx1 (keepN hk₁) (fun h₂ hn₂ hs₂ => ?_) (by rw [ho.k]; rfl))
    have k12 : Kav av H h₂ := (ofI hk₁).trans (Kav.same hs₂ avc)
    have K2 : Kav av s.heap h₂ := hk.trans k12
    have st₂ : St (i + 1) h₂ := W.frame _ _ _ hst₁ fun b hb o e => (hs₂.2 b (fun q => hct (q ▸ hb))).trans e
    -- the inner list
    obtain ⟨a, items, rfl, hla, hia⟩ := (hrep _ K2).toInts
    have haD : a ≠ Dd := by
      rintro rfl
      obtain ⟨b, its, e, hl', _⟩ := (hrep _ (K2.trans (hide_kav avD))).toInts
      cases e
      obtain ⟨o, ho', _⟩ := hl'
      rw [Heap.hide_self] at ho'; cases ho'
    have hal : a ≠ cenv.locals := by
      rintro rfl
      obtain ⟨o, e1, _, _, e2⟩ := hla
      obtain ⟨o', es, ep, e3, e4, _⟩ := hn₂
      rw [e1] at e3; cases e3; rw [e2] at e4; cases e4
    have haI : a ≠ I := by
      rintro rfl
      obtain ⟨o, e1, _, _, e2⟩ := hla
      obtain ⟨o', e3, vs, e4⟩ := hold _ _ st₂
      rw [e1] at e3; cases e3; rw [e2] at e4; cases e4
    refine wpAny_bind (wpAny_Name (wpAny_loadName_local (v := .ref a) ho.k hx1 hn₂ (by simp) (wpAny_bind (wpAny_standAt (wpAny_bind (wpAny_of_eq (by rfl) (wpAny_bind (wpAny_holding (wpAny_pyIter_list hla ?_)))))))) hd1)
    -- from the inner iterator on
    generalize hh3 : (h₂.push { cls := .type "list_iterator", data := .fields #[.ref a, .int 0 0] }) = h₃
    dsimp only
    have k23 : Kp h₂ h₃ := by rw [← hh3]; exact Kp.push _ _
    have hne : a ≠ h₂.objs.size := Nat.ne_of_lt (let ⟨o, ho, _⟩ := hla; Heap.lt_size ho)
    have W2 := Walks.list (prog := C.prog) (w := C.w) rm.handled h₂.objs.size a hne items
    have hsz2 : items.size = xs.length := by have := hia.length; simpa using this
    rw [hsz2] at W2
    have lt_of : ∀ {b o}, h₂.get? b = some o → b ≠ h₂.objs.size := fun e => Nat.ne_of_lt (Heap.lt_size e)
    have hlD : h₂.IsList Dd ys := hacc'.at fun o e => (hs₂.2 _ hDl).trans (hk₁ _ _ (fun q => hID (List.mem_singleton.mp q).symm) e)
    obtain ⟨oD, hoD, _⟩ := id hlD
    obtain ⟨oL, _, _, hoL, _⟩ := id hn₂
    have hlen3 : ((xss.take i).flatten.map f).length + xs.length ≤ 100000 := by
      have e1 : (xss.take (i + 1)).flatten.length ≤ xss.flatten.length := by
        conv => rhs; rw [← List.take_append_drop (i + 1) xss]
        rw [List.flatten_append, List.length_append]; exact Nat.le_add_right _ _
      rw [List.take_add_one, hd] at e1
      simp only [Option.toList_some, List.flatten_append, List.flatten_cons, List.flatten_nil, List.append_nil, List.length_append] at e1
      rw [List.length_map]; omega
    have loop : ∀ s₃ : Shared, s₃ = { s with heap := h₃, toks := tk₁ + 1 } → ∀ RR : Result → Shared → Prop, (∀ h' tk ys', (∃ m, h'.Ns cenv.locals m) → h'.IsList Dd ys' → IntsAre ys'.toList ((xss.take i).flatten.map f ++ xs.map f) →
        Kav (fun b => b = h₂.objs.size ∨ b = Dd ∨ b = cenv.locals) h₃ h' → RR (.ok .next) { s with heap := h', toks := tk }) →
        codeAny (model C.prog C.w) A (.compLoop (.ListComp elt [⟨.Name x1 p1, it1, [], 0⟩, ⟨.Name x2 p2, .Name x1 q1, [], 0⟩] scope pos) 1 (.ref h₂.objs.size) (.ref Dd) cenv) RR s₃ := by
      rintro s₃ rfl RR hRR
      have sub : ∀ {h'}, Kav (fun b => b = h₂.objs.size ∨ b = Dd ∨ b = cenv.locals) h₃ h' → Kav av s.heap h' := fun kk b o nb e => by
        have e2 := K2 b o nb e
        refine kk b o ?_ (k23 _ _ e2)
        rintro (q | q | q)
        · exact lt_of e2 q
        · exact nb (q ▸ avD)
        · exact nb (q ▸ avc)
      refine comp2_inner (n := n) (xs := xs) (f := f) (ρ' := ρ') (ys₀ := ys) (ns₀ := (xss.take i).flatten.map f) (fun b => b = h₂.objs.size ∨ b = Dd ∨ b = cenv.locals) (fun b => Iff.rfl) rm W2
        ⟨⟨_, by rw [← hh3]; exact Heap.get?_push_size _ rfl, rfl, rfl⟩, hla.at fun o e => k23 _ o e⟩ ?_ ?_ ?_ ⟨⟨_, hn₂.keeps k23⟩, .inl ⟨hx2, rfl⟩⟩ ho (hlD.at fun o e => k23 _ o e) hys (Ne.symm (lt_of hoD)) (Ne.symm (lt_of hoL)) hDl
        (fun h' kk => hG h' (sub kk)) (fun h' kk => hS h' (sub kk)) (fun x _ => helt x) (fun h' tk ys' B' hl' hi' kk => hRR h' tk ys' B'.ns hl' hi' kk) hlen3
      · intro hm
        rcases List.mem_cons.mp hm with q | hm
        · exact lt_of hoD q
        · exact haD (List.mem_singleton.mp hm).symm
      · intro hm
        rcases List.mem_cons.mp hm with q | hm
        · exact lt_of hoL q
        · exact hal (List.mem_singleton.mp hm).symm
      · intro j v hv
        have hv' : items.toList[j]? = some v := by simpa using hv
        have hj : j < xs.length := by have := (List.getElem?_eq_some_iff.mp hv').1; rw [hia.length] at this; exact this
        obtain ⟨t, ht⟩ := hia.get j xs[j] (by simp [hj])
        rw [hv'] at ht; cases ht
        exact ⟨xs[j], by simp [hj], t, rfl⟩
    have hk₀ : ∀ h', (Kav (fun b => b = h₂.objs.size ∨ b = Dd ∨ b = cenv.locals) h₃ h') → St (i + 1) h' := fun h' kk => W.frame _ _ _ st₂ fun b hb o e => by
      refine kk b o ?_ (k23 _ _ e)
      rintro (q | q | q)
      · exact lt_of e q
      · exact hD (q ▸ hb)
      · exact hct (q ▸ hb)
    refine wpAny_bind (wpAny_runOwn ?_)
    have fin : ∀ RR : Result → Shared → Prop, (∀ h' tk ys', (∃ m, h'.Ns cenv.locals m) → h'.IsList Dd ys' → IntsAre ys'.toList ((xss.take i).flatten.map f ++ xs.map f) →
        Kav (fun b => b = h₂.objs.size ∨ b = Dd ∨ b = cenv.locals) h₃ h' → RR (.ok .next) { s with heap := h', toks := tk }) →
        codeAny (model C.prog C.w) A (.compStart (.ListComp elt [⟨.Name x1 p1, it1, [], 0⟩, ⟨.Name x2 p2, .Name x1 q1, [], 0⟩] scope pos) 1 (.ref h₂.objs.size) (.ref Dd) cenv) RR { s with heap := h₃, toks := tk₁ + 1 } := fun RR hRR =>
      codeAny_compStart_d1 (loop _ rfl RR hRR) fun E => W2.self 0 _ _ _ ⟨⟨_, by rw [← hh3]; exact Heap.get?_push_size _ rfl, rfl, rfl⟩, hla.at fun o e => k23 _ o e⟩ (loop _ rfl RR hRR)
    refine fin _ fun h' tk' ys' hns' hl' hi' kk => ?_
    refine wpAny_pure ⟨rfl, xss.length + 1 - (i + 1), by omega, i + 1, h', tk', ys', rfl, hlt, rfl, hk₀ h' kk, hns', hl', ?_, ?_⟩
    · rw [List.take_add_one, hd]
      simp only [Option.toList_some, List.flatten_append, List.flatten_cons, List.flatten_nil, List.append_nil, List.map_append]
      exact hi'
    · intro b o nb e
      have e2 := K2 b o nb e
      refine kk b o ?_ (k23 _ _ e2)
      rintro (q | q | q)
      · exact lt_of e2 q
      · exact nb (q ▸ avD)
      · exact nb (q ▸ avc)
  · have e : i = xss.length := Nat.le_antisymm hi hge
    subst e
    refine W.done _ _ _ hst' fun h₁ tk₁ hk₁ => wpAny_pure ?_
    rw [List.take_length] at hys
    exact hR h₁ _ ys ⟨_, keepN hk₁⟩ (hacc'.at fun o e => hk₁ _ _ (fun q => hID (List.mem_singleton.mp q).symm) e) hys (hk.trans (ofI hk₁))
end
section
variable {C : W0} {n : Nat} {env : Env} {ρ : Rho}

/-- «[e for x1 in it1 for x2 in x1]» over lists of ints -/
theorem EvN.comp2 {xss : List (List Int)} (f : Int → Int) {elt it1 : Expr} {x1 x2 : Str} {p1 p2 q1 : Pos} {scope : Scope} {pos : Pos}
    (ho : EnvOk env) (hIt : It C n env ρ it1 (xss.map intsD))
    (helt : ∀ x C₀, Ev C n (cEnv scope env C₀) ((x2, .int x) :: into scope ρ) elt (.int (f x)))
    (hlen : xss.flatten.length ≤ 100000)
    (hc : compOk scope env = true := by rfl) (hx1 : scope.names.lookup x1 = some .local := by rfl) (hx2 : scope.names.lookup x2 = some .local := by rfl)
    (hs : ∀ x, foldedSetIterable it1 env x = pure x := by intro _; rfl) (hd1 : (x1 == ("__debug__" : Str)) = false := by decide) :
    EvN C n env ρ (.ListComp elt [⟨.Name x1 p1, it1, [], 0⟩, ⟨.Name x2 p2, .Name x1 q1, [], 0⟩] scope pos) (intsD (xss.flatten.map f)) := fun A s Q E R G S k => by
  rw [eval_ListComp]
  have hc' := hc
  unfold compOk at hc'
  simp only [Bool.and_eq_true] at hc'
  have hkind : scope.kind = .function := by simpa using hc'.1
  have hall := List.all_eq_true.mp hc'.2
  refine wpAny_comprehension_free (use := none) rfl hs (closureFor_eq hc'.2) hkind (fun x hx hl => ?_) (hIt R G S fun I fp P St s₂ m₂ k₂ w => ?_)
  · have := hall x hx
    rw [hl] at this
    simpa using this
  refine wpAny_newObj_type (new_blk ?_)
  generalize hh : (s₂.heap.push { cls := .type "list", data := .seq ([] : List Value).toArray }) = H1
  dsimp only
  have hsz1 : H1.objs.size = s₂.heap.objs.size + 1 := by rw [← hh, Heap.size_push]
  have kH1 : Kp s₂.heap H1 := by rw [← hh]; exact Kp.push _ _
  generalize hh2 : (pushCells (H1.push { cls := .type "dict", data := .dict #[] }) scope.names) = H2
  have kH2 : Kp H1 H2 := by rw [← hh2]; exact (Kp.push _ _).trans fun b o e => pushCells_keeps _ _ b o e
  show codeAny _ A (.compStart (.ListComp elt [⟨.Name x1 p1, it1, [], 0⟩, ⟨.Name x2 p2, .Name x1 q1, [], 0⟩] scope pos) 0 (.ref I) (.ref s₂.heap.objs.size) (cEnv scope env H1.objs.size)) (compPost (model C.prog C.w) A E none Q (.ref s₂.heap.objs.size) H1.objs.size) { s₂ with heap := H2 }
  have k2 : Kp s₂.heap H2 := kH1.trans kH2
  have hlist : H2.IsList s₂.heap.objs.size #[] := ⟨_, kH2 _ _ (by rw [← hh]; exact Heap.get?_push_size _ rfl), rfl, 0, rfl⟩
  have hns : ∃ m, H2.Ns H1.objs.size m := ⟨_, by rw [← hh2]; exact (Heap.Ns.new H1 (.type "dict")).keeps fun b o e => pushCells_keeps _ _ b o e⟩
  have hIlt : @LT.lt Nat _ I s₂.heap.objs.size := w.lt I w.ref
  have kof : ∀ x, scope.names.lookup x = some .local → (cEnv scope env H1.objs.size).kindOf x = some .local := fun x hx => by
    show (relabel scope env).names.lookup x = _
    rw [lookup_relabel, hx]; rfl
  have loop : ∀ s₃ : Shared, s₃ = { s₂ with heap := H2 } → codeAny (model C.prog C.w) A (.compLoop (.ListComp elt [⟨.Name x1 p1, it1, [], 0⟩, ⟨.Name x2 p2, .Name x1 q1, [], 0⟩] scope pos) 0 (.ref I) (.ref s₂.heap.objs.size) (cEnv scope env H1.objs.size))
      (compPost (model C.prog C.w) A E none Q (.ref s₂.heap.objs.size) H1.objs.size) s₃ := by
    rintro s₃ rfl
    have kp : ∀ {h'}, Kav (fun b => b = I ∨ b = s₂.heap.objs.size ∨ b = H1.objs.size) H2 h' → Kp s.heap h' := fun kk b o e => by
      have e2 := k₂ _ _ e
      have hlt : @LT.lt Nat _ b s₂.heap.objs.size := Heap.lt_size e2
      refine kk b o ?_ (k2 _ _ e2)
      rintro (q | q | q)
      · rw [q, w.new] at e; cases e
      · have q' : @Eq Nat b s₂.heap.objs.size := q
        omega
      · have q' : @Eq Nat b H1.objs.size := q
        omega
    have W := w.W
    rw [List.length_map] at W
    refine comp2_outer (n := n) (xss := xss) (f := f) (ρ' := into scope ρ) (fun b => b = I ∨ b = s₂.heap.objs.size ∨ b = H1.objs.size) (fun b => Iff.rfl) R W (w.W.frame _ _ _ w.st fun b _ o e => k2 b o e)
      (fun hm => Nat.lt_irrefl _ (w.lt _ hm)) (fun hm => by have h9 : @LT.lt Nat _ H1.objs.size s₂.heap.objs.size := w.lt _ hm; omega) (fun b hb => by have h9 : @LT.lt Nat _ b s₂.heap.objs.size := w.lt _ hb; exact Nat.lt_of_lt_of_le h9 (by
        have : @LE.le Nat _ s₂.heap.objs.size H2.objs.size := by
          obtain ⟨oo, ee, _⟩ := hlist
          have e1 : @LT.lt Nat _ (s₂.heap.objs.size) H2.objs.size := Heap.lt_size ee
          omega
        exact this)) (fun i h' st => w.old i h' st) ?_ hns (kof _ hx1) (kof _ hx2) (cEnv_ok ho hc) hlist (Nat.ne_of_lt hIlt) (Nat.ne_of_lt (by show @LT.lt Nat _ I H1.objs.size; omega)) (Nat.ne_of_lt (by show @LT.lt Nat _ s₂.heap.objs.size H1.objs.size; omega))
      (fun h' kk => G.kp (kp kk)) (fun h' kk => (S.kp (kp kk)).into hc) (fun x => helt x _) hd1 ?_ hlen (by have := w.len; rwa [List.length_map] at this)
    · intro j v hP
      obtain ⟨d, hd, r⟩ := w.it j v hP
      rw [List.getElem?_map] at hd
      obtain ⟨xs, hxs, rfl⟩ := Option.map_eq_some_iff.mp hd
      refine ⟨xs, hxs, fun h' kk => ?_⟩
      refine r.kps fun b o e hq => ?_
      have hlt : @LT.lt Nat _ b s₂.heap.objs.size := Heap.lt_size e
      refine kk b o ?_ (k2 _ _ e)
      rintro (q | q | q)
      · obtain ⟨o', e', vs, dd⟩ := w.old 0 _ w.st
        rw [q, e'] at e; cases e
        obtain ⟨xs', k', dd'⟩ := hq
        rw [dd] at dd'; cases dd'
      · have q' : @Eq Nat b s₂.heap.objs.size := q
        omega
      · have q' : @Eq Nat b H1.objs.size := q
        omega
    · intro h' tk ys ⟨m', hn'⟩ hl hys kk
      refine ⟨m', hn', fun h'' hs' => ?_⟩
      have hDC : s₂.heap.objs.size ≠ H1.objs.size := by rw [hsz1]; exact Nat.ne_of_lt (Nat.lt_succ_self _)
      have hC0 : s.heap.get? H1.objs.size = none := none_of_lt k₂ (by rw [hsz1]; exact Nat.le_succ _)
      exact k _ _ (m₂.trans ⟨rfl, rfl, rfl⟩) (fun b o e => (hs'.2 b fun q => by rw [q] at e; exact absurd (hC0.symm.trans e) (by simp)).trans (kp kk b o e)) (rep_ints (hl.at fun o e => (hs'.2 _ hDC).trans e) hys)
        (.inr ⟨List.all_eq_true.mpr fun d hd => by obtain ⟨x, _, rfl⟩ := List.mem_map.mp hd; rfl, _, rfl, none_of_lt k₂ (Nat.le_refl _)⟩)
  exact codeAny_compStart_list (loop _ rfl) (w.W.self 0 _ _ _ (w.W.frame _ _ _ w.st fun b _ o e => k2 b o e) (loop _ rfl))
end
/-- a list of ints that a name holds alone, and that may be changed -/
structure Own where
  x : Str
  R : Addr
  items : Array Value
  xs : List Int
  pl : Bool := false
def hid : Option Own → Heap → Heap
  | none, h => h
  | some o, h => h.hide o.R
abbrev vis (ρ : Rho) : Option Own → Rho
  | none => ρ
  | some o => (o.x, intsD o.xs) :: ρ
theorem hid_kp (own : Option Own) (h : Heap) : Kp (hid own h) h := by
  cases own with
  | none => exact Kp.rfl' _
  | some o => exact Kp.hide _ _
theorem hid_kp2 (own : Option Own) {h h' : Heap} (k : Kp h h') : Kp (hid own h) (hid own h') := by
  cases own with
  | none => exact k
  | some o => exact k.hide2 _

structure FS0 (C : W0) (h₀ : Heap) (env : Env) (ρ : Rho) (own : Option Own) (h : Heap) : Prop where
  keep : Kp h₀ h
  gw : GW C h₀
  ns : ∃ m, h.Ns env.locals m
  newL : h₀.get? env.locals = none
  cells : ∀ x c, env.cells.lookup x = some c → (∃ v, h.IsCell c v) ∧ h₀.get? c = none
  inj : ∀ x y c, env.cells.lookup x = some c → env.cells.lookup y = some c → x = y
  ok : EnvOk env
  own0 : ∀ o, own = some o → h.IsList o.R o.items ∧ IntsAre o.items.toList o.xs ∧ h₀.get? o.R = none ∧ (o.pl = true → h.PlainList o.R o.items)
  sees : ∀ p ∈ ρ, ∃ v, Var env h p.1 v ∧ Rep (hid own h) v p.2
structure FS (C : W0) (h₀ : Heap) (env : Env) (ρ : Rho) (own : Option Own) (h : Heap) : Prop extends FS0 C h₀ env ρ own h where
  var : ∀ o, own = some o → Var env h o.x (.ref o.R) ∧ ∀ p ∈ ρ, p.1 ≠ o.x

section
variable {C : W0} {h₀ h h' : Heap} {env : Env} {ρ : Rho} {own : Option Own}

theorem FS0.gwh (F : FS0 C h₀ env ρ own h) : GW C h := F.gw.kp F.keep
theorem FS.see (F : FS C h₀ env ρ own h) : Sees env h (vis ρ own) := fun p hp => by
  have old : p ∈ ρ → ∃ v, Var env h p.1 v ∧ Rep h v p.2 := fun hp => let ⟨v, a, b⟩ := F.sees p hp; ⟨v, a, b.kp (hid_kp _ _)⟩
  cases own with
  | none => exact old hp
  | some o =>
    rcases List.mem_cons.mp hp with rfl | hp
    · obtain ⟨b, c, _⟩ := F.own0 o rfl
      exact ⟨_, (F.var o rfl).1, rep_ints b c⟩
    · exact old hp
theorem FS0.kp (F : FS0 C h₀ env ρ own h) (k : Kp h h') : FS0 C h₀ env ρ own h' where
  keep := F.keep.trans k
  gw := F.gw
  ns := let ⟨m, x⟩ := F.ns; ⟨m, x.keeps k⟩
  newL := F.newL
  cells := fun x c e => let ⟨⟨v, o, ho, hd⟩, n⟩ := F.cells x c e; ⟨⟨v, o, k _ _ ho, hd⟩, n⟩
  inj := F.inj
  ok := F.ok
  own0 := fun o e => let ⟨b, c, d, p⟩ := F.own0 o e; ⟨b.at fun o e => k _ o e, c, d, fun q => (p q).at fun o e => k _ o e⟩
  sees := fun p hp => let ⟨v, a, b⟩ := F.sees p hp; ⟨v, a.kp k, b.kp (hid_kp2 _ k)⟩
theorem FS.kp (F : FS C h₀ env ρ own h) (k : Kp h h') : FS C h₀ env ρ own h' := ⟨F.toFS0.kp k, fun o e => ⟨(F.var o e).1.kp k, (F.var o e).2⟩⟩
/-- forget that it is held alone -/
theorem FS.free (F : FS C h₀ env ρ own h) : FS C h₀ env (vis ρ own) none h :=
  ⟨{ F.toFS0 with own0 := (fun _ e => (nomatch e)), sees := fun p hp => F.see p hp }, fun _ e => (nomatch e)⟩
/-- forget names -/
theorem FS.sub (F : FS C h₀ env ρ own h) {ρ' : Rho} (hs : ∀ p ∈ ρ', p ∈ ρ) : FS C h₀ env ρ' own h := ⟨{ F.toFS0 with sees := fun p hp => F.sees p (hs p hp) }, fun o e => ⟨(F.var o e).1, fun p hp => (F.var o e).2 p (hs p hp)⟩⟩

def dropN (x : Str) (ρ : Rho) : Rho := ρ.filter fun p => p.1 != x
theorem mem_dropN {x : Str} {p : Str × D} {ρ : Rho} : p ∈ dropN x ρ ↔ p ∈ ρ ∧ p.1 ≠ x := by
  unfold dropN; rw [List.mem_filter]; simp

/-- an address that a store into a name changes -/
structure Slot1 (env : Env) (x : Str) (a : Addr) : Prop where
  is : (env.kindOf x = some .local ∧ a = env.locals) ∨ (env.kindOf x = some .cell ∧ env.cells.lookup x = some a)

theorem FS0.notSeq (F : FS0 C h₀ env ρ own h) {x : Str} {a : Addr} (sl : Slot1 env x a) : ∃ o, h.get? a = some o ∧ ∀ xs k, o.data ≠ .seq xs k := by
  rcases sl.is with ⟨_, rfl⟩ | ⟨_, hc⟩
  · obtain ⟨m, o, es, ep, ho, hd, _⟩ := F.ns
    exact ⟨o, ho, fun xs k e => by rw [hd] at e; cases e⟩
  · obtain ⟨⟨v, o, ho, hd⟩, _⟩ := F.cells x a hc
    exact ⟨o, ho, fun xs k e => by rw [hd] at e; cases e⟩
theorem FS0.new (F : FS0 C h₀ env ρ own h) {x : Str} {a : Addr} (sl : Slot1 env x a) : h₀.get? a = none := by
  rcases sl.is with ⟨_, rfl⟩ | ⟨_, hc⟩
  · exact F.newL
  · exact (F.cells x a hc).2
theorem FS0.cell_ne (F : FS0 C h₀ env ρ own h) {x : Str} {c : Addr} (hc : env.cells.lookup x = some c) : c ≠ env.locals := by
  rintro rfl
  obtain ⟨⟨v, o, ho, hd⟩, _⟩ := F.cells x _ hc
  obtain ⟨m, o', es, ep, ho', hd', _⟩ := F.ns
  rw [ho] at ho'; cases ho'; rw [hd] at hd'; cases hd'
theorem kps_hid {own : Option Own} {a : Addr} {o : Obj} (ho : h.get? a = some o) (hn : ∀ xs k, o.data ≠ .seq xs k) (hs : Heap.SameBut a h h') : Kps (hid own h) (hid own h') := fun b ob e hq => by
  have e' := hid_kp own h b ob e
  have hb : b ≠ a := by
    rintro rfl
    rw [e'] at ho; cases ho
    obtain ⟨xs, k, q⟩ := hq
    exact hn _ _ q
  have e2 : h'.get? b = some ob := (hs.2 b hb).trans e'
  cases own with
  | none => exact e2
  | some w =>
    have hw : b ≠ w.R := by rintro rfl; exact absurd e (by show ¬ ((h.hide w.R).get? w.R = some ob); rw [Heap.hide_self]; simp)
    show (h'.hide w.R).get? b = some ob
    rw [Heap.hide_ne _ hw]; exact e2

/-- what a store into the name x leaves of the other names -/
theorem FS0.var_other (F : FS0 C h₀ env ρ own h) {x y : Str} {a : Addr} {v : Value} (sl : Slot1 env x a) (hs : Heap.SameBut a h h') (hm : a = env.locals → ∃ m u, h.Ns env.locals m ∧ h'.Ns env.locals fun z => if z = x then some u else m z)
    (hy : y ≠ x) (hv : Var env h y v) : Var env h' y v := by
  rcases hv with ⟨e, m, hn, hmv⟩ | ⟨e, c, hc, o, ho, hd⟩
  · refine .inl ⟨e, ?_⟩
    by_cases ha : a = env.locals
    · obtain ⟨m', u, hn', hn''⟩ := hm ha
      refine ⟨_, hn'', ?_⟩
      simp only [if_neg hy]
      obtain ⟨o1, es, ep, q1, q2, _, q4⟩ := hn
      obtain ⟨o2, es', ep', r1, r2, _, r4⟩ := hn'
      rw [q1] at r1; cases r1
      rw [q2] at r2; cases r2
      rw [← r4, q4]; exact hmv
    · exact ⟨m, hn.sameBut hs (Ne.symm ha), hmv⟩
  · refine .inr ⟨e, c, hc, o, (hs.2 c ?_).trans ho, hd⟩
    rcases sl.is with ⟨_, rfl⟩ | ⟨_, hc'⟩
    · exact F.cell_ne hc
    · rintro rfl; exact hy (F.inj _ _ _ hc hc')

theorem fs0_store {A : Around} {s : Shared} {x : Str} {v : Value} {Q : Unit → Shared → Prop} {E : Value → Shared → Prop} (F : FS0 C h₀ env ρ own s.heap)
    (hk : env.kindOf x = some .local ∨ (env.kindOf x = some .cell ∧ (env.cells.lookup x).isSome = true))
    (k : ∀ s', Same s s' → FS0 C h₀ env (dropN x ρ) own s'.heap → Var env s'.heap x v → (∀ y u, y ≠ x → Var env s.heap y u → Var env s'.heap y u) → Kps (hid own s.heap) (hid own s'.heap) → (∃ a, Slot1 env x a ∧ Heap.SameBut a s.heap s'.heap) → Q () s') : wpAny (model C.prog C.w) A (storeName env x v) Q E s := by
  have main : ∀ (a : Addr) (h' : Heap) (tk : Nat), Slot1 env x a → Heap.SameBut a s.heap h' → (a = env.locals → ∃ m u, s.heap.Ns env.locals m ∧ h'.Ns env.locals fun z => if z = x then some u else m z) → (∃ m, h'.Ns env.locals m) →
      (∀ y c, env.cells.lookup y = some c → ∃ v, h'.IsCell c v) → Var env h' x v → Q () { s with heap := h', toks := tk } := by
    intro a h' tk sl hs hm hn hcell hv
    obtain ⟨oa, hoa, hna⟩ := F.notSeq sl
    have kps : Kps (hid own s.heap) (hid own h') := kps_hid hoa hna hs
    refine k _ ⟨rfl, rfl, rfl⟩ ⟨fun b o e => (hs.2 b fun q => by rw [q, F.new sl] at e; cases e).trans (F.keep b o e), F.gw, hn, F.newL, fun y c e => ⟨hcell y c e, (F.cells y c e).2⟩, F.inj, F.ok, ?_, ?_⟩ hv (fun y u hy hu => F.var_other sl hs hm hy hu) kps ⟨a, sl, hs⟩
    · intro o e
      obtain ⟨q2, q3, q4, q5⟩ := F.own0 o e
      have hne : o.R ≠ a := by
        rintro q
        obtain ⟨o', e1, _, n, e2⟩ := q2
        rw [q] at e1
        have e1' : s.heap.get? a = some o' := e1
        rw [hoa] at e1'; cases e1'
        exact hna _ _ e2
      exact ⟨q2.at fun ob eo => (hs.2 _ hne).trans eo, q3, q4, fun hp => (q5 hp).at fun ob eo => (hs.2 _ hne).trans eo⟩
    · intro p hp
      obtain ⟨hp, hne⟩ := mem_dropN.mp hp
      obtain ⟨u, hu, ru⟩ := F.sees p hp
      exact ⟨u, F.var_other sl hs hm hne hu, ru.kps kps⟩
  rcases hk with hk | ⟨hk, hc⟩
  · obtain ⟨m, hn⟩ := F.ns
    refine wpAny_storeName_local hk hn (fun h' hn' hs => main env.locals h' _ ⟨.inl ⟨hk, rfl⟩⟩ hs (fun _ => ⟨m, v, hn, hn'⟩) ⟨_, hn'⟩ (fun y c e => ?_) (.inl ⟨hk, _, hn', by simp⟩)) (by rw [F.ok.k]; rfl)
    obtain ⟨⟨u, o, ho, hd⟩, _⟩ := F.cells y c e
    exact ⟨u, o, (hs.2 c (F.cell_ne e)).trans ho, hd⟩
  · obtain ⟨c, hc⟩ := Option.isSome_iff_exists.mp hc
    obtain ⟨⟨v₀, hi⟩, _⟩ := F.cells x c hc
    refine wpAny_storeName_cell F.ok.k hk hc hi fun h' hi' hs => main c h' _ ⟨.inr ⟨hk, hc⟩⟩ hs (fun e => absurd e (F.cell_ne hc)) ?_ ?_ (.inr ⟨.inl hk, c, hc, hi'⟩)
    · obtain ⟨m, hn⟩ := F.ns; exact ⟨m, hn.sameBut hs (Ne.symm (F.cell_ne hc))⟩
    · intro y c' e
      by_cases q : c' = c
      · rw [q]; exact ⟨_, hi'⟩
      · obtain ⟨⟨u, o, ho, hd⟩, _⟩ := F.cells y c' e
        exact ⟨u, o, (hs.2 c' q).trans ho, hd⟩
theorem fs_store {A : Around} {s : Shared} {x : Str} {v : Value} {d : D} {Q : Unit → Shared → Prop} {E : Value → Shared → Prop} (F : FS C h₀ env ρ own s.heap) (hr : Rep (hid own s.heap) v d) (hx : ∀ o, own = some o → x ≠ o.x)
    (hk : env.kindOf x = some .local ∨ (env.kindOf x = some .cell ∧ (env.cells.lookup x).isSome = true))
    (k : ∀ s', Same s s' → FS C h₀ env ((x, d) :: dropN x ρ) own s'.heap → Q () s') : wpAny (model C.prog C.w) A (storeName env x v) Q E s :=
  fs0_store F.toFS0 hk fun s' m F' hv ho kps _ => k s' m (by
    refine ⟨{ F' with sees := ?_ }, fun o e => ⟨ho _ _ (Ne.symm (hx o e)) (F.var o e).1, fun p hp => ?_⟩⟩
    · intro p hp
      rcases List.mem_cons.mp hp with rfl | hp
      · exact ⟨v, hv, hr.kps kps⟩
      · exact F'.sees p hp
    · rcases List.mem_cons.mp hp with rfl | hp
      · exact hx o e
      · exact (F.var o e).2 p (mem_dropN.mp hp).1)
/-- a new list of ints under a name -/
theorem fs_store_own {A : Around} {s s₀ : Shared} {x : Str} {a : Addr} {items : Array Value} {xs : List Int} {Q : Unit → Shared → Prop} {E : Value → Shared → Prop} (F : FS C h₀ env ρ own s₀.heap) (kp : Kp s₀.heap s.heap) (hnew : s₀.heap.get? a = none) (hl : s.heap.IsList a items) (hi : IntsAre items.toList xs) (pl : Bool) (hpl : pl = true → s.heap.PlainList a items)
    (hk : env.kindOf x = some .local ∨ (env.kindOf x = some .cell ∧ (env.cells.lookup x).isSome = true))
    (k : ∀ s', Same s s' → FS C h₀ env (dropN x (vis ρ own)) (some ⟨x, a, items, xs, pl⟩) s'.heap → Q () s') : wpAny (model C.prog C.w) A (storeName env x (.ref a)) Q E s := by
  have F1 : FS0 C h₀ env (vis ρ own) (some ⟨x, a, items, xs, pl⟩) s.heap := by
    refine { F.free.toFS0.kp kp with own0 := ?_, sees := ?_ }
    · intro o e
      cases e; exact ⟨hl, hi, none_kp F.keep hnew, hpl⟩
    · intro p hp
      obtain ⟨v, hv, r⟩ := F.see p hp
      refine ⟨v, hv.kp kp, r.kp fun b o e => ?_⟩
      have hb : b ≠ a := by rintro rfl; rw [hnew] at e; cases e
      show (s.heap.hide a).get? b = some o
      rw [Heap.hide_ne _ hb]; exact kp b o e
  refine fs0_store F1 hk fun s' m F' hv ho kps _ => k s' m ⟨F', fun o e => ?_⟩
  cases e
  exact ⟨hv, fun p hp => (mem_dropN.mp hp).2⟩
end
section
variable {C : W0} {n : Nat} {h₀ h h' : Heap} {env : Env} {ρ : Rho} {own : Option Own} {A : Around} {s : Shared} {Q : Flow → Shared → Prop} {E : Value → Shared → Prop} {e : Expr} {d : D} {x : Str} {p pos : Pos}

/-- a name can be stored -/
abbrev Sto (env : Env) (x : Str) : Prop := env.kindOf x = some .local ∨ (env.kindOf x = some .cell ∧ (env.cells.lookup x).isSome = true)

theorem x_set (F : FS C h₀ env ρ own s.heap) (R : Room n A) (he : Ev C n env (vis ρ own) e d) (hfl : own = none ∨ d.flat = true) (hx : ∀ o, own = some o → x ≠ o.x)
    (k : ∀ s', Same s s' → FS C h₀ env ((x, d) :: dropN x ρ) own s'.heap → Q .next s') (hk : Sto env x := by first | exact .inl rfl | exact .inr ⟨rfl, rfl⟩) (hsw : swapsWith e (some (.Name x p)) pos.line env = pure false := by rfl) :
    wpAny (model C.prog C.w) A (exec (.Assign [.Name x p] e pos) env) Q E s :=
  wpAny_Assign_Name (he R F.gwh F.see fun v s₁ m₁ k₁ r => fs_store (F.kp k₁) (by
    rcases hfl with rfl | hf
    · exact r
    · exact r.flat _ hf) hx hk fun s₂ m₂ F₂ => k s₂ (m₁.trans m₂) F₂) hsw

theorem x_own {xs : List Int} (F : FS C h₀ env ρ own s.heap) (R : Room n A) (he : EvF C n env (vis ρ own) e xs)
    (k : ∀ s' a items, Same s s' → FS C h₀ env (dropN x (vis ρ own)) (some ⟨x, a, items, xs, false⟩) s'.heap → Q .next s') (hk : Sto env x := by first | exact .inl rfl | exact .inr ⟨rfl, rfl⟩) (hsw : swapsWith e (some (.Name x p)) pos.line env = pure false := by rfl) :
    wpAny (model C.prog C.w) A (exec (.Assign [.Name x p] e pos) env) Q E s :=
  wpAny_Assign_Name (he R F.gwh F.see fun a items s₁ m₁ k₁ hn hl hi => fs_store_own F k₁ hn hl hi false (fun e => nomatch e) hk fun s₂ m₂ F₂ => k s₂ a items (m₁.trans m₂) F₂) hsw

/-- «x = []» -/
theorem x_nil {q : Pos} (F : FS C h₀ env ρ own s.heap)
    (k : ∀ s' a, Same s s' → FS C h₀ env (dropN x (vis ρ own)) (some ⟨x, a, #[], [], true⟩) s'.heap → Q .next s') (hk : Sto env x := by first | exact .inl rfl | exact .inr ⟨rfl, rfl⟩) :
    wpAny (model C.prog C.w) A (exec (.Assign [.Name x p] (.List [] q) pos) env) Q E s :=
  wpAny_Assign_Name (wpAny_List (wpAny_items_nil ⟨Nat.zero_le _, fs_store_own F (Kp.push _ _) (Heap.get?_none_of_le (Nat.le_refl _)) (IsListP.new _ _ _) .nil true (fun _ => ⟨0, Heap.get?_push_size _ rfl⟩) hk fun s₂ m₂ F₂ => k s₂ _ ⟨m₂.gens, m₂.drawn, m₂.os⟩ F₂⟩)) rfl

theorem x_if {test : Expr} {body orelse : List Stmt} {b : Bool} (F : FS C h₀ env ρ own s.heap) (R : Room n A) (ht : Ts C n env (vis ρ own) test b)
    (k : ∀ s', Same s s' → FS C h₀ env ρ own s'.heap → wpAny (model C.prog C.w) A (execs (if b then body else orelse) env) Q E s') :
    wpAny (model C.prog C.w) A (exec (.If test body orelse pos) env) Q E s :=
  wpAny_If (ht R F.gwh F.see fun s₁ m₁ k₁ => by
    have := k s₁ m₁ (F.kp k₁)
    cases b <;> exact this)
theorem x_ret (F : FS C h₀ env ρ own s.heap) (R : Room n A) (he : Ev C n env (vis ρ own) e d)
    (k : ∀ v s', Same s s' → Kp h₀ s'.heap → Rep s'.heap v d → Q (.ret v) s') : wpAny (model C.prog C.w) A (exec (.Return (some e) pos) env) Q E s :=
  wpAny_Return_some (he R F.gwh F.see fun v s₁ m₁ k₁ r => k v s₁ m₁ (F.keep.trans k₁) r)

/-- the list held alone is changed -/
theorem FS.mut {o : Own} {items' : Array Value} {xs' : List Int} {pl' : Bool} (F : FS C h₀ env ρ (some o) h) (hs : Heap.SameBut o.R h h') (hl : h'.IsList o.R items') (hi : IntsAre items'.toList xs') (hp : pl' = true → h'.PlainList o.R items') :
    FS C h₀ env ρ (some ⟨o.x, o.R, items', xs', pl'⟩) h' := by
  obtain ⟨q2, q3, q4, q5⟩ := F.own0 o rfl
  obtain ⟨o', e1, _, k', e2⟩ := id q2
  have neL : env.locals ≠ o.R := by
    rintro q
    obtain ⟨m, o2, es, ep, ho, hd, _⟩ := F.ns
    rw [q, e1] at ho; cases ho; rw [e2] at hd; cases hd
  have neC : ∀ x c, env.cells.lookup x = some c → c ≠ o.R := fun x c e q => by
    obtain ⟨⟨v, o2, ho, hd⟩, _⟩ := F.cells x c e
    rw [q, e1] at ho; cases ho; rw [e2] at hd; cases hd
  have var : ∀ y u, Var env h y u → Var env h' y u := fun y u hv => by
    rcases hv with ⟨e, m, hn, hm⟩ | ⟨e, c, hc, o3, ho, hd⟩
    · exact .inl ⟨e, m, hn.sameBut hs neL, hm⟩
    · exact .inr ⟨e, c, hc, o3, (hs.2 c (neC _ _ hc)).trans ho, hd⟩
  refine ⟨⟨fun b ob e => (hs.2 b fun q => by rw [q, q4] at e; cases e).trans (F.keep b ob e), F.gw, ?_, F.newL, ?_, F.inj, F.ok, ?_, ?_⟩, ?_⟩
  · obtain ⟨m, hn⟩ := F.ns; exact ⟨m, hn.sameBut hs neL⟩
  · intro x c e
    obtain ⟨⟨v, o2, ho, hd⟩, hn⟩ := F.cells x c e
    exact ⟨⟨v, o2, (hs.2 c (neC _ _ e)).trans ho, hd⟩, hn⟩
  · intro o2 e; cases e; exact ⟨hl, hi, q4, hp⟩
  · intro p hp'
    obtain ⟨v, hv, r⟩ := F.sees p hp'
    refine ⟨v, var _ _ hv, r.kp fun b ob e => ?_⟩
    have hb : b ≠ o.R := by rintro rfl; exact absurd e (by show ¬ ((h.hide o.R).get? o.R = some ob); rw [Heap.hide_self]; simp)
    have e' : h.get? b = some ob := Heap.of_hide e
    show (h'.hide o.R).get? b = some ob
    rw [Heap.hide_ne _ hb]; exact (hs.2 b hb).trans e'
  · intro o2 e; cases e
    exact ⟨var _ _ (F.var o rfl).1, (F.var o rfl).2⟩

/-- «x.append(e)» -/
theorem x_append {o : Own} {i : Int} {q₁ q₂ q₃ : Pos} (F : FS C h₀ env ρ (some o) s.heap) (R : Room n A) (hpl : o.pl = true) (hx : o.x = x) (he : Ev C n env (vis ρ (some o)) e (.int i)) (hlen : o.xs.length ≤ 100000)
    (k : ∀ s' items, Same s s' → FS C h₀ env ρ (some ⟨x, o.R, items, o.xs ++ [i], true⟩) s'.heap → Q .next s')
    (h1 : (q₁.endLine == q₂.line) = true := by rfl) (h2 : backTo q₂ (starEach [e] env) = [(false, eval e env)] := by rfl) (h3 : ((backTo q₂ (starEach [e] env)).all (fun x => !x.1) && (backToKw q₂ (keywordEach [] env)).all (fun x => x.1.isSome) && decide ([e].length + ([] : List Keyword).length + (if ([] : List Keyword).isEmpty = true then 0 else 1) < 30)) = true := by rfl)
    (h4 : attributeBase (.Name x q₃) (Str.ofString "append") env (eval (.Name x q₃) env) = eval (.Name x q₃) env := by rfl) (hd1 : (x == ("__debug__" : Str)) = false := by decide) (hd2 : (x == ("__classdict__" : Str)) = false := by decide)
    (hi : interactive env = false := by rfl) (hsw : ∀ c, swapsWith (.Call (.Attribute (.Name x q₃) (Str.ofString "append") q₁) [e] [] q₂) none c env = pure false := by intro _; rfl) :
    wpAny (model C.prog C.w) A (exec (.Expr (.Call (.Attribute (.Name x q₃) (Str.ofString "append") q₁) [e] [] q₂) pos) env) Q E s := by
  subst hx
  obtain ⟨g1, g2, g3, g4⟩ := F.own0 o rfl
  obtain ⟨nn, gp⟩ := g4 hpl
  refine wpAny_Expr (wpAny_Call_append h4 h3 h1 h2 ?_) hi (hsw _)
  have hv := (F.var o rfl).1
  have go : wpAny (model C.prog C.w) A (eval e env) (fun y s₂ => wpAny (model C.prog C.w) A (call (.builtin "list.append") [.ref o.R, y]) (fun v s' => match v with | .ref a => False | x => Q .next s') E s₂) E s :=
    he R F.gwh F.see fun y s₂ m₂ k₂ r => by
      obtain ⟨t, rfl⟩ := r.toInt
      have F₂ := F.kp k₂
      obtain ⟨_, _, _, f4⟩ := F₂.own0 o rfl
      refine wpAny_list_append_plain (f4 hpl) (fun h' hl hs => ?_) (by have := g2.length; rw [Array.length_toList] at this; rw [sizeLine_eq]; omega)
      exact k _ _ (m₂.trans ⟨rfl, rfl, rfl⟩) (F₂.mut hs hl.isList (by rw [Array.toList_push]; exact g2.append (.cons _ _ .nil)) fun _ => hl)
  refine wpAny_Name ?_ hd1
  have fin : ∃ D its, Value.ref o.R = Value.ref D ∧ PlainL s.heap D its ∧ wpAny (model C.prog C.w) A (eval e env) (fun y s₂ => wpAny (model C.prog C.w) A (call (.builtin "list.append") [.ref D, y]) (fun v s' => match v with | .ref a => False | x => Q .next s') E s₂) E s := ⟨o.R, o.items, rfl, ⟨_, nn, gp, rfl, rfl, rfl⟩, go⟩
  rcases hv with ⟨e, m, hn, hv⟩ | ⟨e | e, c, hc, hi⟩
  · exact wpAny_loadName_local F.ok.k e hn hv fin
  · exact wpAny_loadName_cell F.ok.k e hc hi fin
  · exact wpAny_loadName_free F.ok.k e hc hi fin hd2

theorem eval_own {o : Own} {Q : Value → Shared → Prop} (F : FS C h₀ env ρ (some o) s.heap) (h : Q (.ref o.R) s) (hd1 : (o.x == ("__debug__" : Str)) = false) (hd2 : (o.x == ("__classdict__" : Str)) = false) : wpAny (model C.prog C.w) A (eval (.Name o.x p) env) Q E s := by
  refine wpAny_Name ?_ hd1
  rcases (F.var o rfl).1 with ⟨e, m, hn, hv⟩ | ⟨e | e, c, hc, hi⟩
  · exact wpAny_loadName_local F.ok.k e hn hv h
  · exact wpAny_loadName_cell F.ok.k e hc hi h
  · exact wpAny_loadName_free F.ok.k e hc hi h hd2

theorem intsAre_set : ∀ {vs : List Value} {xs : List Int} (i : Nat) (c : Int) (t : Tok), IntsAre vs xs → IntsAre (vs.set i (.int c t)) (xs.set i c)
  | _, _, _, _, _, .nil => .nil
  | _, _, 0, _, _, .cons _ _ r => .cons _ _ r
  | _, _, i + 1, c, t, .cons _ _ r => .cons _ _ (intsAre_set i c t r)

/-- «x[i] += e» -/
theorem x_aug {o : Own} {y : Str} {i c : Int} {q₁ q₂ q₃ : Pos} (F : FS C h₀ env ρ (some o) s.heap) (R : Room n A) (hx : o.x = x) (hi : Ev C n env (vis ρ (some o)) (.Name y q₂) (.int i)) (he : Ev C n env (vis ρ (some o)) e (.int c)) (h0 : 0 ≤ i) (h1 : i < o.xs.length) (hlen : o.xs.length ≤ 100000)
    (k : ∀ s' items, Same s s' → FS C h₀ env ρ (some ⟨x, o.R, items, o.xs.set i.toNat (o.xs.getD i.toNat 0 + c), false⟩) s'.heap → Q .next s')
    (hd1 : (x == ("__debug__" : Str)) = false := by decide) (hd2 : (x == ("__classdict__" : Str)) = false := by decide) :
    wpAny (model C.prog C.w) A (exec (.AugAssign (.Subscript (.Name x q₃) (.Name y q₂) q₁) .Add e pos) env) Q E s := by
  subst hx
  obtain ⟨g1, g2, g3, g4⟩ := F.own0 o rfl
  have hlt : i.toNat < o.xs.length := by omega
  refine wpAny_AugAssign_Subscript (eval_own F (hi R F.gwh F.see fun iv s₁ m₁ k₁ r₁ => ?_) hd1 hd2)
  obtain ⟨ti, rfl⟩ := r₁.toInt
  have F₁ := F.kp k₁
  obtain ⟨f1, _, _, _⟩ := F₁.own0 o rfl
  obtain ⟨t, ht⟩ := g2.get i.toNat (o.xs[i.toNat]) (by simp [hlt])
  refine wpAny_getItem_list f1 h0 (by omega) (by simpa using ht) ?_
  refine he R F₁.gwh F₁.see fun v s₂ m₂ k₂ r₂ => ?_
  obtain ⟨tv, rfl⟩ := r₂.toInt
  have F₂ := F₁.kp k₂
  obtain ⟨f2, _, _, _⟩ := F₂.own0 o rfl
  have hsz : o.items.size = o.xs.length := by have := g2.length; simpa using this
  refine PyProof.Rows.iadd_int (wpAny_setItem_list f2 h0 (by omega) (by rw [hsz]; omega) fun h' hl hs => ?_)
  refine k _ _ ((m₁.trans m₂).trans ⟨rfl, rfl, rfl⟩) (F₂.mut hs hl ?_ (fun e => nomatch e))
  have e1 : o.xs.getD i.toNat 0 = o.xs[i.toNat] := by simp [List.getD, hlt]
  rw [e1, Array.toList_setIfInBounds]
  exact intsAre_set _ _ _ g2

/-- «x[i] = e» -/
theorem x_setitem {o : Own} {ei : Expr} {i c : Int} {q₁ q₃ : Pos} (F : FS C h₀ env ρ (some o) s.heap) (R : Room n A) (hx : o.x = x) (hi : Ev C n env (vis ρ (some o)) ei (.int i)) (he : Ev C n env (vis ρ (some o)) e (.int c)) (h0 : 0 ≤ i) (h1 : i < o.xs.length) (hlen : o.xs.length ≤ 100000)
    (k : ∀ s' items, Same s s' → FS C h₀ env ρ (some ⟨x, o.R, items, o.xs.set i.toNat c, false⟩) s'.heap → Q .next s')
    (hd1 : (x == ("__debug__" : Str)) = false := by decide) (hd2 : (x == ("__classdict__" : Str)) = false := by decide) (hsw : swapsWith e (some (.Subscript (.Name x q₃) ei q₁)) pos.line env = pure false := by rfl) :
    wpAny (model C.prog C.w) A (exec (.Assign [.Subscript (.Name x q₃) ei q₁] e pos) env) Q E s := by
  subst hx
  obtain ⟨g1, g2, g3, g4⟩ := F.own0 o rfl
  refine wpAny_Assign_Subscript (he R F.gwh F.see fun v s₁ m₁ k₁ r₁ => ?_) hsw
  obtain ⟨tv, rfl⟩ := r₁.toInt
  have F₁ := F.kp k₁
  refine eval_own F₁ (hi R F₁.gwh F₁.see fun iv s₂ m₂ k₂ r₂ => ?_) hd1 hd2
  obtain ⟨ti, rfl⟩ := r₂.toInt
  have F₂ := F₁.kp k₂
  obtain ⟨f2, _, _, _⟩ := F₂.own0 o rfl
  have hsz : o.items.size = o.xs.length := by have := g2.length; simpa using this
  refine wpAny_setItem_list f2 h0 (by omega) (by rw [hsz]; omega) fun h' hl hs => ?_
  refine k _ _ ((m₁.trans m₂).trans ⟨rfl, rfl, rfl⟩) (F₂.mut hs hl ?_ (fun e => nomatch e))
  rw [Array.toList_setIfInBounds]
  exact intsAre_set _ _ _ g2
end
def ownR (own : Option Own) : Option Addr := own.map (·.R)
/-- what a frame may change -/
def mutl (env : Env) (r : Option Addr) : List Addr := env.locals :: (env.cells.map (·.2) ++ r.toList)
theorem mem_mutl {env : Env} {r : Option Addr} {b : Addr} : b ∈ mutl env r ↔ b = env.locals ∨ (∃ x, (x, b) ∈ env.cells) ∨ r = some b := by
  unfold mutl
  rw [List.mem_cons, List.mem_append, List.mem_map]
  constructor
  · rintro (h | ⟨q, h, rfl⟩ | h)
    · exact .inl h
    · exact .inr (.inl ⟨q.1, h⟩)
    · exact .inr (.inr (by simpa using h))
  · rintro (h | ⟨x, h⟩ | h)
    · exact .inl h
    · exact .inr (.inl ⟨_, h, rfl⟩)
    · exact .inr (.inr (by simpa using h))

section
variable {C : W0} {n : Nat} {h₀ h₁ h h' : Heap} {env : Env} {ρ : Rho} {own : Option Own}

/-- all cells that the environment lists are found by their names -/
def cellsNd (env : Env) : Bool := env.cells.all fun q => env.cells.lookup q.1 == some q.2
structure EnvC (env : Env) : Prop where
  nd : ∀ x c, (x, c) ∈ env.cells → env.cells.lookup x = some c

theorem FS.down (F : FS C h₁ env ρ own h) (k : Kp h₀ h₁) (g : GW C h₀) : FS C h₀ env ρ own h :=
  ⟨{ F.toFS0 with keep := k.trans F.keep, gw := g, newL := none_kp k F.newL, cells := fun x c e => ⟨(F.cells x c e).1, none_kp k (F.cells x c e).2⟩, own0 := fun o e => let ⟨a, b, c, d⟩ := F.own0 o e; ⟨a, b, none_kp k c, d⟩ }, F.var⟩
theorem FS.new_mutl (F : FS C h₀ env ρ own h) (hc : EnvC env) {b : Addr} (hb : b ∈ mutl env (ownR own)) : h₀.get? b = none := by
  rcases mem_mutl.mp hb with rfl | ⟨x, hx⟩ | hr
  · exact F.newL
  · exact (F.cells x b (hc.nd x b hx)).2
  · unfold ownR at hr
    obtain ⟨o, e, rfl⟩ := Option.map_eq_some_iff.mp hr
    exact (F.own0 o e).2.2.1
theorem FS.up (F : FS C h₀ env ρ own h) (hc : EnvC env) {l : List Addr} (hl : ∀ b, b ∈ l ↔ b ∈ mutl env (ownR own)) : FS C (hideAll h l) env ρ own h ∧ Kp h₀ (hideAll h l) := by
  have k0 : Kp h₀ (hideAll h l) := fun b o e => hideAll_get _ (F.keep b o e) fun hm => by
    have := F.new_mutl hc ((hl b).mp hm)
    rw [this] at e; cases e
  refine ⟨⟨⟨fun b o e => of_hideAll _ e, F.gw.kp k0, F.ns, hideAll_none _ ((hl _).mpr (mem_mutl.mpr (.inl rfl))), fun x c e => ⟨(F.cells x c e).1, ?_⟩, F.inj, F.ok, fun o e => ?_, F.sees⟩, F.var⟩, k0⟩
  · exact hideAll_none _ ((hl _).mpr (mem_mutl.mpr (.inr (.inl ⟨x, lookup_mem e⟩))))
  · obtain ⟨a, b, c, d⟩ := F.own0 o e
    refine ⟨a, b, hideAll_none _ ((hl _).mpr (mem_mutl.mpr (.inr (.inr ?_)))), d⟩
    unfold ownR; rw [e]; rfl

/-- a change of what is none of the frame's -/
theorem FS.junk (F : FS C h₀ env ρ own h) {I : Addr} (hI : h₀.get? I = none) (hd : ∃ o, h.get? I = some o ∧ ∃ vs, o.data = .fields vs) (k : ∀ b o, b ≠ I → h.get? b = some o → h'.get? b = some o) : FS C h₀ env ρ own h' := by
  obtain ⟨oI, hoI, vs, hdI⟩ := hd
  have ns : ∀ {a m}, h.Ns a m → h'.Ns a m := fun {a m} hn => by
    obtain ⟨o, es, ep, ho, hd, r⟩ := hn
    exact ⟨o, es, ep, k a o (by rintro rfl; rw [hoI] at ho; cases ho; rw [hdI] at hd; cases hd) ho, hd, r⟩
  have cell : ∀ {c v}, h.IsCell c v → h'.IsCell c v := fun {c v} ⟨o, ho, hd⟩ => ⟨o, k c o (by rintro rfl; rw [hoI] at ho; cases ho; rw [hdI] at hd; cases hd) ho, hd⟩
  have var : ∀ {x v}, Var env h x v → Var env h' x v := fun {x v} hv => by
    rcases hv with ⟨e, m, hn, hm⟩ | ⟨e, c, hc, hi⟩
    · exact .inl ⟨e, m, ns hn, hm⟩
    · exact .inr ⟨e, c, hc, cell hi⟩
  have kps : Kps (hid own h) (hid own h') := fun b o e hq => by
    have e' := hid_kp own h b o e
    have hb : b ≠ I := by
      rintro rfl
      rw [e'] at hoI; cases hoI
      obtain ⟨xs, k, q⟩ := hq
      rw [hdI] at q; cases q
    have e2 := k b o hb e'
    cases own with
    | none => exact e2
    | some w =>
      have hw : b ≠ w.R := by rintro rfl; exact absurd e (by show ¬ ((h.hide w.R).get? w.R = some o); rw [Heap.hide_self]; simp)
      show (h'.hide w.R).get? b = some o
      rw [Heap.hide_ne _ hw]; exact e2
  refine ⟨⟨fun b o e => k b o (by rintro rfl; rw [hI] at e; cases e) (F.keep b o e), F.gw, let ⟨m, x⟩ := F.ns; ⟨m, ns x⟩, F.newL, fun x c e => ⟨let ⟨v, x⟩ := (F.cells x c e).1; ⟨v, cell x⟩, (F.cells x c e).2⟩, F.inj, F.ok, fun o e => ?_, fun p hp => let ⟨v, a, b⟩ := F.sees p hp; ⟨v, var a, b.kps kps⟩⟩, fun o e => ⟨var (F.var o e).1, (F.var o e).2⟩⟩
  obtain ⟨⟨ob, ho, hc, nn, hd⟩, b, c, d⟩ := F.own0 o e
  have hne : o.R ≠ I := by rintro q; rw [q, hoI] at ho; cases ho; rw [hdI] at hd; cases hd
  exact ⟨⟨ob, k _ _ hne ho, hc, nn, hd⟩, b, c, fun q => (d q).at fun ob e => k _ ob hne e⟩

/-- what a loop walks, apart from the list held alone -/
def ItO (C : W0) (n : Nat) (env : Env) (ρ : Rho) (own : Option Own) (e : Expr) (xs : List D) : Prop :=
  ∀ ⦃h₀ : Heap⦄ ⦃A : Around⦄ ⦃s : Shared⦄ ⦃K : Value → Shared → Prop⦄ ⦃E : Value → Shared → Prop⦄, Room n A → FS C h₀ env ρ own s.heap →
    (∀ I fp P St s', Same s s' → Kp s.heap s'.heap → IsWalk C A s.heap s'.heap xs I fp P St → (∀ o, own = some o → o.R ∉ fp) → K (.ref I) s') →
    wpAny (model C.prog C.w) A (eval e env) (fun x s₁ => wpAny (model C.prog C.w) A (pyIter x) K E s₁) E s
theorem ItO.range {e : Expr} {k : Int} {p pos : Pos} (ho : EnvOk env) (h : Ev C n env (vis ρ own) e (.int k)) (h0 : -1000 ≤ k) (h1 : k ≤ 1000)
    (hk : env.kindOf "range" = some .globalImplicit := by rfl) (hs : starEach [e] env = [e].map fun e => (false, eval e env) := by rfl) (he : starEach [e] env = (false, eval e env) :: starEach [] env := by rfl) :
    ItO C n env ρ own (.Call (.Name "range" p) [e] [] pos) (upD 0 k.toNat) := fun _ _ _ _ _ R F K =>
  range1_walk ho h h0 h1 hk hs he R F.gwh F.see fun I P St s' m k w => K I [I] P St s' m k w fun o e hm => by
    obtain ⟨⟨ob, ho, _⟩, _⟩ := F.own0 o e
    rw [List.mem_singleton.mp hm, w.new] at ho; cases ho
theorem ItO.name {y : Str} {xs : List D} {p : Pos} (hm : (y, D.list xs) ∈ ρ) (hl : xs.length ≤ 100000) (hd1 : (y == ("__debug__" : Str)) = false := by decide) (hd2 : (y == ("__classdict__" : Str)) = false := by decide) : ItO C n env ρ own (.Name y p) xs := fun h₀ A s K E R F k => by
  obtain ⟨v, hv, r⟩ := F.sees _ hm
  obtain ⟨a, items, rfl, hla, ra⟩ := r.toList
  have hla' : s.heap.IsList a items := hla.at fun o e => hid_kp _ _ _ _ e
  have ra' := ra.kp (hid_kp own s.heap)
  have go : wpAny (model C.prog C.w) A (pyIter (.ref a)) K E s := by
    refine wpAny_pyIter_list hla' ?_
    have hlt : a < s.heap.objs.size := let ⟨o, ho, _⟩ := hla'; Heap.lt_size ho
    have hne : a ≠ s.heap.objs.size := Nat.ne_of_lt hlt
    have W := Walks.list (prog := C.prog) (w := C.w) R.handled s.heap.objs.size a hne items
    rw [ra.size] at W
    refine k _ _ _ _ _ ⟨rfl, rfl, rfl⟩ (Kp.push _ _) ⟨W, ⟨⟨_, Heap.get?_push_size _ rfl, rfl, rfl⟩, hla'.at fun o e => Heap.get?_push_of_some _ e⟩, Heap.get?_none_of_le (Nat.le_refl _), ?_, ?_, ?_, by simp, hl, ?_⟩ ?_
    · intro b hb
      rcases List.mem_cons.mp hb with e | hb
      · exact .inl e
      · rw [List.mem_singleton.mp hb]; exact .inr ⟨items, hla'.at fun o e => Heap.get?_push_of_some _ e⟩
    · intro b hb
      show b < (s.heap.push _).objs.size
      rw [Heap.size_push]
      rcases List.mem_cons.mp hb with e | hb
      · rw [e]; exact Nat.lt_succ_self _
      · rw [List.mem_singleton.mp hb]; exact Nat.lt_succ_of_lt hlt
    · intro j v hv
      obtain ⟨d, hd, rd⟩ := ra'.get' (i := j) (v := v) (by simpa using hv)
      exact ⟨d, hd, rd.kp (Kp.push _ _)⟩
    · rintro i h' ⟨⟨o, ho, _, hd⟩, _⟩; exact ⟨o, ho, _, hd⟩
    · intro o e hm
      rcases List.mem_cons.mp hm with q | hm
      · obtain ⟨⟨ob, ho, _⟩, _⟩ := F.own0 o e
        rw [q] at ho; exact Nat.lt_irrefl _ (Heap.lt_size ho)
      · have q := List.mem_singleton.mp hm
        obtain ⟨ob, ho, _⟩ := hla
        subst e
        have ho' : (s.heap.hide o.R).get? a = some ob := ho
        rw [← q, Heap.hide_self] at ho'; cases ho'
  refine wpAny_Name ?_ hd1
  rcases hv with ⟨e, m, hn, hv⟩ | ⟨e | e, c, hc, hi⟩
  · exact wpAny_loadName_local F.ok.k e hn hv go
  · exact wpAny_loadName_cell F.ok.k e hc hi go
  · exact wpAny_loadName_free F.ok.k e hc hi go hd2

/-- a loop over what does not change -/
theorem x_for {xs : List D} {A : Around} {s : Shared} {Q : Flow → Shared → Prop} {E : Value → Shared → Prop} {tx : Str} {px pos : Pos} {iter : Expr} {body : List Stmt} (hc : EnvC env) (F : FS C h₀ env ρ own s.heap) (R : Room n A) (hIt : ItO C n env ρ own iter xs)
    (J : Nat → Rho → Option Own → Prop) (EB : Heap → Value → Shared → Prop) (hJ : J 0 ρ own) (hR : ∀ i ρ' own', J i ρ' own' → ownR own' = ownR own) (hx : ∀ i ρ' own', J i ρ' own' → ∀ o, own' = some o → tx ≠ o.x)
    (hsep : own = none ∨ ∀ d ∈ xs, d.flat = true)
    (hbody : ∀ i d ρ' own' h₁ s₁, xs[i]? = some d → J i ρ' own' → Kp h₀ h₁ → Same s s₁ → FS C h₁ env ((tx, d) :: dropN tx ρ') own' s₁.heap →
      wpAny (model C.prog C.w) A (execs body env) (fun fl s₂ => fl = .next ∧ Same s₁ s₂ ∧ ∃ ρ'' own'', J (i + 1) ρ'' own'' ∧ FS C h₁ env ρ'' own'' s₂.heap) (EB h₁) s₁)
    (hE : ∀ h₁ e s₁, Kp h₀ h₁ → EB h₁ e s₁ → notedBy (model C.prog C.w) A env (cameBackBy (model C.prog C.w) A env E) e s₁)
    (k : ∀ ρ' own' s', J xs.length ρ' own' → Same s s' → FS C h₀ env ρ' own' s'.heap → Q .next s')
    (hk : Sto env tx := by first | exact .inl rfl | exact .inr ⟨rfl, rfl⟩) (hs : ∀ x, foldedSetIterable iter env x = pure x := by intro _; rfl) :
    wpAny (model C.prog C.w) A (exec (.For (.Name tx px) iter body [] pos) env) Q E s := by
  refine wpAny_For (hIt R F fun I fp P St s₀ m₀ k₀ w hfpR => ?_) hs
  have F₀ := F.kp k₀
  have hI0 : h₀.get? I = none := none_kp F.keep w.new
  obtain ⟨oI, hoI, vsI, hdI⟩ := w.old 0 _ w.st
  generalize hl : mutl env (ownR own) = ml
  have hml : ∀ b, b ∈ ml ↔ b ∈ mutl env (ownR own) := by intro b; rw [hl]
  have hfp : ∀ b ∈ fp, b ∉ ml := by
    intro b hb hm
    rcases mem_mutl.mp ((hml b).mp hm) with rfl | ⟨x, hx⟩ | hr
    · obtain ⟨m, o, es, ep, ho, hd, _⟩ := F₀.ns
      rcases w.fpl _ hb with q | ⟨items, o2, ho2, _, _, hd2⟩
      · rw [q, hoI] at ho; cases ho; rw [hdI] at hd; cases hd
      · rw [ho2] at ho; cases ho; rw [hd2] at hd; cases hd
    · obtain ⟨⟨v, o, ho, hd⟩, _⟩ := F₀.cells x b (hc.nd x b hx)
      rcases w.fpl _ hb with q | ⟨items, o2, ho2, _, _, hd2⟩
      · rw [q, hoI] at ho; cases ho; rw [hdI] at hd; cases hd
      · rw [ho2] at ho; cases ho; rw [hd2] at hd; cases hd
    · unfold ownR at hr
      obtain ⟨o, e, rfl⟩ := Option.map_eq_some_iff.mp hr
      exact hfpR o e hb
  have hIm : I ∉ ml := hfp I w.ref
  generalize hB : hideAll s₀.heap (I :: ml) = B
  have getB : ∀ {b o}, B.get? b = some o → s₀.heap.get? b = some o ∧ b ≠ I ∧ b ∉ ml := fun {b o} e => by
    rw [← hB] at e
    refine ⟨of_hideAll _ e, ?_, ?_⟩
    · rintro rfl; rw [hideAll_none _ (.head _)] at e; cases e
    · intro hm; rw [hideAll_none _ (.tail _ hm)] at e; cases e
  have item : ∀ j v, P j v → ∃ d, xs[j]? = some d ∧ ∀ h own', (own' = none ∨ d.flat = true) → Kp B h → Rep (hid own' h) v d := fun j v hP => by
    obtain ⟨d, hd, r⟩ := w.it j v hP
    refine ⟨d, hd, fun h own' ho kB => ?_⟩
    rcases ho with rfl | hf
    · rcases hsep with ho | hf
      · subst ho
        have rB : Rep B v d := r.kps fun b o e hq => by
          rw [← hB]
          refine hideAll_get _ e fun hm => ?_
          obtain ⟨ys, kk, q⟩ := hq
          rcases List.mem_cons.mp hm with rfl | hm
          · rw [hoI] at e; cases e; rw [hdI] at q; cases q
          · rcases mem_mutl.mp ((hml b).mp hm) with rfl | ⟨x, hx⟩ | hr
            · obtain ⟨m, o', es, ep, ho', hd', _⟩ := F₀.ns
              rw [e] at ho'; cases ho'; rw [q] at hd'; cases hd'
            · obtain ⟨⟨v, o', ho', hd'⟩, _⟩ := F₀.cells x b (hc.nd x b hx)
              rw [e] at ho'; cases ho'; rw [q] at hd'; cases hd'
            · cases hr
        exact rB.kp kB
      · exact r.flat _ (hf d (List.mem_of_getElem? hd))
    · exact r.flat _ hf
  refine codeAny_forLoop (fun k s' => ∃ i ρ' own', Same s s' ∧ i ≤ xs.length ∧ k = xs.length + 1 - i ∧ St i s'.heap ∧ J i ρ' own' ∧ FS C h₀ env ρ' own' s'.heap ∧ Kp B s'.heap) ?_ (xs.length + 1) ⟨0, ρ, own, m₀, Nat.zero_le _, rfl, w.st, hJ, F₀, fun b o e => (getB e).1⟩
  rintro kk s₁ ⟨i, ρ', own', m₁, hi, rfl, st, hj, F₁, kB⟩
  obtain ⟨o1, ho1, vs1, hd1⟩ := w.old i _ st
  rcases Nat.lt_or_ge i xs.length with hlt | hge
  · refine w.W.item i _ _ _ hlt st fun v h₂ tk₂ hP st₂ hk₂ => ?_
    have F₂ : FS C h₀ env ρ' own' h₂ := F₁.junk hI0 ⟨o1, ho1, vs1, hd1⟩ fun b o hb e => hk₂ b o (fun q => hb (List.mem_singleton.mp q)) e
    have kB₂ : Kp B h₂ := fun b o e => hk₂ b o (fun q => (getB e).2.1 (List.mem_singleton.mp q)) (kB b o e)
    obtain ⟨d, hd, hrep⟩ := item i v hP
    have hml' : ∀ b, b ∈ ml ↔ b ∈ mutl env (ownR own') := fun b => by rw [hR i _ _ hj]; exact hml b
    obtain ⟨F₂', k₂'⟩ := F₂.up hc hml'
    have hown : own' = none ∨ d.flat = true := by
      rcases hsep with ho | hf
      · left
        have := hR i _ _ hj
        rw [ho] at this
        cases own' with
        | none => rfl
        | some o => cases this
      · exact .inr (hf d (List.mem_of_getElem? hd))
    refine wpAny_assign_Name (fs_store (F₂' : FS C _ env ρ' own' ({ s₁ with heap := h₂, toks := tk₂ } : Shared).heap) (hrep h₂ own' hown kB₂) (hx i _ _ hj) hk fun s₃ m₃ F₃ => ?_)
    refine wpAny_mono (hbody i d ρ' own' (hideAll h₂ ml) s₃ hd hj k₂' (m₁.trans ⟨m₃.gens, m₃.drawn, m₃.os⟩) F₃) (fun fl s₄ h4 => ?_) (fun e s₄ h4 => hE _ e s₄ k₂' h4)
    obtain ⟨rfl, m₄, ρ'', own'', hj', F₄⟩ := h4
    refine ⟨xs.length + 1 - (i + 1), by omega, i + 1, ρ'', own'', (m₁.trans ⟨m₃.gens, m₃.drawn, m₃.os⟩).trans m₄, hlt, rfl, w.W.frame _ _ _ st₂ fun b hb o e => F₄.keep b o (hideAll_get _ e (hfp b hb)), hj', F₄.down k₂' F.gw, fun b o e => F₄.keep b o (hideAll_get _ (kB₂ b o e) (getB e).2.2)⟩
  · have e : i = xs.length := Nat.le_antisymm hi hge
    subst e
    refine w.W.done _ _ _ st fun h₂ tk₂ hk₂ => wpAny_execs_nil ?_
    exact k _ _ _ hj (m₁.trans ⟨rfl, rfl, rfl⟩) (F₁.junk hI0 ⟨o1, ho1, vs1, hd1⟩ fun b o hb e => hk₂ b o (fun q => hb (List.mem_singleton.mp q)) e)
end
/-! defs of the text -/
structure Fd where
  name : Str
  args : Arguments
  body : List Stmt
  scope : Scope
def fdAt (p : Program) (i : Nat) : Fd := match p.main.body.drop i with
  | .FunctionDef n a b _ _ _ sc _ _ _ :: _ => ⟨n, a, b, sc⟩
  | _ => ⟨Str.empty, ⟨[], [], none, [], [], none, []⟩, [], default⟩
def Fd.ps (f : Fd) : List Str := f.args.args.map (·.arg)
def fEnv (f : Fd) (L a : Addr) (cd : Value) : Env := newEnv f.scope L mainGlobals (cellsFrom (L + 1) f.scope.names []) (f.name ++ ".<locals>.") (some a) cd none builtinsNs
def Fd.good (f : Fd) : Bool := f.scope.kind == .function && !f.scope.isCoroutine && !f.scope.isGenerator && (f.ps.all fun x => f.scope.names.lookup x == some .local || f.scope.names.lookup x == some .cell) && decide ((cellsFrom 0 f.scope.names []).map (·.1)).Nodup && decide f.ps.Nodup

structure DefAt (C : W0) (f : Fd) (dfl : List Value) : Prop where
  is : ∃ a oc od dV kV doc pm an cdv ct osl, C.mg f.name = some (.ref a) ∧ C.K.lookup a = some ⟨oc, od, .func (fnOf f.name f.name f.args f.body f.scope dV kV doc pm an cdv ct), osl⟩ ∧ codeIn C.K cdv f.name = true ∧
    ∀ (s : Shared) (vs : List Value), GW C s.heap → vs.length ≤ f.ps.length → f.ps.length ≤ vs.length + dfl.length →
      BindsTo s (fnOf f.name f.name f.args f.body f.scope dV kV doc pm an cdv ct) ⟨vs, []⟩ (f.ps.zip (vs ++ dfl.drop (vs.length + dfl.length - f.ps.length)))
  good : f.good = true

theorem fEnv_ok {f : Fd} {L a : Addr} {cd : Value} (h : f.good = true) : EnvOk (fEnv f L a cd) ∧ EnvC (fEnv f L a cd) := by
  unfold Fd.good at h
  simp only [Bool.and_eq_true, decide_eq_true_eq] at h
  obtain ⟨⟨⟨⟨⟨h1, h2⟩, h3⟩, h4⟩, h5⟩, h6⟩ := h
  exact ⟨⟨rfl, rfl, (by simpa using h1 : f.scope.kind = .function)⟩, ⟨fun x c hm => lookup_of_mem_nodup (cellsFrom_names f.scope.names 0 (L + 1) [] [] rfl ▸ h5) hm⟩⟩

theorem bindL_get {kindOf : Str → Option NameKind} : ∀ (binds : List (Str × Value)) (m : Str → Option Value) (x : Str) (v : Value), (binds.map (·.1)).Nodup → kindOf x = some .local → ((x, v) ∈ binds ∨ (m x = some v ∧ x ∉ binds.map (·.1))) → bindL kindOf binds m x = some v
  | [], m, x, v, _, _, h => by
    rcases h with h | h
    · cases h
    · exact h.1
  | (y, u) :: r, m, x, v, hn, hk, h => by
    obtain ⟨hy, hn⟩ := List.nodup_cons.mp hn
    unfold bindL
    refine bindL_get r _ x v hn hk ?_
    rcases h with h | ⟨h, hx⟩
    · rcases List.mem_cons.mp h with e | h
      · cases e
        refine .inr ⟨?_, hy⟩
        rw [if_pos hk]; simp
      · exact .inl h
    · simp only [List.map_cons, List.mem_cons, not_or] at hx
      refine .inr ⟨?_, hx.2⟩
      split
      · simp only [if_neg hx.1]; exact h
      · exact h
theorem bindC_get {kindOf : Str → Option NameKind} : ∀ (binds : List (Str × Value)) (m : Str → Option Value) (x : Str) (v : Value), (binds.map (·.1)).Nodup → kindOf x ≠ some .local → ((x, v) ∈ binds ∨ (m x = some v ∧ x ∉ binds.map (·.1))) → bindC kindOf binds m x = some v
  | [], m, x, v, _, _, h => by
    rcases h with h | h
    · cases h
    · exact h.1
  | (y, u) :: r, m, x, v, hn, hk, h => by
    obtain ⟨hy, hn⟩ := List.nodup_cons.mp hn
    unfold bindC
    refine bindC_get r _ x v hn hk ?_
    rcases h with h | ⟨h, hx⟩
    · rcases List.mem_cons.mp h with e | h
      · cases e
        refine .inr ⟨?_, hy⟩
        rw [if_neg hk]; simp
      · exact .inl h
    · simp only [List.map_cons, List.mem_cons, not_or] at hx
      refine .inr ⟨?_, hx.2⟩
      split
      · exact h
      · simp only [if_neg hx.1]; exact h

theorem zip_rep {h : Heap} : ∀ {ps : List Str} {vs : List Value} {ds : List D} {p : Str × D}, RepL h vs ds → p ∈ ps.zip ds → ∃ v, (p.1, v) ∈ ps.zip vs ∧ Rep h v p.2
  | [], _, _, _, _, hp => by simp at hp
  | _ :: _, _, [], _, _, hp => by simp at hp
  | q :: ps, vs, d :: ds, p, r, hp => by
    unfold RepL at r
    obtain ⟨v, t, rfl, r, rs⟩ := r
    rcases List.mem_cons.mp hp with rfl | hp
    · exact ⟨v, .head _, r⟩
    · obtain ⟨u, hu, ru⟩ := zip_rep rs hp
      exact ⟨u, .tail _ hu, ru⟩

/-- a def called -/
theorem call_def {C : W0} {f : Fd} {dfl : List Value} {ds ddfl : List D} {A : Around} {s : Shared} {R : Result → Shared → Prop} {vs : List Value} (hd : DefAt C f dfl) (hroom : A.depth < recursionLimit) (G : GW C s.heap) (hvs : RepL s.heap vs ds) (h1 : ds.length ≤ f.ps.length) (h2 : f.ps.length ≤ ds.length + dfl.length)
    (hdd : RepL s.heap (dfl.drop (ds.length + dfl.length - f.ps.length)) ddfl)
    (h : ∀ L a cd s', C.mg f.name = some (.ref a) → Same s s' → s.heap.objs.size ≤ L → FS C s.heap (fEnv f L a cd) (f.ps.zip (ds ++ ddfl)) none s'.heap → L < s'.heap.objs.size →
      wpAny (model C.prog C.w) (A.deeper (fEnv f L a cd)) (execs f.body (fEnv f L a cd)) (fun fl s'' => R (.ok (.ret (match fl with | .ret v => v | _ => .none))) s'')
        (fun e s'' => wpAny (model C.prog C.w) (A.deeper (fEnv f L a cd)) (leaving (fEnv f L a cd) e) (fun _ s3 => R (.error e) s3) (fun e' s3 => R (.error e') s3) s'') s') :
    ∀ a, C.mg f.name = some (.ref a) → codeAny (model C.prog C.w) A (.call (.ref a) ⟨vs, []⟩) R s := by
  intro a' ha'
  obtain ⟨a, oc, od, dV, kV, doc, pm, an, cdv, ct, osl, ha, ho, hcd, hb⟩ := hd.is
  rw [ha] at ha'; cases ha'
  have hg := hd.good
  have hok : ∀ L a cd, EnvOk (fEnv f L a cd) := fun L a cd => (fEnv_ok hg).1
  unfold Fd.good at hg
  simp only [Bool.and_eq_true, decide_eq_true_eq, Bool.not_eq_true'] at hg
  obtain ⟨⟨⟨⟨⟨g1, g2⟩, g3⟩, g4⟩, g5⟩, g6⟩ := hg
  have hk : f.scope.kind = .function := by simpa using g1
  have hlen : vs.length = ds.length := hvs.length
  have hbind := hb s vs G (by rw [hlen]; exact h1) (by rw [hlen]; exact h2)
  rw [hlen] at hbind
  generalize hbs : f.ps.zip (vs ++ dfl.drop (ds.length + dfl.length - f.ps.length)) = binds at hbind
  have hfst : ∀ y ∈ binds, y.1 ∈ f.ps := fun y hy => by rw [← hbs] at hy; exact (List.of_mem_zip hy).1
  have hmap : binds.map (·.1) = f.ps := by
    rw [← hbs]
    show (f.ps.zip _).map Prod.fst = f.ps
    rw [List.map_fst_zip]
    rw [List.length_append, List.length_drop, hlen]; omega
  refine codeAny_call_function hroom (G.X _ _ ho) rfl g2 g3 rfl (codeRec_of G.X hcd) (hbind _ _ _ _ ?_)
  refine wpAny_newFunctionEnv_cells hk (fun x hx => ?_) fun env' he s' x => ?_
  · have := List.all_eq_true.mp g4 x.1 (hfst x hx)
    exact kindsX (scope := f.scope) (binds := [x]) (by simpa using this) _ x (.head _)
  subst he
  refine ⟨G.nolimit.keeps x.toInCall.keep, codeAny_func ?_⟩
  obtain ⟨h₁, tk, rfl, _⟩ := x.done
  have hk₁ := x.toInCall.keep
  have hlt : s.heap.objs.size < h₁.objs.size := x.toInCall.ns.lt
  refine h s.heap.objs.size a' cdv _ ha ⟨rfl, rfl, rfl⟩ (Nat.le_refl _) ?_ hlt
  refine ⟨⟨hk₁, G, ⟨_, x.toInCall.ns⟩, Heap.get?_none_of_le (Nat.le_refl _), fun y c e => ⟨⟨_, x.cell y c e⟩, Heap.get?_none_of_le (Nat.le_of_lt (x.above y c (lookup_mem e)))⟩,
    fun y z c e1 e2 => name_of_addr x.apart (lookup_mem e1) (lookup_mem e2), hok _ _ _, fun o e => (nomatch e), fun p hp => ?_⟩, fun o e => (nomatch e)⟩
  have hrep : RepL s.heap (vs ++ dfl.drop (ds.length + dfl.length - f.ps.length)) (ds ++ ddfl) := hvs.append hdd
  obtain ⟨v, hv, r⟩ := zip_rep hrep hp
  rw [hbs] at hv
  refine ⟨v, ?_, r.kp hk₁⟩
  have hkind := List.all_eq_true.mp g4 p.1 (hfst _ hv)
  simp only [Bool.or_eq_true, beq_iff_eq] at hkind
  have hnd : (binds.map (·.1)).Nodup := by rw [hmap]; exact g6
  rcases hkind with hl | hc
  · exact .inl ⟨hl, _, x.toInCall.ns, bindL_get binds _ p.1 v hnd hl (.inl hv)⟩
  · obtain ⟨c, hc'⟩ := Option.isSome_iff_exists.mp (cellsFrom_some f.scope.names (s.heap.objs.size + 1) [] (.inl hc))
    refine .inr ⟨.inl hc, c, hc', ?_⟩
    have := x.cell p.1 c hc'
    rwa [bindC_get binds _ p.1 v hnd (by show f.scope.names.lookup p.1 ≠ _; rw [hc]; simp) (.inl hv)] at this

/-- what a call gives: nothing that stood is changed -/
def CallOK (C : W0) (n : Nat) (nm : Str) (ds : List D) (d : D) : Prop := ∀ ⦃A : Around⦄ ⦃s : Shared⦄ ⦃Q : Value → Shared → Prop⦄ ⦃E : Value → Shared → Prop⦄ ⦃a : Addr⦄ ⦃vs : List Value⦄,
  C.mg nm = some (.ref a) → Room n A → GW C s.heap → RepL s.heap vs ds → (∀ v s', Same s s' → Kp s.heap s'.heap → Rep s'.heap v d → Q v s') → wpAny (model C.prog C.w) A (call (.ref a) vs []) Q E s
theorem CallOK.of {C : W0} {f : Fd} {dfl : List Value} {ds ddfl : List D} {d : D} {n : Nat} (hd : DefAt C f dfl) (hdd : ∀ h, RepL h (dfl.drop (ds.length + dfl.length - f.ps.length)) ddfl) (h1 : ds.length ≤ f.ps.length) (h2 : f.ps.length ≤ ds.length + dfl.length)
    (h : ∀ {h₀ : Heap} {A : Around} {s : Shared} {L a : Addr} {cd : Value} {E : Value → Shared → Prop}, Room n A → EnvC (fEnv f L a cd) → EnvOk (fEnv f L a cd) → FS C h₀ (fEnv f L a cd) (f.ps.zip (ds ++ ddfl)) none s.heap →
      wpAny (model C.prog C.w) A (execs f.body (fEnv f L a cd)) (fun fl s' => ∃ v, fl = .ret v ∧ Same s s' ∧ Kp h₀ s'.heap ∧ Rep s'.heap v d) E s) : CallOK C (n + 1) f.name ds d := fun A s Q E a vs ha R G hvs k =>
  wpAny_call (call_def hd (by have := R.depth; omega) G hvs h1 h2 (hdd _) (fun L a cd s' ha' m _ F _ => wpAny_mono (h (R.deeper _) (fEnv_ok hd.good).2 (fEnv_ok hd.good).1 F) (fun fl s'' ⟨v, e, m', kp, r⟩ => by
    subst e; exact k v s'' (m.trans m') kp r) fun _ _ x => x) a ha)

section
variable {C : W0} {n : Nat} {env : Env} {ρ : Rho} {e : Expr} {pos p : Pos}

theorem name_global {x : Str} {v : Value} {A : Around} {s : Shared} {Q : Value → Shared → Prop} {E : Value → Shared → Prop} (ho : EnvOk env) (hm : C.mg x = some v) (G : GW C s.heap) (hk : env.kindOf x = some .globalImplicit) (hd : (x == ("__debug__" : Str)) = false) (h : Q v s) : wpAny (model C.prog C.w) A (eval (.Name x p) env) Q E s :=
  Name_function_global ho.k hk (loadGlobal_global (env := env) (by rw [ho.g]; exact G.g) hm h) hd

/-- a call of a def by its name -/
theorem Ev.call {f : Fd} {dfl : List Value} {es : List Expr} {ds : List D} {d : D} (ho : EnvOk env) (hd : DefAt C f dfl) (ha : EvL C n env ρ (e :: es) ds) (hc : CallOK C n f.name ds d) {x : Str} (hx : f.name = x := by rfl)
    (hk : env.kindOf x = some .globalImplicit := by rfl) (hs : starEach (e :: es) env = (e :: es).map fun e => (false, eval e env) := by rfl) (he : starEach (e :: es) env = (false, eval e env) :: starEach es env := by rfl) (hdb : (x == ("__debug__" : Str)) = false := by decide) :
    Ev C n env ρ (.Call (.Name x p) (e :: es) [] pos) d := fun A s Q E R G S k => by
  subst hx
  obtain ⟨a, oc, od, dV, kV, doc, pm, an, cdv, ct, osl, hma, hlo, _⟩ := hd.is
  refine wpAny_Call_NameR (name_global ho hma G hk hdb ?_)
  refine Calls.callWith_function (o := ⟨oc, od, .func (fnOf f.name f.name f.args f.body f.scope dV kV doc pm an cdv ct), osl⟩) (fd := fnOf f.name f.name f.args f.body f.scope dV kV doc pm an cdv ct) (args_of he (ha R G S fun vs s' m kp r => ⟨⟨(G.kp kp).X _ _ hlo, rfl⟩, ?_⟩))
  exact hc hma R (G.kp kp) r fun v s'' m' kp' r' => k v s'' (m.trans m') (kp.trans kp') r'
end
section
variable {C : W0} {n : Nat} {h₀ h₁ h h' : Heap} {env : Env} {ρ : Rho} {own : Option Own}

/-- a loop over the list held alone, which the body leaves as it is -/
theorem x_for_own {o : Own} {A : Around} {s : Shared} {Q : Flow → Shared → Prop} {E : Value → Shared → Prop} {tx : Str} {px pos q : Pos} {body : List Stmt} (hc : EnvC env) (F : FS C h₀ env ρ (some o) s.heap) (R : Room n A) {y : Str} (hy : o.x = y)
    (J : Nat → Rho → Prop) (hJ : J 0 ρ) (hx : tx ≠ o.x) (hlen : o.xs.length ≤ 100000)
    (hbody : ∀ i d ρ' h₁ s₁, o.xs[i]? = some d → J i ρ' → FS C h₁ env ((tx, .int d) :: dropN tx ρ') (some o) s₁.heap →
      ∀ E', wpAny (model C.prog C.w) A (execs body env) (fun fl s₂ => fl = .next ∧ Same s₁ s₂ ∧ ∃ ρ'', J (i + 1) ρ'' ∧ FS C h₁ env ρ'' (some o) s₂.heap) E' s₁)
    (k : ∀ ρ' s', J o.xs.length ρ' → Same s s' → FS C h₀ env ρ' (some o) s'.heap → Q .next s')
    (hk : Sto env tx := by first | exact .inl rfl | exact .inr ⟨rfl, rfl⟩) (hd1 : (y == ("__debug__" : Str)) = false := by decide) (hd2 : (y == ("__classdict__" : Str)) = false := by decide) :
    wpAny (model C.prog C.w) A (exec (.For (.Name tx px) (.Name y q) body [] pos) env) Q E s := by
  subst hy
  refine wpAny_For (eval_own F ?_ hd1 hd2) (by intro _; rfl)
  obtain ⟨g1, g2, g3, g4⟩ := F.own0 o rfl
  refine wpAny_pyIter_list g1 ?_
  have hlt : o.R < s.heap.objs.size := let ⟨ob, ho, _⟩ := g1; Heap.lt_size ho
  have hne : o.R ≠ s.heap.objs.size := Nat.ne_of_lt hlt
  have hsz : o.items.size = o.xs.length := by have := g2.length; simpa using this
  have W := Walks.list (prog := C.prog) (w := C.w) R.handled s.heap.objs.size o.R hne o.items
  rw [hsz] at W
  generalize hh0 : s.heap.push { cls := .type "list_iterator", data := .fields #[.ref o.R, .int 0 0] } = H0
  have kH0 : Kp s.heap H0 := by rw [← hh0]; exact Kp.push _ _
  have F₀ := F.kp kH0
  generalize hI : s.heap.objs.size = I at W hne ⊢
  have hInew : s.heap.get? I = none := by rw [← hI]; exact Heap.get?_none_of_le (Nat.le_refl _)
  have hI0 : h₀.get? I = none := none_kp F.keep hInew
  have hoI : ∃ ob, H0.get? I = some ob ∧ ∃ vs, ob.data = .fields vs := ⟨_, by rw [← hh0, ← hI]; exact Heap.get?_push_size _ rfl, _, rfl⟩
  have st0 : H0.IsListIter I o.R 0 ∧ H0.IsList o.R o.items := ⟨⟨_, by rw [← hh0, ← hI]; exact Heap.get?_push_size _ rfl, rfl, rfl⟩, g1.at fun ob e => kH0 _ ob e⟩
  have hIm : I ∉ mutl env (ownR (some o)) := by
    intro hm
    rcases mem_mutl.mp hm with q | ⟨x, hx⟩ | hr
    · obtain ⟨m, ob, es, ep, ho, hd, _⟩ := F.ns
      rw [← q, hInew] at ho; cases ho
    · obtain ⟨⟨v, ob, ho, hd⟩, _⟩ := F.cells x I (hc.nd x I hx)
      rw [hInew] at ho; cases ho
    · cases hr; obtain ⟨ob, ho, _⟩ := g1; rw [hInew] at ho; cases ho
  refine codeAny_forLoop (fun k s' => ∃ i ρ', Same s s' ∧ i ≤ o.xs.length ∧ k = o.xs.length + 1 - i ∧ (s'.heap.IsListIter I o.R i ∧ s'.heap.IsList o.R o.items) ∧ J i ρ' ∧ FS C h₀ env ρ' (some o) s'.heap) ?_ (o.xs.length + 1) ⟨0, ρ, ⟨rfl, rfl, rfl⟩, Nat.zero_le _, rfl, st0, hJ, F₀⟩
  rintro kk s₁ ⟨i, ρ', m₁, hi, rfl, st, hj, F₁⟩
  have hIf : ∃ ob, s₁.heap.get? I = some ob ∧ ∃ vs, ob.data = .fields vs := let ⟨⟨ob, ho, _, hd⟩, _⟩ := st; ⟨ob, ho, _, hd⟩
  rcases Nat.lt_or_ge i o.xs.length with hlt | hge
  · refine W.item i _ _ _ hlt st fun v h₂ tk₂ hP st₂ hk₂ => ?_
    have F₂ : FS C h₀ env ρ' (some o) h₂ := F₁.junk hI0 hIf fun b o hb e => hk₂ b o (fun q => hb (List.mem_singleton.mp q)) e
    have hv' : o.items.toList[i]? = some v := by simpa using hP
    obtain ⟨t, ht⟩ := g2.get i o.xs[i] (by simp [hlt])
    rw [hv'] at ht; cases ht
    obtain ⟨F₂', k₂'⟩ := F₂.up (l := mutl env (ownR (some o))) hc (fun b => Iff.rfl)
    refine wpAny_assign_Name (fs_store (d := .int o.xs[i]) (F₂' : FS C _ env ρ' (some o) ({ s₁ with heap := h₂, toks := tk₂ } : Shared).heap) rep_int (fun o' e => by cases e; exact hx) hk fun s₃ m₃ F₃ => ?_)
    refine wpAny_mono (hbody i _ ρ' _ s₃ (by simp [hlt]) hj F₃ _) (fun fl s₄ h4 => ?_) (fun _ _ x => x)
    obtain ⟨rfl, m₄, ρ'', hj', F₄⟩ := h4
    refine ⟨o.xs.length + 1 - (i + 1), by omega, i + 1, ρ'', (m₁.trans ⟨m₃.gens, m₃.drawn, m₃.os⟩).trans m₄, hlt, rfl, ⟨st₂.1.at fun ob e => F₄.keep I ob (hideAll_get _ e hIm), (F₄.own0 o rfl).1⟩, hj', F₄.down k₂' F.gw⟩
  · have e : i = o.xs.length := Nat.le_antisymm hi hge
    subst e
    refine W.done _ _ _ st fun h₂ tk₂ hk₂ => wpAny_execs_nil ?_
    exact k _ _ hj (m₁.trans ⟨rfl, rfl, rfl⟩) (F₁.junk hI0 hIf fun b o hb e => hk₂ b o (fun q => hb (List.mem_singleton.mp q)) e)

/-- a while, by the number of turns that are left -/
theorem x_while {A : Around} {s : Shared} {Q : Flow → Shared → Prop} {E : Value → Shared → Prop} {pos : Pos} {test : Expr} {body : List Stmt} (F : FS C h₀ env ρ own s.heap) (R : Room n A)
    (J : Nat → Rho → Option Own → Prop) (N : Nat) (hJ : J N ρ own)
    (hbody : ∀ i ρ' own' s₁, J (i + 1) ρ' own' → FS C h₀ env ρ' own' s₁.heap → Ts C n env (vis ρ' own') test true ∧
      ∀ s₂ E', Same s₁ s₂ → FS C h₀ env ρ' own' s₂.heap → wpAny (model C.prog C.w) A (execs body env) (fun fl s₃ => fl = .next ∧ Same s₂ s₃ ∧ ∃ ρ'' own'', J i ρ'' own'' ∧ FS C h₀ env ρ'' own'' s₃.heap) E' s₂)
    (hend : ∀ ρ' own', J 0 ρ' own' → Ts C n env (vis ρ' own') test false)
    (k : ∀ ρ' own' s', J 0 ρ' own' → Same s s' → FS C h₀ env ρ' own' s'.heap → Q .next s') :
    wpAny (model C.prog C.w) A (exec (.While test body [] pos) env) Q E s := by
  refine wpAny_While ?_
  refine codeAny_whileLoop (fun k s' => ∃ ρ' own', Same s s' ∧ J k ρ' own' ∧ FS C h₀ env ρ' own' s'.heap) ?_ N ⟨ρ, own, Same.rfl' _, hJ, F⟩
  rintro i s₁ ⟨ρ', own', m₁, hj, F₁⟩
  cases i with
  | zero =>
    refine hend _ _ hj R F₁.gwh F₁.see fun s₂ m₂ k₂ => ?_
    simp only [Bool.false_eq_true, if_false]
    exact wpAny_execs_nil (k _ _ _ hj (m₁.trans m₂) (F₁.kp k₂))
  | succ i =>
    obtain ⟨ht, hb⟩ := hbody i ρ' own' s₁ hj F₁
    refine ht R F₁.gwh F₁.see fun s₂ m₂ k₂ => ?_
    simp only [if_true]
    refine wpAny_mono (hb s₂ _ m₂ (F₁.kp k₂)) (fun fl s₃ h3 => ?_) fun _ _ x => x
    obtain ⟨rfl, m₃, ρ'', own'', hj', F₃⟩ := h3
    exact ⟨i, Nat.lt_succ_self _, ρ'', own'', (m₁.trans m₂).trans m₃, hj', F₃⟩

/-- a block's names go away -/
theorem FS.junkD (F : FS C h₀ env ρ own h) {I : Addr} (hI : h₀.get? I = none) (hd : ∃ m, h.Ns I m) (hL : I ≠ env.locals) (hs : Heap.SameBut I h h') : FS C h₀ env ρ own h' := by
  obtain ⟨m, oI, es, ep, hoI, hdI, _⟩ := hd
  have ns : ∀ {m}, h.Ns env.locals m → h'.Ns env.locals m := fun hn => hn.sameBut hs (Ne.symm hL)
  have cne : ∀ {c v}, h.IsCell c v → c ≠ I := fun {c v} ⟨o, ho, hd⟩ => by rintro rfl; rw [hoI] at ho; cases ho; rw [hdI] at hd; cases hd
  have cell : ∀ {c v}, h.IsCell c v → h'.IsCell c v := fun {c v} hc => let ⟨o, ho, hd⟩ := hc; ⟨o, (hs.2 c (cne hc)).trans ho, hd⟩
  have var : ∀ {x v}, Var env h x v → Var env h' x v := fun {x v} hv => by
    rcases hv with ⟨e, m, hn, hm⟩ | ⟨e, c, hc, hi⟩
    · exact .inl ⟨e, m, ns hn, hm⟩
    · exact .inr ⟨e, c, hc, cell hi⟩
  have kps : Kps (hid own h) (hid own h') := kps_hid hoI (fun xs k q => by rw [hdI] at q; cases q) hs
  refine ⟨⟨fun b o e => (hs.2 b (by rintro rfl; rw [hI] at e; cases e)).trans (F.keep b o e), F.gw, let ⟨m, x⟩ := F.ns; ⟨m, ns x⟩, F.newL, fun x c e => ⟨let ⟨v, x⟩ := (F.cells x c e).1; ⟨v, cell x⟩, (F.cells x c e).2⟩, F.inj, F.ok, fun o e => ?_, fun p hp => let ⟨v, a, b⟩ := F.sees p hp; ⟨v, var a, b.kps kps⟩⟩, fun o e => ⟨var (F.var o e).1, (F.var o e).2⟩⟩
  obtain ⟨⟨ob, ho, hc, nn, hd⟩, b, c, d⟩ := F.own0 o e
  have hne : o.R ≠ I := by rintro q; rw [q, hoI] at ho; cases ho; rw [hdI] at hd; cases hd
  exact ⟨⟨ob, (hs.2 _ hne).trans ho, hc, nn, hd⟩, b, c, fun q => (d q).at fun ob e => (hs.2 _ hne).trans e⟩

/-- «x = [..]» where the store stands within the block -/
theorem x_swap {xs : List D} (pr : D → Bool) (f : D → D) {A : Around} {s : Shared} {Q : Flow → Shared → Prop} {E : Value → Shared → Prop} {elt iter : Expr} {x tx : Str} {p px pos spos : Pos} {ifs : List Expr} {scope : Scope}
    (F : FS C h₀ env ρ own s.heap) (R : Room n A) (hIt : It C n env (vis ρ own) iter xs)
    (htest : ∀ y ∈ xs, ∀ C₀, TestsOk C n (cEnv scope env C₀) ((tx, y) :: into scope (vis ρ own)) ifs (pr y))
    (helt : ∀ y ∈ xs, pr y = true → ∀ C₀, EvN C n (cEnv scope env C₀) ((tx, y) :: into scope (vis ρ own)) elt (f y))
    (hf : ∀ y, (f y).flat = true) (hx : ∀ o, own = some o → x ≠ o.x)
    (k : ∀ s', Same s s' → FS C h₀ env ((x, .list ((xs.filter pr).map f)) :: dropN x ρ) own s'.heap → Q .next s')
    (hk : Sto env x := by first | exact .inl rfl | exact .inr ⟨rfl, rfl⟩) (hsw : swapsWith (.ListComp elt [⟨.Name tx px, iter, ifs, 0⟩] scope pos) (some (.Name x p)) spos.line env = pure true := by rfl)
    (hcm : compOk scope env = true := by rfl) (htx : scope.names.lookup tx = some .local ∨ scope.names.lookup tx = some .cell := by first | exact .inl rfl | exact .inr rfl)
    (hs : ∀ x, foldedSetIterable iter env x = pure x := by intro _; rfl) :
    wpAny (model C.prog C.w) A (exec (.Assign [.Name x p] (.ListComp elt [⟨.Name tx px, iter, ifs, 0⟩] scope pos) spos) env) Q E s := by
  rw [exec_Assign_Name_used _ _ _ _ hsw]
  refine wpAny_bind (wpAny_standAt (wpAny_bind ?_))
  show wpAny _ A (do let _ ← comprehension (.ListComp elt [⟨.Name tx px, iter, ifs, 0⟩] scope pos) scope env _ (newList []) false (eval iter env) (some (assign (.Name x p) env))) _ _ s
  refine wpAny_bind (wpAny_mono (comp_run (use := some (assign (.Name x p) env)) (Q := fun _ s' => Q .next s') (p := pr) (f := f) F.ok hcm htx hIt htest helt hs R F.gwh F.see fun Dd C₀ s₁ ys m₁ k₁ hD hC hDC hns hl hys => ?_) (fun _ s' hq => wpAny_pure (wpAny_pure hq)) fun _ _ e => e)
  show wpAny _ A (assign (.Name x p) env (.ref Dd)) _ _ _
  obtain ⟨mC, hns⟩ := hns
  have F₁ := F.kp k₁
  have hCL : C₀ ≠ env.locals := by
    rintro rfl
    obtain ⟨m, o, es, ep, ho, _⟩ := F.ns
    rw [hC] at ho; cases ho
  have hflat : ((xs.filter pr).map f).all D.flat = true := List.all_eq_true.mpr fun d hd => by obtain ⟨y, _, rfl⟩ := List.mem_map.mp hd; exact hf y
  have hrep : Rep (hid own s₁.heap) (.ref Dd) (.list ((xs.filter pr).map f)) := by
    refine rep_list (hl.at fun o e => ?_) (hys.repL.flat _ hflat)
    cases own with
    | none => exact e
    | some w =>
      have hne : Dd ≠ w.R := by
        rintro rfl
        obtain ⟨⟨ob, ho, _⟩, _⟩ := F.own0 w rfl
        rw [hD] at ho; cases ho
      show (s₁.heap.hide w.R).get? Dd = some o
      rw [Heap.hide_ne _ hne]; exact e
  refine wpAny_assign_Name (fs0_store F₁.toFS0 hk fun s₂ m₂ F₂ hv hoth kps ⟨a, sl, hsa⟩ => ?_)
  have F₂' : FS C h₀ env ((x, .list ((xs.filter pr).map f)) :: dropN x ρ) own s₂.heap := by
    refine ⟨{ F₂ with sees := ?_ }, fun o e => ⟨hoth _ _ (Ne.symm (hx o e)) (F₁.var o e).1, fun p hp => ?_⟩⟩
    · intro p hp
      rcases List.mem_cons.mp hp with rfl | hp
      · exact ⟨_, hv, hrep.kps kps⟩
      · exact F₂.sees p hp
    · rcases List.mem_cons.mp hp with rfl | hp
      · exact hx o e
      · exact (F₁.var o e).2 p (mem_dropN.mp hp).1
  have hCa : C₀ ≠ a := by
    rcases sl.is with ⟨_, rfl⟩ | ⟨_, hc⟩
    · exact hCL
    · rintro rfl
      obtain ⟨⟨v, o, ho, _⟩, _⟩ := F.cells x _ hc
      rw [hC] at ho; cases ho
  have hns₂ := hns.sameBut hsa hCa
  refine ⟨mC, hns₂, fun h' hs' => ?_⟩
  exact k _ ((m₁.trans m₂).trans ⟨rfl, rfl, rfl⟩) (F₂'.junkD (none_kp F.keep hC) ⟨mC, hns₂⟩ hCL hs')
end
section
variable {C : W0} {n : Nat} {env : Env} {ρ : Rho} {own : Option Own} {e e₁ e₂ : Expr} {d d' : D} {pos p : Pos}
theorem Ev.cast (h : Ev C n env ρ e d) (q : d = d') : Ev C n env ρ e d' := q ▸ h
theorem EvN.cast (h : EvN C n env ρ e d) (q : d = d') : EvN C n env ρ e d' := q ▸ h
theorem EvF.cast {xs ys : List Int} (h : EvF C n env ρ e xs) (q : xs = ys) : EvF C n env ρ e ys := q ▸ h
theorem Ts.cast {b b' : Bool} (h : Ts C n env ρ e b) (q : b = b') : Ts C n env ρ e b' := q ▸ h
theorem It.cast {xs ys : List D} (h : It C n env ρ e xs) (q : xs = ys) : It C n env ρ e ys := q ▸ h
theorem ItO.cast {xs ys : List D} (h : ItO C n env ρ own e xs) (q : xs = ys) : ItO C n env ρ own e ys := q ▸ h
theorem mem_drop1 {x y : Str} {d : D} {ρ : Rho} (h : (x, d) ∈ ρ) (hn : (x != y) = true) : (x, d) ∈ dropN y ρ := List.mem_filter.mpr ⟨h, hn⟩

theorem boot_len : bootBuiltins "len" = some (.builtin "len") := by decide +kernel
theorem boot_abs' : bootBuiltins "abs" = some (.builtin "abs") := by decide +kernel
theorem boot_list' : bootBuiltins "list" = some (.type "list") := by decide +kernel
theorem boot_int' : bootBuiltins "int" = some (.type "int") := by decide +kernel
theorem boot_sum' : bootBuiltins "sum" = some (.builtin "sum") := by decide +kernel
theorem boot_max' : bootBuiltins "max" = some (.builtin "max") := by decide +kernel
theorem boot_sorted' : bootBuiltins "sorted" = some (.builtin "sorted") := by decide +kernel

theorem Ev.len {xs : List D} (ho : EnvOk env) (h : Ev C n env ρ e (.list xs)) (hl : xs.length ≤ 100000)
    (hk : env.kindOf "len" = some .globalImplicit := by rfl) (hs : starEach [e] env = [e].map fun e => (false, eval e env) := by rfl) (he : starEach [e] env = (false, eval e env) :: starEach [] env := by rfl) :
    Ev C n env ρ (.Call (.Name "len" p) [e] [] pos) (.int xs.length) := Ev.fn ho (by decide) boot_len (.inl ⟨_, rfl⟩) (EvL.cons h EvL.nil he) (FnOk.len hl) hk hs he
theorem Ev.sum {xs : List Int} (ho : EnvOk env) (h : Ev C n env ρ e (intsD xs)) (hl : Nn xs)
    (hk : env.kindOf "sum" = some .globalImplicit := by rfl) (hs : starEach [e] env = [e].map fun e => (false, eval e env) := by rfl) (he : starEach [e] env = (false, eval e env) :: starEach [] env := by rfl) :
    Ev C n env ρ (.Call (.Name "sum" p) [e] [] pos) (.int xs.sum) := Ev.fn ho (by decide) boot_sum' (.inl ⟨_, rfl⟩) (EvL.cons h EvL.nil he) (FnOk.sum hl) hk hs he
theorem Ev.max {xs : List Int} (ho : EnvOk env) (h : Ev C n env ρ e (intsD xs)) (hl : 0 < xs.length)
    (hk : env.kindOf "max" = some .globalImplicit := by rfl) (hs : starEach [e] env = [e].map fun e => (false, eval e env) := by rfl) (he : starEach [e] env = (false, eval e env) :: starEach [] env := by rfl) :
    Ev C n env ρ (.Call (.Name "max" p) [e] [] pos) (.int (lmax xs)) := Ev.fn ho (by decide) boot_max' (.inl ⟨_, rfl⟩) (EvL.cons h EvL.nil he) (FnOk.max hl) hk hs he
theorem Ev.sorted {xs : List Int} (ho : EnvOk env) (h : Ev C n env ρ e (intsD xs)) (hl : xs.length < 64)
    (hk : env.kindOf "sorted" = some .globalImplicit := by rfl) (hs : starEach [e] env = [e].map fun e => (false, eval e env) := by rfl) (he : starEach [e] env = (false, eval e env) :: starEach [] env := by rfl) :
    Ev C n env ρ (.Call (.Name "sorted" p) [e] [] pos) (intsD (srt xs)) := Ev.fn ho (by decide) boot_sorted' (.inl ⟨_, rfl⟩) (EvL.cons h EvL.nil he) (FnOk.sorted hl) hk hs he
theorem Ev.listC {xs : List D} (ho : EnvOk env) (h : Ev C n env ρ e (.list xs)) (hl : xs.length ≤ 1000)
    (hk : env.kindOf "list" = some .globalImplicit := by rfl) (hs : starEach [e] env = [e].map fun e => (false, eval e env) := by rfl) (he : starEach [e] env = (false, eval e env) :: starEach [] env := by rfl) :
    Ev C n env ρ (.Call (.Name "list" p) [e] [] pos) (.list xs) := Ev.fn ho (by decide) boot_list' (.inr ⟨_, rfl⟩) (EvL.cons h EvL.nil he) (FnOk.list hl) hk hs he
theorem Ev.intI {i : Int} (ho : EnvOk env) (h : Ev C n env ρ e (.int i))
    (hk : env.kindOf "int" = some .globalImplicit := by rfl) (hs : starEach [e] env = [e].map fun e => (false, eval e env) := by rfl) (he : starEach [e] env = (false, eval e env) :: starEach [] env := by rfl) :
    Ev C n env ρ (.Call (.Name "int" p) [e] [] pos) (.int i) := Ev.fn ho (by decide) boot_int' (.inr ⟨_, rfl⟩) (EvL.cons h EvL.nil he) FnOk.int hk hs he
theorem Ev.intB {b : Bool} (ho : EnvOk env) (h : Ev C n env ρ e (.bool b))
    (hk : env.kindOf "int" = some .globalImplicit := by rfl) (hs : starEach [e] env = [e].map fun e => (false, eval e env) := by rfl) (he : starEach [e] env = (false, eval e env) :: starEach [] env := by rfl) :
    Ev C n env ρ (.Call (.Name "int" p) [e] [] pos) (.int (if b then 1 else 0)) := Ev.fn ho (by decide) boot_int' (.inr ⟨_, rfl⟩) (EvL.cons h EvL.nil he) FnOk.intB hk hs he
theorem Ev.absI {i : Int} (ho : EnvOk env) (h : Ev C n env ρ e (.int i))
    (hk : env.kindOf "abs" = some .globalImplicit := by rfl) (hs : starEach [e] env = [e].map fun e => (false, eval e env) := by rfl) (he : starEach [e] env = (false, eval e env) :: starEach [] env := by rfl) :
    Ev C n env ρ (.Call (.Name "abs" p) [e] [] pos) (.int i.natAbs) := Ev.fn ho (by decide) boot_abs' (.inl ⟨_, rfl⟩) (EvL.cons h EvL.nil he) FnOk.abs hk hs he

/-- an item of a list of ints -/
theorem Ev.itemI {xs : List Int} {k : Int} (h₁ : Ev C n env ρ e₁ (intsD xs)) (h₂ : Ev C n env ρ e₂ (.int k)) (h0 : 0 ≤ k) (h1 : k < xs.length) (hl : xs.length ≤ 100000)
    (hs : ∀ o i, subscripted e₂ false o i = operate [o, i] (getItem o i) := by intro _ _; rfl) : Ev C n env ρ (.Subscript e₁ e₂ pos) (.int (xs.getD k.toNat 0)) :=
  Ev.item h₁ h₂ h0 (by omega) (by
    have hlt : k.toNat < xs.length := by omega
    simp [List.getD, hlt]) hs
end
/-- the frames around, so that an exception may pass -/
structure Fl (base : Heap) (outer : List Env) (env : Env) (A : Around) (h₀ : Heap) : Prop where
  stack : A.frames = some (env :: outer)
  stays : Kp base h₀
  frames : h₀.FunFrames base outer
  fr : env.frame = some env.locals

abbrev bmEx : List Value := [.type "Exception", .type "BaseException", .type "object"]
/-- the text's own class of exceptions -/
def TieCls (C : W0) (Ct : Addr) : Prop := ∀ h, GW C h → OwnCls "TiesException" Ct bmEx "Exception.__new__" C.mg h

section
variable {C : W0} {n : Nat} {h₀ h h' base : Heap} {outer : List Env} {env : Env} {ρ : Rho} {own : Option Own} {A : Around} {s : Shared} {e : Expr} {Ct : Addr}

theorem Fl.at (f : Fl base outer env A h₀) (F : FS C h₀ env ρ own h) : base.StaysIn h ∧ h.FunFrames base (env :: outer) := by
  refine ⟨f.stays.trans F.keep, ?_⟩
  obtain ⟨m, o, es, ep, ho, hd, r⟩ := F.ns
  refine ⟨by rw [F.ok.k]; decide, ⟨env.locals, o, f.fr, none_kp f.stays F.newL, ho, fun vs q => by rw [hd] at q; cases q⟩, f.frames.of_keeps fun b o e _ => ⟨o, F.keep b o e, rfl⟩⟩

/-- the frame is left by what was raised in it -/
theorem leave_made {a : Addr} {cls : Value} {vs : List Value} {s' : Shared} {Q : Unit → Shared → Prop} {E : Value → Shared → Prop} (f : Fl base outer env A h₀) (F : FS C h₀ env ρ own h) (hx : Heap.MadeExcOf h s'.heap a cls vs)
    (k : ∀ h' t, Heap.FlyingW base outer a cls (.ref t) h' → h₀.UpToSlots h' → Q () { s' with heap := h' }) : wpAny (model C.prog C.w) A (leaving env (.ref a)) Q E s' := by
  obtain ⟨st, fr⟩ := f.at F
  exact wpAny_leaves_madeW f.stack f.fr st fr hx fun h' t x1 _ _ x4 => k h' t x1 ((Heap.UpToSlots.of_keeps (F.keep.trans hx.keeps)).trans x4)

abbrev Leave (C : W0) (A : Around) (env : Env) (RE : Value → Shared → Prop) : Value → Shared → Prop := fun e s'' => wpAny (model C.prog C.w) A (leaving env e) (fun _ s3 => RE e s3) (fun e' s3 => RE e' s3) s''

theorem x_raiseN {x : Str} {np cpos pos : Pos} {Q : Flow → Shared → Prop} {RE : Value → Shared → Prop} (F : FS C h₀ env ρ own s.heap) (R : Room n A) (f : Fl base outer env A h₀) (he : Ev C n env (vis ρ own) e (.str x))
    (k : ∀ a t s', Same s s' → Heap.FlyingW base outer a (.type "NotImplementedError") (.ref t) s'.heap → h₀.UpToSlots s'.heap → RE (.ref a) s')
    (hk : env.kindOf "NotImplementedError" = some .globalImplicit := by rfl) (hse : starEach [e] env = (false, eval e env) :: starEach [] env := by rfl) :
    wpAny (model C.prog C.w) A (exec (.Raise (some (.Call (.Name "NotImplementedError" np) [e] [] cpos)) none pos) env) Q (Leave C A env RE) s := by
  refine Raise_madeB PySem.F.excCall_NotImplementedError PySem.F.excRaise_NotImplementedError R.handled ?_ hse rfl
  refine Name_function_global F.ok.k hk (loadGlobal_builtin (env := env) (by rw [F.ok.g]; exact F.gwh.g) (F.gw.nb _ (by decide)) (by rw [F.ok.b]; exact F.gwh.b) ((F.gw.bi _ (by decide)).trans (show bootBuiltins "NotImplementedError" = some (.type "NotImplementedError") by decide +kernel)) ⟨rfl, ?_⟩) (by decide)
  refine (EvL.cons he EvL.nil hse) R F.gwh F.see fun vs s₂ m₂ k₂ r => ⟨by rw [r.length]; exact Nat.le_of_ble_eq_true rfl, fun h' a hx => ?_⟩
  exact leave_made f (F.kp k₂) (Heap.MadeExc.of hx) fun h'' t x1 x2 => k a t _ (m₂.trans ⟨rfl, rfl, rfl⟩) x1 x2

theorem x_raiseT {x : Str} {np cpos pos : Pos} {Q : Flow → Shared → Prop} {RE : Value → Shared → Prop} (hT : TieCls C Ct) (F : FS C h₀ env ρ own s.heap) (R : Room n A) (f : Fl base outer env A h₀) (he : Ev C n env (vis ρ own) e (.str x))
    (k : ∀ a t s', Same s s' → Heap.FlyingW base outer a (.ref Ct) (.ref t) s'.heap → h₀.UpToSlots s'.heap → RE (.ref a) s')
    (hk : env.kindOf "TiesException" = some .globalImplicit := by rfl) (hse : starEach [e] env = (false, eval e env) :: starEach [] env := by rfl) :
    wpAny (model C.prog C.w) A (exec (.Raise (some (.Call (.Name "TiesException" np) [e] [] cpos)) none pos) env) Q (Leave C A env RE) s := by
  have O := hT _ F.gwh
  obtain ⟨tl, N, nm, q, bs, hdct, sn, sub, ab, col, dd, k0, k1, k2, k3, k5, mN, hC, hN, hni, T⟩ := O.obj
  refine wpAny_Raise_call_subT (C := Ct) (nm := nm) (q := q) (N := N) (bs := bs) (bm := tl) (hdct := hdct) (sn := sn) (sub := sub) (ab := ab) (col := col) (dd := dd) (k0 := k0) (k1 := k1) (k2 := k2) (k3 := k3) (k5 := k5)
    PySem.F.excBase_Exception (mN := mN) (T.hasType PySem.F.excBase_Exception.hasBase) R.handled (by rw [hse]; rfl) hni ?_
  refine name_global F.ok O.bound F.gwh hk (by decide) ⟨rfl, ?_⟩
  have h1 := (EvL.cons he EvL.nil hse : EvL C n env (vis ρ own) [e] [.str x])
  rw [hse]
  refine Calls.evalArgs_plain ?_
  have h2 : wpAny (model C.prog C.w) A (spliced (backTo cpos (starEach [e] env))) (fun vs s₂ => Same s s₂ ∧ Kp s.heap s₂.heap ∧ vs.length ≤ sizeLine) (Leave C A env RE) s := h1 R F.gwh F.see fun vs s₂ m₂ k₂ r => ⟨m₂, k₂, by rw [r.length]; exact Nat.le_of_ble_eq_true rfl⟩
  rw [hse] at h2
  refine wpAny_mono h2 (fun vs s₂ ⟨m₂, k₂, hl⟩ => ⟨rfl, hl, k₂ _ _ hC, hN.keeps k₂, T.keeps k₂, fun h' a hx => ?_⟩) fun _ _ y => y
  exact leave_made f (F.kp k₂) hx fun h'' t x1 x2 => k a t _ (m₂.trans ⟨rfl, rfl, rfl⟩) x1 x2

/-- a call that raises -/
def CallX (C : W0) (n : Nat) (nm : Str) (ds : List D) (cls : Value) : Prop := ∀ ⦃A : Around⦄ ⦃s : Shared⦄ ⦃R : Result → Shared → Prop⦄ ⦃a : Addr⦄ ⦃vs : List Value⦄ ⦃base : Heap⦄ ⦃outer : List Env⦄,
  C.mg nm = some (.ref a) → Room n A → GW C s.heap → RepL s.heap vs ds → A.frames = some outer → Kp base s.heap → s.heap.FunFrames base outer →
    (∀ e t s', Same s s' → Heap.FlyingW base outer e cls (.ref t) s'.heap → s.heap.UpToSlots s'.heap → R (.error (.ref e)) s') → codeAny (model C.prog C.w) A (.call (.ref a) ⟨vs, []⟩) R s
theorem CallX.of {f : Fd} {dfl : List Value} {ds ddfl : List D} {cls : Value} (hd : DefAt C f dfl) (hdd : ∀ h, RepL h (dfl.drop (ds.length + dfl.length - f.ps.length)) ddfl) (h1 : ds.length ≤ f.ps.length) (h2 : f.ps.length ≤ ds.length + dfl.length)
    (h : ∀ {h₀ : Heap} {A : Around} {s : Shared} {L a : Addr} {cd : Value} {base : Heap} {outer : List Env} {RE : Value → Shared → Prop}, Room n A → EnvC (fEnv f L a cd) → EnvOk (fEnv f L a cd) → FS C h₀ (fEnv f L a cd) (f.ps.zip (ds ++ ddfl)) none s.heap → Fl base outer (fEnv f L a cd) A h₀ →
      (∀ e t s', Same s s' → Heap.FlyingW base outer e cls (.ref t) s'.heap → h₀.UpToSlots s'.heap → RE (.ref e) s') →
      wpAny (model C.prog C.w) A (execs f.body (fEnv f L a cd)) (fun fl s' => False) (Leave C A (fEnv f L a cd) RE) s) : CallX C (n + 1) f.name ds cls := fun A s R a vs base outer ha rm G hvs hA hkb hfr k =>
  call_def hd (by have := rm.depth; omega) G hvs h1 h2 (hdd _) (fun L a cd s' ha' m _ F _ => wpAny_mono (h (RE := fun e s3 => R (.error e) s3) (base := base) (outer := outer) (rm.deeper _) (fEnv_ok hd.good).2 (fEnv_ok hd.good).1 F ⟨Around.frames_deeper hA, hkb, hfr, rfl⟩ fun e t s' m' x1 x2 => k e t s' (m.trans m') x1 x2)
    (fun fl s'' x => x.elim) fun _ _ x => x) a ha

/-- the call of a def that raises, in a return -/
theorem x_ret_callX {f : Fd} {dfl : List Value} {es : List Expr} {ds : List D} {cls : Value} {p pos pos' : Pos} {Q : Flow → Shared → Prop} {RE : Value → Shared → Prop} (F : FS C h₀ env ρ own s.heap) (R : Room n A) (fl : Fl base outer env A h₀) (hd : DefAt C f dfl) (ha : EvL C n env (vis ρ own) (e :: es) ds) (hc : CallX C n f.name ds cls) {x : Str} (hx : f.name = x)
    (k : ∀ a t s', Same s s' → Heap.FlyingW base outer a cls (.ref t) s'.heap → h₀.UpToSlots s'.heap → RE (.ref a) s')
    (hk : env.kindOf x = some .globalImplicit := by rfl) (hs : starEach (e :: es) env = (e :: es).map fun e => (false, eval e env) := by rfl) (he : starEach (e :: es) env = (false, eval e env) :: starEach es env := by rfl) (hdb : (x == ("__debug__" : Str)) = false := by decide) :
    wpAny (model C.prog C.w) A (exec (.Return (some (.Call (.Name x p) (e :: es) [] pos)) pos') env) Q (Leave C A env RE) s := by
  subst hx
  obtain ⟨a, oc, od, dV, kV, doc, pm, an, cdv, ct, osl, hma, hlo, _⟩ := hd.is
  refine wpAny_Return_some (wpAny_Call_NameR (name_global F.ok hma F.gwh hk hdb ?_))
  refine Calls.callWith_function (o := ⟨oc, od, .func (fnOf f.name f.name f.args f.body f.scope dV kV doc pm an cdv ct), osl⟩) (fd := fnOf f.name f.name f.args f.body f.scope dV kV doc pm an cdv ct) (args_of he (ha R F.gwh F.see fun vs s' m kp r => ⟨⟨(F.gwh.kp kp).X _ _ hlo, rfl⟩, ?_⟩))
  have F' := F.kp kp
  obtain ⟨st, fr⟩ := fl.at F'
  refine wpAny_call (hc hma R F'.gwh r fl.stack st fr fun a' t s'' m' x1 x2 => ?_)
  exact wpAny_leaves_onW fl.stack fl.fr x1 fun h3 x3 x4 => k a' t _ ((m.trans m').trans ⟨rfl, rfl, rfl⟩) x3 ((Heap.UpToSlots.of_keeps F'.keep).trans (x2.trans x4))

/-- an exception that arrives at its clause: the clause's suite runs -/
theorem land {a : Addr} {cls a0 : Value} {t : Expr} {b₀ : Stmt} {suite : List Stmt} {pos : Pos} {rest : List ExceptHandler} {s' : Shared} {Q : Flow → Shared → Prop} {E : Value → Shared → Prop} (hA : A.frames = some (env :: outer)) (hfr : env.frame = some env.locals)
    (hx : Heap.FlyingW base (env :: outer) a cls a0 s'.heap)
    (ht : ∀ s₁ A' E', Kp base s₁.heap → s'.heap.UpToSlots s₁.heap → (∃ ob, s₁.heap.get? a = some ob ∧ ob.cls = cls) → wpAny (model C.prog C.w) A' (eval t env) (fun c s₂ => wpAny (model C.prog C.w) A' (excMatches (.ref a) c) (fun b s₃ => b = true ∧ s₃ = s₁) E' s₂) E' s₁)
    (k : ∀ s₁ A' E', Same s' s₁ → Kp base s₁.heap → s'.heap.UpToSlots s₁.heap → wpAny (model C.prog C.w) A' (execs (b₀ :: suite) env) Q E' s₁) :
    wpAny (model C.prog C.w) A (noteFrame (.ref a) env) (fun _ s₂ => wpAny (model C.prog C.w) A (setFlight (.ref a) none) (fun _ s₃ => wpAny (model C.prog C.w) A (handleBy (.ref a) env (.ExceptHandler (some t) none (b₀ :: suite) pos :: rest)) Q E s₃) E s₂) E s' := by
  refine wpAny_looks_onW hA hfr hx fun h₄ hheld₄ hsm₄ => ?_
  refine wpAny_landsW hheld₄ fun h₅ hheld hsm₅' => ?_
  have hsm₅ := hsm₄.trans hsm₅'
  refine wpAny_handleBy_cons (codeAny_handlers_test (wpAny_mono (ht _ _ (notedBy (model C.prog C.w) (A.mark (some (.ref a))) env fun x s₁ => cameBackBy (model C.prog C.w) A env E x s₁) hheld.1 hsm₅ hheld.there) (fun c s₂ h2 => wpAny_mono h2 (fun b s₃ hb => ?_) fun _ _ y => y) fun _ _ y => y)) (by intro q; cases q)
  obtain ⟨rfl, rfl⟩ := hb
  refine codeAny_handlers_suite ?_
  refine lands_againW hheld fun h₆ hfl₆ hsm₆ => ?_
  exact k _ _ _ ⟨rfl, rfl, rfl⟩ hfl₆.1 (hsm₅.trans hsm₆)
end
/-! comprehensions over what a list of anything stands for -/
open Classical in
noncomputable def back {α : Type} (g f : α → D) (d : D) : D := if h : ∃ x, g x = d then f (Classical.choose h) else .none
open Classical in
noncomputable def backP {α : Type} (g : α → D) (q : α → Bool) (d : D) : Bool := if h : ∃ x, g x = d then q (Classical.choose h) else false
theorem back_eq {α : Type} {g f : α → D} (hg : ∀ x y, g x = g y → x = y) (x : α) : back g f (g x) = f x := by
  unfold back
  rw [dif_pos ⟨x, rfl⟩]
  have h : ∃ y, g y = g x := ⟨x, rfl⟩
  exact congrArg f (hg _ _ (Classical.choose_spec h))
theorem backP_eq {α : Type} {g : α → D} {q : α → Bool} (hg : ∀ x y, g x = g y → x = y) (x : α) : backP g q (g x) = q x := by
  unfold backP
  rw [dif_pos ⟨x, rfl⟩]
  have h : ∃ y, g y = g x := ⟨x, rfl⟩
  exact congrArg q (hg _ _ (Classical.choose_spec h))
theorem back_flat {α : Type} {g f : α → D} (hf : ∀ x, (f x).flat = true) (d : D) : (back g f d).flat = true := by
  unfold back; split
  · exact hf _
  · rfl
theorem back_map {α : Type} {g f : α → D} {q : α → Bool} (hg : ∀ x y, g x = g y → x = y) (xs : List α) : ((xs.map g).filter (backP g q)).map (back g f) = (xs.filter q).map f := by
  rw [List.filter_map, List.map_map]
  have e1 : (backP g q ∘ g) = q := funext fun x => backP_eq hg x
  have e2 : (back g f ∘ g) = f := funext fun x => back_eq hg x
  rw [e1, e2]

section
variable {C : W0} {n : Nat} {h₀ : Heap} {env : Env} {ρ : Rho} {own : Option Own} {α : Type} {xs : List α}
theorem Ev.compF (g f : α → D) (q : α → Bool) {elt iter : Expr} {tx : Str} {px : Pos} {ifs : List Expr} {scope : Scope} {pos : Pos}
    (ho : EnvOk env) (hg : ∀ x y, g x = g y → x = y) (hIt : It C n env ρ iter (xs.map g))
    (htest : ∀ x ∈ xs, ∀ C₀, TestsOk C n (cEnv scope env C₀) ((tx, g x) :: into scope ρ) ifs (q x))
    (helt : ∀ x ∈ xs, q x = true → ∀ C₀, EvN C n (cEnv scope env C₀) ((tx, g x) :: into scope ρ) elt (f x))
    (hc : compOk scope env = true := by rfl) (htx : scope.names.lookup tx = some .local ∨ scope.names.lookup tx = some .cell := by first | exact .inl rfl | exact .inr rfl)
    (hs : ∀ x, foldedSetIterable iter env x = pure x := by intro _; rfl) :
    Ev C n env ρ (.ListComp elt [⟨.Name tx px, iter, ifs, 0⟩] scope pos) (.list ((xs.filter q).map f)) :=
  Ev.cast (Ev.comp (backP g q) (back g f) ho hIt
    (fun d hd C₀ => by obtain ⟨x, hx, rfl⟩ := List.mem_map.mp hd; rw [backP_eq hg]; exact htest x hx C₀)
    (fun d hd hp C₀ => by obtain ⟨x, hx, rfl⟩ := List.mem_map.mp hd; rw [backP_eq hg] at hp; rw [back_eq hg]; exact helt x hx hp C₀) hc htx hs) (by rw [back_map hg])
theorem EvN.compF (g f : α → D) (q : α → Bool) {elt iter : Expr} {tx : Str} {px : Pos} {ifs : List Expr} {scope : Scope} {pos : Pos}
    (ho : EnvOk env) (hg : ∀ x y, g x = g y → x = y) (hIt : It C n env ρ iter (xs.map g))
    (htest : ∀ x ∈ xs, ∀ C₀, TestsOk C n (cEnv scope env C₀) ((tx, g x) :: into scope ρ) ifs (q x))
    (helt : ∀ x ∈ xs, q x = true → ∀ C₀, EvN C n (cEnv scope env C₀) ((tx, g x) :: into scope ρ) elt (f x))
    (hf : ∀ x, (f x).flat = true := by intro _; rfl)
    (hc : compOk scope env = true := by rfl) (htx : scope.names.lookup tx = some .local ∨ scope.names.lookup tx = some .cell := by first | exact .inl rfl | exact .inr rfl)
    (hs : ∀ x, foldedSetIterable iter env x = pure x := by intro _; rfl) :
    EvN C n env ρ (.ListComp elt [⟨.Name tx px, iter, ifs, 0⟩] scope pos) (.list ((xs.filter q).map f)) :=
  EvN.cast (EvN.comp (backP g q) (back g f) ho hIt
    (fun d hd C₀ => by obtain ⟨x, hx, rfl⟩ := List.mem_map.mp hd; rw [backP_eq hg]; exact htest x hx C₀)
    (fun d hd hp C₀ => by obtain ⟨x, hx, rfl⟩ := List.mem_map.mp hd; rw [backP_eq hg] at hp; rw [back_eq hg]; exact helt x hx hp C₀) (back_flat hf) hc htx hs) (by rw [back_map hg])
theorem Ev.compL (g f : α → D) {elt iter : Expr} {tx : Str} {px : Pos} {scope : Scope} {pos : Pos}
    (ho : EnvOk env) (hg : ∀ x y, g x = g y → x = y) (hIt : It C n env ρ iter (xs.map g))
    (helt : ∀ x ∈ xs, ∀ C₀, EvN C n (cEnv scope env C₀) ((tx, g x) :: into scope ρ) elt (f x))
    (hc : compOk scope env = true := by rfl) (htx : scope.names.lookup tx = some .local ∨ scope.names.lookup tx = some .cell := by first | exact .inl rfl | exact .inr rfl)
    (hs : ∀ x, foldedSetIterable iter env x = pure x := by intro _; rfl) :
    Ev C n env ρ (.ListComp elt [⟨.Name tx px, iter, [], 0⟩] scope pos) (.list (xs.map f)) :=
  Ev.cast (Ev.compF g f (fun _ => true) ho hg hIt (fun _ _ _ => TestsOk.nil) (fun x hx _ => helt x hx) hc htx hs) (by rw [List.filter_eq_self.mpr fun _ _ => rfl])
theorem EvN.compL (g f : α → D) {elt iter : Expr} {tx : Str} {px : Pos} {scope : Scope} {pos : Pos}
    (ho : EnvOk env) (hg : ∀ x y, g x = g y → x = y) (hIt : It C n env ρ iter (xs.map g))
    (helt : ∀ x ∈ xs, ∀ C₀, EvN C n (cEnv scope env C₀) ((tx, g x) :: into scope ρ) elt (f x))
    (hf : ∀ x, (f x).flat = true := by intro _; rfl)
    (hc : compOk scope env = true := by rfl) (htx : scope.names.lookup tx = some .local ∨ scope.names.lookup tx = some .cell := by first | exact .inl rfl | exact .inr rfl)
    (hs : ∀ x, foldedSetIterable iter env x = pure x := by intro _; rfl) :
    EvN C n env ρ (.ListComp elt [⟨.Name tx px, iter, [], 0⟩] scope pos) (.list (xs.map f)) :=
  EvN.cast (EvN.compF g f (fun _ => true) ho hg hIt (fun _ _ _ => TestsOk.nil) (fun x hx _ => helt x hx) hf hc htx hs) (by rw [List.filter_eq_self.mpr fun _ _ => rfl])

/-- ints over anything -/
theorem EvN.compI (g : α → D) (f : α → Int) {elt iter : Expr} {tx : Str} {px : Pos} {scope : Scope} {pos : Pos}
    (ho : EnvOk env) (hg : ∀ x y, g x = g y → x = y) (hIt : It C n env ρ iter (xs.map g))
    (helt : ∀ x ∈ xs, ∀ C₀, Ev C n (cEnv scope env C₀) ((tx, g x) :: into scope ρ) elt (.int (f x)))
    (hc : compOk scope env = true := by rfl) (htx : scope.names.lookup tx = some .local ∨ scope.names.lookup tx = some .cell := by first | exact .inl rfl | exact .inr rfl)
    (hs : ∀ x, foldedSetIterable iter env x = pure x := by intro _; rfl) :
    EvN C n env ρ (.ListComp elt [⟨.Name tx px, iter, [], 0⟩] scope pos) (intsD (xs.map f)) :=
  EvN.cast (EvN.compL g (fun x => .int (f x)) ho hg hIt (fun x hx C₀ => EvN.of (helt x hx C₀)) (fun _ => rfl) hc htx hs) (by simp [intsD])

theorem int_inj (x y : Int) (h : D.int x = D.int y) : x = y := by cases h; rfl
theorem nat_inj (x y : Nat) (h : D.int (x : Int) = D.int (y : Int)) : x = y := by
  have := int_inj _ _ h; omega
theorem It.rangeN {e : Expr} {p pos : Pos} {k : Nat} (ho : EnvOk env) (h : Ev C n env ρ e (.int k)) (h1 : k ≤ 1000)
    (hk : env.kindOf "range" = some .globalImplicit := by rfl) (hs : starEach [e] env = [e].map fun e => (false, eval e env) := by rfl) (he : starEach [e] env = (false, eval e env) :: starEach [] env := by rfl) :
    It C n env ρ (.Call (.Name "range" p) [e] [] pos) ((List.range k).map fun (i : Nat) => D.int (i : Int)) :=
  It.cast (It.range1 ho h (by omega) (by omega) hk hs he) (by
    unfold upD; apply List.map_congr_left; intro i _; simp)
theorem It.rangeI {e : Expr} {p pos : Pos} {k : Int} (ho : EnvOk env) (h : Ev C n env ρ e (.int k)) (h0 : 0 ≤ k) (h1 : k ≤ 1000)
    (hk : env.kindOf "range" = some .globalImplicit := by rfl) (hs : starEach [e] env = [e].map fun e => (false, eval e env) := by rfl) (he : starEach [e] env = (false, eval e env) :: starEach [] env := by rfl) :
    It C n env ρ (.Call (.Name "range" p) [e] [] pos) ((List.range k.toNat).map fun (i : Nat) => D.int (i : Int)) :=
  It.cast (It.range1 ho h (by omega) (by omega) hk hs he) (by
    unfold upD; apply List.map_congr_left; intro i _; simp)
theorem ItO.rangeN {e : Expr} {p pos : Pos} {k : Nat} (ho : EnvOk env) (h : Ev C n env (vis ρ own) e (.int k)) (h1 : k ≤ 1000)
    (hk : env.kindOf "range" = some .globalImplicit := by rfl) (hs : starEach [e] env = [e].map fun e => (false, eval e env) := by rfl) (he : starEach [e] env = (false, eval e env) :: starEach [] env := by rfl) :
    ItO C n env ρ own (.Call (.Name "range" p) [e] [] pos) ((List.range k).map fun (i : Nat) => D.int (i : Int)) :=
  ItO.cast (ItO.range ho h (by omega) (by omega) hk hs he) (by
    unfold upD; apply List.map_congr_left; intro i _; simp)
theorem range_at {k i : Nat} {d : D} (h : ((List.range k).map fun (i : Nat) => D.int (i : Int))[i]? = some d) : i < k ∧ d = .int i := by
  rw [List.getElem?_map] at h
  have hi : i < k := by
    by_cases hi : i < k
    · exact hi
    · rw [List.getElem?_eq_none (by simp; omega)] at h; simp at h
  simp [hi] at h
  exact ⟨hi, h.symm⟩
theorem It.ints {e : Expr} {ys : List Int} (h : Ev C n env ρ e (intsD ys)) (hl : ys.length ≤ 100000) : It C n env ρ e (ys.map D.int) := It.list h (by simpa using hl)
end
section
variable {C : W0} {n : Nat} {h₀ h h' : Heap} {env : Env} {ρ : Rho} {own : Option Own} {A : Around} {s : Shared} {Q : Flow → Shared → Prop} {E : Value → Shared → Prop} {e : Expr} {d : D} {x : Str} {p pos : Pos} {α : Type} {xs : List α}

/-- a new list under a name, beside the list held alone -/
theorem x_setN {ds : List D} (F : FS C h₀ env ρ own s.heap) (R : Room n A) (he : EvN C n env (vis ρ own) e (.list ds)) (hx : ∀ o, own = some o → x ≠ o.x)
    (k : ∀ s', Same s s' → FS C h₀ env ((x, .list ds) :: dropN x ρ) own s'.heap → Q .next s') (hk : Sto env x := by first | exact .inl rfl | exact .inr ⟨rfl, rfl⟩) (hsw : swapsWith e (some (.Name x p)) pos.line env = pure false := by rfl) :
    wpAny (model C.prog C.w) A (exec (.Assign [.Name x p] e pos) env) Q E s :=
  wpAny_Assign_Name (he R F.gwh F.see fun v s₁ m₁ k₁ r f => fs_store (F.kp k₁) (by
    cases own with
    | none => exact r
    | some w =>
      rcases f with f | ⟨hs, a, rfl, hn⟩
      · exact r.flat _ f
      · obtain ⟨a', items, e, hl, rl⟩ := r.toList
        cases e
        have hne : a ≠ w.R := by
          rintro rfl
          obtain ⟨⟨ob, ho, _⟩, _⟩ := F.own0 w rfl
          rw [hn] at ho; cases ho
        refine rep_list (hl.at fun o e => ?_) (rl.flat _ (by simpa [D.shallow] using hs))
        show (s₁.heap.hide w.R).get? a = some o
        rw [Heap.hide_ne _ hne]; exact e) hx hk fun s₂ m₂ F₂ => k s₂ (m₁.trans m₂) F₂) hsw

theorem x_swapF (g f : α → D) (q : α → Bool) {elt iter : Expr} {x tx : Str} {p px pos spos : Pos} {ifs : List Expr} {scope : Scope}
    (F : FS C h₀ env ρ own s.heap) (R : Room n A) (hg : ∀ x y, g x = g y → x = y) (hIt : It C n env (vis ρ own) iter (xs.map g))
    (htest : ∀ y ∈ xs, ∀ C₀, TestsOk C n (cEnv scope env C₀) ((tx, g y) :: into scope (vis ρ own)) ifs (q y))
    (helt : ∀ y ∈ xs, q y = true → ∀ C₀, EvN C n (cEnv scope env C₀) ((tx, g y) :: into scope (vis ρ own)) elt (f y))
    (hx : ∀ o, own = some o → x ≠ o.x)
    (k : ∀ s', Same s s' → FS C h₀ env ((x, .list ((xs.filter q).map f)) :: dropN x ρ) own s'.heap → Q .next s')
    (hf : ∀ y, (f y).flat = true := by intro _; rfl)
    (hk : Sto env x := by first | exact .inl rfl | exact .inr ⟨rfl, rfl⟩) (hsw : swapsWith (.ListComp elt [⟨.Name tx px, iter, ifs, 0⟩] scope pos) (some (.Name x p)) spos.line env = pure true := by rfl)
    (hcm : compOk scope env = true := by rfl) (htx : scope.names.lookup tx = some .local ∨ scope.names.lookup tx = some .cell := by first | exact .inl rfl | exact .inr rfl)
    (hs : ∀ x, foldedSetIterable iter env x = pure x := by intro _; rfl) :
    wpAny (model C.prog C.w) A (exec (.Assign [.Name x p] (.ListComp elt [⟨.Name tx px, iter, ifs, 0⟩] scope pos) spos) env) Q E s :=
  x_swap (backP g q) (back g f) F R hIt
    (fun d hd C₀ => by obtain ⟨x, hx, rfl⟩ := List.mem_map.mp hd; rw [backP_eq hg]; exact htest x hx C₀)
    (fun d hd hp C₀ => by obtain ⟨x, hx, rfl⟩ := List.mem_map.mp hd; rw [backP_eq hg] at hp; rw [back_eq hg]; exact helt x hx hp C₀) (back_flat hf) hx
    (fun s' m F' => k s' m (by rw [back_map hg] at F'; exact F')) hk hsw hcm htx hs
theorem Ev.at {e₁ e₂ : Expr} {xs : List Int} {i : Nat} (h₁ : Ev C n env ρ e₁ (intsD xs)) (h₂ : Ev C n env ρ e₂ (.int i)) (h1 : i < xs.length) (hl : xs.length ≤ 1000)
    (hs : ∀ o i, subscripted e₂ false o i = operate [o, i] (getItem o i) := by intro _ _; rfl) : Ev C n env ρ (.Subscript e₁ e₂ pos) (.int (xs.getD i 0)) :=
  Ev.itemI h₁ h₂ (by omega) (by omega) (by omega) hs
end
/-! what a call that caught an exception leaves -/
theorem list_slots {h h' : Heap} (u : h.UpToSlots h') {a : Addr} {items : Array Value} (x : h.IsList a items) : h'.IsList a items := by
  obtain ⟨o, ho, hc, n, hd⟩ := x
  obtain ⟨sl, e⟩ := u a o ho fun vs q => by rw [hd] at q; cases q
  exact ⟨_, e, hc, n, hd⟩
theorem tup_slots {h h' : Heap} (u : h.UpToSlots h') {a : Addr} {items : Array Value} (x : h.IsTuple a items) : h'.IsTuple a items := by
  obtain ⟨o, ho, hc, n, hd⟩ := x
  obtain ⟨sl, e⟩ := u a o ho fun vs q => by rw [hd] at q; cases q
  exact ⟨_, e, hc, n, hd⟩
theorem cell_slots {h h' : Heap} (u : h.UpToSlots h') {a : Addr} {v : Option Value} (x : h.IsCell a v) : h'.IsCell a v := by
  obtain ⟨o, ho, hd⟩ := x
  obtain ⟨sl, e⟩ := u a o ho fun vs q => by rw [hd] at q; cases q
  exact ⟨_, e, hd⟩
mutual
theorem Rep.slots {h h' : Heap} (u : h.UpToSlots h') : ∀ {d : D} {v : Value}, Rep h v d → Rep h' v d
  | .none, _, r => r
  | .bool _, _, r => r
  | .int _, _, r => r
  | .str _, _, r => r
  | .list xs, _, ⟨a, items, e, hl, r⟩ => ⟨a, items, e, list_slots u hl, RepL.slots u r⟩
  | .tup xs, _, ⟨a, items, e, hl, r⟩ => ⟨a, items, e, tup_slots u hl, RepL.slots u r⟩
theorem RepL.slots {h h' : Heap} (u : h.UpToSlots h') : ∀ {ds : List D} {vs : List Value}, RepL h vs ds → RepL h' vs ds
  | [], _, r => r
  | _ :: _, _, ⟨v, t, e, r, rs⟩ => ⟨v, t, e, Rep.slots u r, RepL.slots u rs⟩
end
theorem Var.slots {h h' : Heap} (u : h.UpToSlots h') {env : Env} {x : Str} {v : Value} : Var env h x v → Var env h' x v
  | .inl ⟨e, m, hn, hv⟩ => .inl ⟨e, m, u.ns hn, hv⟩
  | .inr ⟨e, c, hc, hi⟩ => .inr ⟨e, c, hc, cell_slots u hi⟩

section
variable {C : W0} {n : Nat} {h₀ h h' base : Heap} {outer : List Env} {env : Env} {ρ : Rho} {own : Option Own} {A : Around} {s : Shared} {e : Expr} {d : D}
theorem FS.slots (F : FS C h₀ env ρ none h) (k : Kp h₀ h') (u : h.UpToSlots h') : FS C h₀ env ρ none h' :=
  ⟨{ keep := k, gw := F.gw, ns := let ⟨m, x⟩ := F.ns; ⟨m, u.ns x⟩, newL := F.newL, cells := fun x c e => let ⟨⟨v, hi⟩, b⟩ := F.cells x c e; ⟨⟨v, cell_slots u hi⟩, b⟩, inj := F.inj, ok := F.ok, own0 := fun _ e => (nomatch e), sees := fun p hp => let ⟨v, a, b⟩ := F.sees p hp; ⟨v, Var.slots u a, Rep.slots u b⟩ }, fun _ e => (nomatch e)⟩

/-- a call that may have caught an exception -/
def CallS (C : W0) (n : Nat) (nm : Str) (ds : List D) (d : D) : Prop := ∀ ⦃A : Around⦄ ⦃s : Shared⦄ ⦃Q : Value → Shared → Prop⦄ ⦃E : Value → Shared → Prop⦄ ⦃a : Addr⦄ ⦃vs : List Value⦄ ⦃base : Heap⦄ ⦃outer : List Env⦄,
  C.mg nm = some (.ref a) → Room n A → GW C base → RepL s.heap vs ds → A.frames = some outer → Kp base s.heap → s.heap.FunFrames base outer →
    (∀ v s', Same s s' → Kp base s'.heap → s.heap.UpToSlots s'.heap → Rep s'.heap v d → Q v s') → wpAny (model C.prog C.w) A (call (.ref a) vs []) Q E s
theorem CallS.of {f : Fd} {dfl : List Value} {ds ddfl : List D} (hd : DefAt C f dfl) (hdd : ∀ h, RepL h (dfl.drop (ds.length + dfl.length - f.ps.length)) ddfl) (h1 : ds.length ≤ f.ps.length) (h2 : f.ps.length ≤ ds.length + dfl.length)
    (h : ∀ {h₀ : Heap} {A : Around} {s : Shared} {L a : Addr} {cd : Value} {base : Heap} {outer : List Env} {E : Value → Shared → Prop}, Room n A → EnvC (fEnv f L a cd) → EnvOk (fEnv f L a cd) → GW C base → FS C h₀ (fEnv f L a cd) (f.ps.zip (ds ++ ddfl)) none s.heap → Fl base outer (fEnv f L a cd) A h₀ →
      wpAny (model C.prog C.w) A (execs f.body (fEnv f L a cd)) (fun fl s' => ∃ v, fl = .ret v ∧ Same s s' ∧ Kp base s'.heap ∧ h₀.UpToSlots s'.heap ∧ Rep s'.heap v d) E s) : CallS C (n + 1) f.name ds d := fun A s Q E a vs base outer ha rm G hvs hA hkb hfr k =>
  wpAny_call (call_def hd (by have := rm.depth; omega) (G.kp hkb) hvs h1 h2 (hdd _) (fun L a cd s' ha' m _ F _ => wpAny_mono (h (base := base) (outer := outer) (rm.deeper _) (fEnv_ok hd.good).2 (fEnv_ok hd.good).1 G F ⟨Around.frames_deeper hA, hkb, hfr, rfl⟩) (fun fl s'' ⟨v, e, m', kp, u, r⟩ => by
    subst e; exact k v s'' (m.trans m') kp u r) fun _ _ x => x) a ha)

/-- the call of a def that raises, in a return, in a try's body: the exception comes to the clauses -/
theorem x_try_callX {f : Fd} {dfl : List Value} {es : List Expr} {ds : List D} {cls : Value} {p pos : Pos} {E : Value → Shared → Prop} (F : FS C h₀ env ρ own s.heap) (R : Room n A) (fl : Fl base outer env A h₀) (hd : DefAt C f dfl) (ha : EvL C n env (vis ρ own) (e :: es) ds) (hc : CallX C n f.name ds cls) {x : Str} (hx : f.name = x)
    (k : ∀ a t s', Same s s' → Heap.FlyingW base (env :: outer) a cls (.ref t) s'.heap → h₀.UpToSlots s'.heap → E (.ref a) s')
    (hk : env.kindOf x = some .globalImplicit := by rfl) (hs : starEach (e :: es) env = (e :: es).map fun e => (false, eval e env) := by rfl) (he : starEach (e :: es) env = (false, eval e env) :: starEach es env := by rfl) (hdb : (x == ("__debug__" : Str)) = false := by decide) {K : Value → Shared → Prop} :
    wpAny (model C.prog C.w) A (eval (.Call (.Name x p) (e :: es) [] pos) env) K E s := by
  subst hx
  obtain ⟨a, oc, od, dV, kV, doc, pm, an, cdv, ct, osl, hma, hlo, _⟩ := hd.is
  refine wpAny_Call_NameR (name_global F.ok hma F.gwh hk hdb ?_)
  refine Calls.callWith_function (o := ⟨oc, od, .func (fnOf f.name f.name f.args f.body f.scope dV kV doc pm an cdv ct), osl⟩) (fd := fnOf f.name f.name f.args f.body f.scope dV kV doc pm an cdv ct) (args_of he (ha R F.gwh F.see fun vs s' m kp r => ⟨⟨(F.gwh.kp kp).X _ _ hlo, rfl⟩, ?_⟩))
  have F' := F.kp kp
  obtain ⟨st, fr⟩ := fl.at F'
  refine wpAny_call (hc hma R F'.gwh r fl.stack st fr fun a' t s'' m' x1 x2 => ?_)
  exact k a' t _ (m.trans m') x1 ((Heap.UpToSlots.of_keeps F'.keep).trans x2)

/-- the call of a def that may catch, in a frame at the bottom -/
theorem x_callS {f : Fd} {dfl : List Value} {es : List Expr} {ds : List D} {p pos : Pos} {E : Value → Shared → Prop} {K : Value → Shared → Prop} (F : FS C h₀ env ρ none s.heap) (R : Room n A) (fl : Fl h₀ outer env A h₀) (hd : DefAt C f dfl) (ha : EvL C n env ρ (e :: es) ds) (hc : CallS C n f.name ds d) {x : Str} (hx : f.name = x)
    (k : ∀ v s', Same s s' → FS C h₀ env ρ none s'.heap → Rep s'.heap v d → K v s')
    (hk : env.kindOf x = some .globalImplicit := by rfl) (hs : starEach (e :: es) env = (e :: es).map fun e => (false, eval e env) := by rfl) (he : starEach (e :: es) env = (false, eval e env) :: starEach es env := by rfl) (hdb : (x == ("__debug__" : Str)) = false := by decide) :
    wpAny (model C.prog C.w) A (eval (.Call (.Name x p) (e :: es) [] pos) env) K E s := by
  subst hx
  obtain ⟨a, oc, od, dV, kV, doc, pm, an, cdv, ct, osl, hma, hlo, _⟩ := hd.is
  refine wpAny_Call_NameR (name_global F.ok hma F.gwh hk hdb ?_)
  refine Calls.callWith_function (o := ⟨oc, od, .func (fnOf f.name f.name f.args f.body f.scope dV kV doc pm an cdv ct), osl⟩) (fd := fnOf f.name f.name f.args f.body f.scope dV kV doc pm an cdv ct) (args_of he (ha R F.gwh F.see fun vs s' m kp r => ⟨⟨(F.gwh.kp kp).X _ _ hlo, rfl⟩, ?_⟩))
  have F' := F.kp kp
  obtain ⟨st, fr⟩ := fl.at F'
  exact hc hma R F.gw r fl.stack st fr fun v s'' m' k' u r' => k v s'' (m.trans m') (F'.slots k' u) r'
theorem x_set_callS {f : Fd} {dfl : List Value} {es : List Expr} {ds : List D} {p pos q pos' : Pos} {E : Value → Shared → Prop} {Q : Flow → Shared → Prop} {y : Str} (F : FS C h₀ env ρ none s.heap) (R : Room n A) (fl : Fl h₀ outer env A h₀) (hd : DefAt C f dfl) (ha : EvL C n env ρ (e :: es) ds) (hc : CallS C n f.name ds d) {x : Str} (hx : f.name = x)
    (k : ∀ s', Same s s' → FS C h₀ env ((y, d) :: dropN y ρ) none s'.heap → Q .next s')
    (hk : env.kindOf x = some .globalImplicit := by rfl) (hs : starEach (e :: es) env = (e :: es).map fun e => (false, eval e env) := by rfl) (he : starEach (e :: es) env = (false, eval e env) :: starEach es env := by rfl) (hdb : (x == ("__debug__" : Str)) = false := by decide)
    (hky : Sto env y := by first | exact .inl rfl | exact .inr ⟨rfl, rfl⟩) (hsw : swapsWith (.Call (.Name x p) (e :: es) [] pos) (some (.Name y q)) pos'.line env = pure false := by rfl) :
    wpAny (model C.prog C.w) A (exec (.Assign [.Name y q] (.Call (.Name x p) (e :: es) [] pos) pos') env) Q E s :=
  wpAny_Assign_Name (x_callS F R fl hd ha hc hx (fun v s' m F' r => fs_store F' r (fun _ e => (nomatch e)) hky fun s₂ m₂ F₂ => k s₂ (m.trans m₂) F₂) hk hs he hdb) hsw
end
/-- a call that gives a new list of ints -/
def CallF (C : W0) (n : Nat) (nm : Str) (ds : List D) (xs : List Int) : Prop := ∀ ⦃A : Around⦄ ⦃s : Shared⦄ ⦃Q : Value → Shared → Prop⦄ ⦃E : Value → Shared → Prop⦄ ⦃a : Addr⦄ ⦃vs : List Value⦄,
  C.mg nm = some (.ref a) → Room n A → GW C s.heap → RepL s.heap vs ds → (∀ b items s', Same s s' → Kp s.heap s'.heap → s.heap.get? b = none → s'.heap.IsList b items → IntsAre items.toList xs → Q (.ref b) s') → wpAny (model C.prog C.w) A (call (.ref a) vs []) Q E s
theorem CallF.of {C : W0} {f : Fd} {dfl : List Value} {ds ddfl : List D} {xs : List Int} {n : Nat} (hd : DefAt C f dfl) (hdd : ∀ h, RepL h (dfl.drop (ds.length + dfl.length - f.ps.length)) ddfl) (h1 : ds.length ≤ f.ps.length) (h2 : f.ps.length ≤ ds.length + dfl.length)
    (h : ∀ {h₀ : Heap} {A : Around} {s : Shared} {L a : Addr} {cd : Value} {E : Value → Shared → Prop}, Room n A → EnvC (fEnv f L a cd) → EnvOk (fEnv f L a cd) → FS C h₀ (fEnv f L a cd) (f.ps.zip (ds ++ ddfl)) none s.heap →
      wpAny (model C.prog C.w) A (execs f.body (fEnv f L a cd)) (fun fl s' => ∃ b items, fl = .ret (.ref b) ∧ Same s s' ∧ Kp h₀ s'.heap ∧ h₀.get? b = none ∧ s'.heap.IsList b items ∧ IntsAre items.toList xs) E s) : CallF C (n + 1) f.name ds xs := fun A s Q E a vs ha R G hvs k =>
  wpAny_call (call_def hd (by have := R.depth; omega) G hvs h1 h2 (hdd _) (fun L a cd s' ha' m _ F _ => wpAny_mono (h (R.deeper _) (fEnv_ok hd.good).2 (fEnv_ok hd.good).1 F) (fun fl s'' ⟨b, items, e, m', kp, hb, hl, hi⟩ => by
    subst e; exact k b items s'' (m.trans m') kp hb hl hi) fun _ _ x => x) a ha)
section
variable {C : W0} {n : Nat} {env : Env} {h₀ : Heap} {ρ : Rho} {own : Option Own} {e : Expr} {pos p : Pos} {A : Around} {s : Shared}
theorem x_retF {xs : List Int} {Q : Flow → Shared → Prop} {E : Value → Shared → Prop} (F : FS C h₀ env ρ own s.heap) (R : Room n A) (he : EvF C n env (vis ρ own) e xs)
    (k : ∀ b items s', Same s s' → Kp h₀ s'.heap → h₀.get? b = none → s'.heap.IsList b items → IntsAre items.toList xs → Q (.ret (.ref b)) s') : wpAny (model C.prog C.w) A (exec (.Return (some e) pos) env) Q E s :=
  wpAny_Return_some (he R F.gwh F.see fun b items s₁ m₁ k₁ hn hl hi => k b items s₁ m₁ (F.keep.trans k₁) (none_kp F.keep hn) hl hi)
theorem EvF.call {f : Fd} {dfl : List Value} {es : List Expr} {ds : List D} {xs : List Int} (ho : EnvOk env) (hd : DefAt C f dfl) (ha : EvL C n env ρ (e :: es) ds) (hc : CallF C n f.name ds xs) {x : Str} (hx : f.name = x := by rfl)
    (hk : env.kindOf x = some .globalImplicit := by rfl) (hs : starEach (e :: es) env = (e :: es).map fun e => (false, eval e env) := by rfl) (he : starEach (e :: es) env = (false, eval e env) :: starEach es env := by rfl) (hdb : (x == ("__debug__" : Str)) = false := by decide) :
    EvF C n env ρ (.Call (.Name x p) (e :: es) [] pos) xs := fun A s Q E R G S k => by
  subst hx
  obtain ⟨a, oc, od, dV, kV, doc, pm, an, cdv, ct, osl, hma, hlo, _⟩ := hd.is
  refine wpAny_Call_NameR (name_global ho hma G hk hdb ?_)
  refine Calls.callWith_function (o := ⟨oc, od, .func (fnOf f.name f.name f.args f.body f.scope dV kV doc pm an cdv ct), osl⟩) (fd := fnOf f.name f.name f.args f.body f.scope dV kV doc pm an cdv ct) (args_of he (ha R G S fun vs s' m kp r => ⟨⟨(G.kp kp).X _ _ hlo, rfl⟩, ?_⟩))
  exact hc hma R (G.kp kp) r fun b items s'' m' kp' hb hl hi => k b items s'' (m.trans m') (kp.trans kp') (none_kp kp hb) hl hi
end

theorem ne_str {a b : Str} (h : (a != b) = true) : a ≠ b := by simpa using h
local macro_rules | `(tactic| walk_at "mm") => `(tactic| first | exact List.Mem.head _ | (refine List.Mem.tail _ ?_; walk_at "mm") | (refine mem_drop1 ?_ (by with_unfolding_all rfl); walk_at "mm") | (refine mem_into ?_ (by with_unfolding_all rfl); walk_at "mm"))
local macro_rules | `(tactic| walk_at "ok") => `(tactic| first | assumption | exact cEnv_ok (by walk_at "ok") (by with_unfolding_all rfl))
local macro_rules | `(tactic| walk_at "nm") => `(tactic| (refine Ev.name (by walk_at "ok") (by walk_at "mm")))
local macro_rules | `(tactic| walk_at "sub") => `(tactic| first | exact List.forall_mem_nil _ | (refine List.forall_mem_cons.mpr ⟨by walk_at "mm", ?_⟩; walk_at "sub"))
local macro_rules | `(tactic| walk_at "ne") => `(tactic| first | (intro o e; cases e; exact ne_str rfl) | (intro o e; cases e))
local macro_rules | `(tactic| walk_at "strs") => `(tactic| first | exact EvL.nil | (refine EvL.cons Ev.str ?_; walk_at "strs"))
local macro_rules | `(tactic| walk_at "inS") => `(tactic| exact Ts.cmp (by walk_at "nm") (Ev.cast (Ev.list (by walk_at "strs")) rfl) CmpOk.inS)
abbrev PW : Program := PySem.Challenge.pw_ab5006_01


def cell (script : List Int) (k : Nat) : Int := if k < script.length then ((script.getD k 0).natAbs : Int) else 37 * k + 11

theorem cell_ok {C : W0} {n : Nat} (hd : DefAt C (fdAt PW 9) []) {script : List Int} {k : Nat} (hk : k < 100) (hl : script.length ≤ 63) : CallOK C (n + 1) "_law_cell" [intsD script, .int k] (.int (cell script k)) := by
  refine CallOK.of hd (fun _ => RepL.nil) (Nat.le_of_ble_eq_true rfl) (Nat.le_of_ble_eq_true rfl) fun {h₀ A s L a cd E} R hc ho F => ?_
  have F : FS C h₀ (fEnv (fdAt PW 9) L a cd) [("script", intsD script), ("k", .int k)] none s.heap := F
  show wpAny _ _ (execs (_ :: _) _) _ _ _
  refine wpAny_execs_cons (x_if F R (Ts.cmp (by walk_at "nm") (Ev.len ho (by walk_at "nm") (by simp; omega)) CmpOk.lt) fun s₁ m₁ F₁ => ?_)
  unfold cell
  by_cases h : k < script.length
  · have e1 : decide ((k : Int) < ((script.map D.int).length : Nat)) = true := by simp; exact h
    rw [e1, if_pos rfl, if_pos h]
    refine wpAny_execs_cons (x_ret F₁ R (Ev.absI ho (Ev.intI ho (Ev.itemI (by walk_at "nm") (by walk_at "nm") (by omega) (by omega) (by omega)))) fun v s₂ m₂ kp r => ?_)
    exact ⟨v, rfl, m₁.trans m₂, kp, by simpa using r⟩
  · have e1 : decide ((k : Int) < ((script.map D.int).length : Nat)) = false := by simp; omega
    rw [e1, if_neg (by decide), if_neg h]
    refine wpAny_execs_nil ?_
    refine wpAny_execs_cons (x_ret F₁ R (Ev.add (Ev.mul Ev.int (by walk_at "nm") (by unfold Sm; decide) (by unfold Sm; omega)) Ev.int) fun v s₂ m₂ kp r => ?_)
    exact ⟨v, rfl, m₁.trans m₂, kp, r⟩
/-! plain lists -/
theorem upD_map {f : Int → D} (k : Nat) : (upD 0 k).map (fun d => match d with | .int i => f i | d => d) = (List.range k).map fun (i : Nat) => f (i : Int) := by
  unfold upD; rw [List.map_map]; apply List.map_congr_left; intro i _; simp
theorem range_getD {α : Type} (xs : List α) (z : α) {β : Type} (g : α → β) : (List.range xs.length).map (fun i => g (xs.getD i z)) = xs.map g := by
  apply List.ext_getElem
  · simp
  · intro i h1 h2; simp at h1; simp [List.getD, h1]
theorem filter_all {α : Type} (l : List α) : l.filter (fun _ => true) = l := by simp

/-- seats by floors, then by the rests -/
def lrReps (votes : List Int) (seats : Int) : List Int := votes.map fun p => p * seats / votes.sum
def lrRem (votes : List Int) (seats : Int) : List Int := votes.map fun p => p * seats - p * seats / votes.sum * votes.sum
def lrCut (votes : List Int) (seats : Int) : Int := (srt (lrRem votes seats)).getD ((lrReps votes seats).sum - seats + votes.length).toNat 0
def lrStep (rem : List Int) (cut seats : Int) (i : Nat) (st : List Int × Bool) : List Int × Bool :=
  if st.1.sum = seats ∧ cut ≤ rem.getD i 0 then (st.1, true)
  else if st.1.sum < seats ∧ cut < rem.getD i 0 then (st.1.set i (st.1.getD i 0 + 1), st.2)
  else if st.1.sum < seats ∧ rem.getD i 0 = cut then (st.1.set i (st.1.getD i 0 + 1), st.2)
  else st
def lrRun (rem : List Int) (cut seats : Int) (st : List Int × Bool) : Nat → List Int × Bool
  | 0 => st
  | i + 1 => lrStep rem cut seats i (lrRun rem cut seats st i)
def lrRes (votes : List Int) (seats : Int) : List Int × Bool :=
  if (lrReps votes seats).sum < seats then lrRun (lrRem votes seats) (lrCut votes seats) seats (lrReps votes seats, false) votes.length else (lrReps votes seats, false)

structure Vok (votes : List Int) : Prop where
  lo : 1 ≤ votes.length
  hi : votes.length ≤ 5
  nn : ∀ p ∈ votes, 0 ≤ p ∧ p < 2 ^ 50
theorem Vok.Nn {votes : List Int} (h : Vok votes) : Nn votes := ⟨by have := h.hi; omega, fun x hx => by have := h.nn x hx; omega⟩
theorem Vok.sum {votes : List Int} (h : Vok votes) : 0 ≤ votes.sum ∧ votes.sum < 2 ^ 60 := by
  have := Nn.sum h.Nn.2; have := h.hi; omega
theorem le_sum : ∀ {xs : List Int}, (∀ x ∈ xs, 0 ≤ x) → ∀ p ∈ xs, p ≤ xs.sum
  | x :: xs, h, p, hp => by
    have h2 : 0 ≤ xs.sum := by
      clear hp
      induction xs with
      | nil => simp
      | cons y ys ih =>
        have := h y (by simp)
        have := ih fun z hz => h z (by rcases List.mem_cons.mp hz with rfl | hz <;> simp [*])
        simp only [List.sum_cons]; omega
    have h1 := h x (by simp)
    rw [List.sum_cons]
    rcases List.mem_cons.mp hp with rfl | hp
    · omega
    · have := le_sum (fun y hy => h y (by simp [hy])) p hp
      omega

theorem lr_rem_sum {T s : Int} : ∀ l : List Int, (l.map fun p => p * s - p * s / T * T).sum = l.sum * s - (l.map fun p => p * s / T).sum * T
  | [] => by simp
  | p :: l => by
    simp only [List.map_cons, List.sum_cons, lr_rem_sum l, Int.add_mul]; omega
theorem sum_lt {T : Int} (hT : 0 < T) : ∀ {l : List Int}, l ≠ [] → (∀ x ∈ l, x < T) → l.sum < l.length * T
  | [], h, _ => absurd rfl h
  | [x], _, h => by have := h x (by simp); simp; omega
  | x :: y :: l, _, h => by
    have h1 := h x (by simp)
    have h2 := sum_lt hT (l := y :: l) (by simp) fun z hz => h z (by simp [hz])
    rw [List.sum_cons, List.length_cons]
    have e : (((y :: l).length + 1 : Nat) : Int) * T = ((y :: l).length : Int) * T + T := by rw [Int.natCast_add, Int.add_mul]; simp
    omega
theorem lr_rem_lt {votes : List Int} {seats : Int} (hT : 0 < votes.sum) : ∀ x ∈ lrRem votes seats, 0 ≤ x ∧ x < votes.sum := fun x hx => by
  obtain ⟨p, _, rfl⟩ := List.mem_map.mp hx
  have e : p * seats - p * seats / votes.sum * votes.sum = p * seats % votes.sum := by rw [Int.emod_def, Int.mul_comm votes.sum]
  rw [e]
  exact ⟨Int.emod_nonneg _ (by omega), Int.emod_lt_of_pos _ hT⟩
theorem lr_left {votes : List Int} {seats : Int} (hv : Vok votes) (hT : 0 < votes.sum) (h0 : 0 < seats) : seats - (lrReps votes seats).sum < votes.length := by
  have h1 := lr_rem_sum (T := votes.sum) (s := seats) votes
  have h2 := sum_lt hT (l := lrRem votes seats) (by intro h; have := congrArg List.length h; simp [lrRem] at this; have := hv.lo; simp_all) fun x hx => (lr_rem_lt hT x hx).2
  have h3 : (lrRem votes seats).length = votes.length := by simp [lrRem]
  rw [h3] at h2
  have h4 : (lrRem votes seats).sum = (seats - (lrReps votes seats).sum) * votes.sum := by
    show (votes.map fun p => p * seats - p * seats / votes.sum * votes.sum).sum = _
    rw [h1, Int.sub_mul, Int.mul_comm seats]; rfl
  rw [h4] at h2
  exact Int.lt_of_mul_lt_mul_right h2 (Int.le_of_lt hT)

theorem thr0_ok {C : W0} {n : Nat} (hd : DefAt C (fdAt PW 3) []) {votes : List Int} : CallOK C (n + 1) "apply_threshold" [intsD votes, .none] (intsD votes) := by
  refine CallOK.of hd (fun _ => RepL.nil) (Nat.le_of_ble_eq_true rfl) (Nat.le_of_ble_eq_true rfl) fun {h₀ A s L a cd E} R hc ho F => ?_
  have F : FS C h₀ (fEnv (fdAt PW 3) L a cd) [("votes", intsD votes), ("threshold", .none)] none s.heap := F
  show wpAny _ _ (execs (_ :: _) _) _ _ _
  refine wpAny_execs_cons (x_if F R (Ts.cmp (by walk_at "nm") Ev.non CmpOk.isNotN) fun s₁ m₁ F₁ => ?_)
  rw [show (!D.none.isNone) = false from rfl, if_neg (by decide)]
  refine wpAny_execs_cons (x_ret F₁ R (by walk_at "nm") fun v s₂ m₂ kp r => ?_)
  exact ⟨v, rfl, m₁.trans m₂, kp, r⟩

theorem lr_body {C : W0} {n : Nat} {votes : List Int} {seats : Int} {allowed : Bool} {h₀ : Heap} {A : Around} {s : Shared} {L a : Addr} {cd : Value} {Q : Flow → Shared → Prop} {E : Value → Shared → Prop} (hv : Vok votes) (hT : 0 < votes.sum) (h0 : 0 < seats) (h1 : seats ≤ 12)
    (R : Room n A) (hc : EnvC (fEnv (fdAt PW 4) L a cd)) (ho : EnvOk (fEnv (fdAt PW 4) L a cd)) (F : FS C h₀ (fEnv (fdAt PW 4) L a cd) [("votes", intsD votes), ("seats", .int seats), ("tiesallowed", .bool allowed)] none s.heap)
    (hret : ((lrRes votes seats).2 && !allowed) = false → ∀ v s', Same s s' → Kp h₀ s'.heap → Rep s'.heap v (intsD (lrRes votes seats).1) → Q (.ret v) s')
    (hraise : ((lrRes votes seats).2 && !allowed) = true → ∀ ρ own s' np k cp cpos pos, Same s s' → FS C h₀ (fEnv (fdAt PW 4) L a cd) ρ own s'.heap →
      wpAny (model C.prog C.w) A (exec (.Raise (some (.Call (.Name "TiesException" np) [.Constant (.str "Tie occurred") k cp] [] cpos)) none pos) (fEnv (fdAt PW 4) L a cd)) (fun f s' => match f with | .next => False | f => Q f s') E s') :
    wpAny (model C.prog C.w) A (execs (fdAt PW 4).body (fEnv (fdAt PW 4) L a cd)) Q E s := by
  have hsum := hv.sum
  have hlen5 := hv.hi
  have hlen1 := hv.lo
  have smT : Sm votes.sum := by unfold Sm; omega
  have smS : Sm seats := by unfold Sm; omega
  have hps : ∀ p ∈ votes, Sm p := fun p hp => by unfold Sm; have := hv.nn p hp; omega
  have hb : ∀ x ∈ lrReps votes seats, 0 ≤ x ∧ x ≤ 12 := by
    intro x hx
    obtain ⟨p, hp, rfl⟩ := List.mem_map.mp hx
    have h2 := hv.nn p hp
    have h3 := le_sum (fun x hx => (hv.nn x hx).1) p hp
    refine ⟨Int.ediv_nonneg (Int.mul_nonneg h2.1 (by omega)) (by omega), ?_⟩
    have : p * seats ≤ 12 * votes.sum := by
      have e1 : p * seats ≤ votes.sum * seats := Int.mul_le_mul_of_nonneg_right h3 (by omega)
      have e2 : votes.sum * seats ≤ votes.sum * 12 := Int.mul_le_mul_of_nonneg_left h1 (by omega)
      omega
    exact Int.le_trans (Int.ediv_le_ediv hT this) (by rw [Int.mul_ediv_cancel _ (by omega)]; exact Int.le_refl _)
  have hlenR : (lrReps votes seats).length = votes.length := by simp [lrReps]
  show wpAny _ _ (execs (_ :: _) _) _ _ _
  refine wpAny_execs_cons (x_if F R (Ts.cmp (by walk_at "nm") Ev.int CmpOk.eq) fun s₁ m₁ F₁ => ?_)
  rw [show decide (seats = 0) = false by simp; omega, if_neg (by decide)]
  refine wpAny_execs_nil ?_
  -- quotas
  refine wpAny_execs_cons (x_set (d := .list (votes.map fun p => D.tup [.int (p * seats), .int votes.sum])) F₁ R (Ev.cast (Ev.comp (fun _ => true) (fun d => match d with | .int p => .tup [.int (p * seats), .int votes.sum] | d => d) ho (It.list (xs := votes.map .int) (by walk_at "nm") (by simp; have := hv.hi; omega)) (fun x hx C₀ => TestsOk.nil) (fun x hx _ C₀ => ?_)) (by rw [filter_all, List.map_map]; rfl)) (.inl rfl) (fun o e => (nomatch e)) fun s₂ m₂ F₂ => ?_)
  · obtain ⟨p, hp, rfl⟩ := List.mem_map.mp hx
    exact EvN.tup (EvL.cons (Ev.mul (Ev.intI (by walk_at "ok") (by walk_at "nm")) (by walk_at "nm") (hps p hp) smS) (EvL.cons (Ev.intI (by walk_at "ok") (Ev.sum (by walk_at "ok") (by walk_at "nm") hv.Nn)) EvL.nil))
  -- representatives
  refine wpAny_execs_cons (x_own (xs := lrReps votes seats) F₂ R (EvN.toF (EvN.cast (EvN.comp (fun _ => true) (fun d => match d with | .tup [.int a, .int b] => .int (a / b) | _ => .none) ho (It.list (by walk_at "nm") (by simp; have := hv.hi; omega)) (fun x hx C₀ => TestsOk.nil) (fun x hx _ C₀ => ?_) (fun x => ?_)) (by rw [filter_all, List.map_map]; simp [lrReps, List.map_map, Function.comp_def]))) fun s₃ aR items m₃ F₃ => ?_)
  · obtain ⟨p, hp, rfl⟩ := List.mem_map.mp hx
    exact EvN.of (Ev.fdiv (Ev.itemT (by walk_at "nm") Ev.int (by decide) (by decide) rfl) (Ev.itemT (by walk_at "nm") Ev.int (by decide) (by decide) rfl) hT smT)
  · split <;> rfl
  -- ties
  refine wpAny_execs_cons (x_set (d := .bool false) F₃ R Ev.bool (.inr rfl) (by walk_at "ne") fun s₄ m₄ F₄ => ?_)
  have F₄ : FS C h₀ (fEnv (fdAt PW 4) L a cd) [("ties", .bool false), ("quotas", .list (votes.map fun p => D.tup [.int (p * seats), .int votes.sum])), ("votes", intsD votes), ("seats", .int seats), ("tiesallowed", .bool allowed)] (some ⟨"representatives", aR, items, lrReps votes seats, false⟩) s₄.heap := F₄.sub (by walk_at "sub")
  have m04 : Same s s₄ := (((m₁.trans m₂).trans m₃).trans m₄)
  have nnR : Nn (lrReps votes seats) := ⟨by rw [hlenR]; have := hv.hi; omega, fun x hx => by have := hb x hx; omega⟩
  have tail : ∀ ρ items' s₅, Same s s₅ → FS C h₀ (fEnv (fdAt PW 4) L a cd) (("ties", .bool (lrRes votes seats).2) :: ("tiesallowed", .bool allowed) :: ρ) (some ⟨"representatives", aR, items', (lrRes votes seats).1, false⟩) s₅.heap →
      wpAny (model C.prog C.w) A (execs ((fdAt PW 4).body.drop 5) (fEnv (fdAt PW 4) L a cd)) Q E s₅ := by
    intro ρ items' s₅ m₅ F₅
    show wpAny _ _ (execs (_ :: _) _) _ _ _
    refine wpAny_execs_cons (x_if F₅ R (Ts.and2 (Ts.val (by walk_at "nm")) fun _ => Ts.not (Ts.val (by walk_at "nm"))) fun s₆ m₆ F₆ => ?_)
    cases hb : ((lrRes votes seats).2 && !allowed) with
    | true =>
      rw [if_pos rfl]
      refine wpAny_execs_cons (wpAny_mono (hraise hb _ _ _ _ _ _ _ _ (m₅.trans m₆) F₆) (fun f s' h => ?_) fun _ _ x => x)
      cases f with
      | next => exact h.elim
      | _ => exact h
    | false =>
      rw [if_neg (by decide)]
      refine wpAny_execs_nil ?_
      refine wpAny_execs_cons (x_ret F₆ R (by walk_at "nm") fun v s₇ m₇ kp r => ?_)
      exact hret hb v s₇ ((m₅.trans m₆).trans m₇) kp r
  refine wpAny_execs_cons (wpAny_mono (Q := fun f s₅ => f = .next ∧ Same s s₅ ∧ ∃ ρ items', FS C h₀ (fEnv (fdAt PW 4) L a cd) (("ties", .bool (lrRes votes seats).2) :: ("tiesallowed", .bool allowed) :: ρ) (some ⟨"representatives", aR, items', (lrRes votes seats).1, false⟩) s₅.heap) ?_ (fun f s₅ ⟨e, m₅, ρ, items', F₅⟩ => by subst e; exact tail ρ items' s₅ m₅ F₅) fun _ _ x => x)
  refine x_if F₄ R (Ts.cmp (Ev.sum ho (by walk_at "nm") nnR) (by walk_at "nm") CmpOk.lt) fun s₅ m₅ F₅ => ?_
  by_cases hlt : (lrReps votes seats).sum < seats
  · rw [show decide ((lrReps votes seats).sum < seats) = true by simpa using hlt, if_pos rfl]
    -- remainders
    have hpos : 0 < seats - (lrReps votes seats).sum ∧ seats - (lrReps votes seats).sum < votes.length := ⟨by omega, lr_left hv hT h0⟩
    have hrem : (lrRem votes seats).length = votes.length := by simp [lrRem]
    refine wpAny_execs_cons (x_swap (fun _ => true) (fun d => match d with | .int i => .int (votes.getD i.toNat 0 * seats - votes.getD i.toNat 0 * seats / votes.sum * votes.sum) | _ => .none) F₅ R (It.range1 ho (Ev.len ho (by walk_at "nm") (by simp; have := hv.hi; omega)) (by omega) (by simp; have := hv.hi; omega)) (fun y hy C₀ => TestsOk.nil) (fun y hy _ C₀ => ?_) (fun y => ?_) (by walk_at "ne") fun s₆ m₆ F₆ => ?_)
    · obtain ⟨j, hj, rfl⟩ := List.mem_map.mp hy
      have hj' : j < votes.length := by simpa using hj
      have e0 : (0 + (j : Int)) = (j : Int) := Int.zero_add _
      rw [e0]
      have hq : ∀ y : Int, (votes.map fun p => D.tup [.int (p * seats), .int votes.sum])[(j : Int).toNat]? = some (D.tup [.int (votes.getD j 0 * seats), .int votes.sum]) := fun _ => by simp [List.getD, hj']
      have hr : (lrReps votes seats).getD (j : Int).toNat 0 = votes.getD j 0 * seats / votes.sum := by simp [lrReps, List.getD, hj']
      have hi : Sm (votes.getD j 0 * seats / votes.sum) := by
        have := hb (votes.getD j 0 * seats / votes.sum) (by rw [← hr]; exact PySem.getD_mem (by rw [hlenR]; exact hj'))
        unfold Sm; omega
      refine EvN.cast (d := .int (votes.getD j 0 * seats - votes.getD j 0 * seats / votes.sum * votes.sum)) ?_ ?_
      rotate_left
      · simp
      refine EvN.of (Ev.sub ?_ (Ev.mul ?_ ?_ hi smT))
      · exact Ev.itemT (Ev.item (by walk_at "nm") (by walk_at "nm") (by omega) (by omega) (hq 0)) Ev.int (by decide) (by decide) rfl
      · exact Ev.cast (Ev.itemI (by walk_at "nm") (by walk_at "nm") (by omega) (by rw [hlenR]; omega) (by rw [hlenR]; omega)) (congrArg D.int hr)
      · exact Ev.itemT (Ev.item (by walk_at "nm") (by walk_at "nm") (by omega) (by omega) (hq 0)) Ev.int (by decide) (by decide) rfl
    · split <;> rfl
    have F₆ : FS C h₀ (fEnv (fdAt PW 4) L a cd) [("remainders", intsD (lrRem votes seats)), ("ties", .bool false), ("votes", intsD votes), ("seats", .int seats), ("tiesallowed", .bool allowed)] (some ⟨"representatives", aR, items, lrReps votes seats, false⟩) s₆.heap := by
      have e : D.list (((upD 0 ((votes.map D.int).length : Int).toNat).filter fun _ => true).map (fun d => match d with | .int i => .int (votes.getD i.toNat 0 * seats - votes.getD i.toNat 0 * seats / votes.sum * votes.sum) | _ => .none)) = intsD (lrRem votes seats) := by
        rw [filter_all]
        unfold upD
        rw [List.map_map]
        have := range_getD votes 0 fun p => D.int (p * seats - p * seats / votes.sum * votes.sum)
        simp only [intsD, lrRem, List.map_map]
        simpa [Function.comp_def] using this
      exact FS.sub (e ▸ F₆) (by walk_at "sub")
    -- cutoff
    have hsl : (srt (lrRem votes seats)).length = votes.length := by rw [(srt_perm _).length_eq, hrem]
    refine wpAny_execs_cons (x_set (d := .int (lrCut votes seats)) F₆ R (Ev.itemN (Ev.sorted ho (by walk_at "nm") (by rw [hrem]; omega)) (Ev.sub (Ev.sum ho (by walk_at "nm") nnR) (by walk_at "nm")) (by omega) (by rw [List.length_map, hsl]; omega) (by rw [List.length_map, hsl]; omega) ?_) (.inr rfl) (by walk_at "ne") fun s₇ m₇ F₇ => ?_)
    · rw [List.length_map, hsl, List.getElem?_map]
      have hk : ((lrReps votes seats).sum - seats + votes.length).toNat < (srt (lrRem votes seats)).length := by rw [hsl]; omega
      simp [lrCut, List.getD, hk]
    -- the loop
    have inv : ∀ i, i ≤ votes.length → (lrRun (lrRem votes seats) (lrCut votes seats) seats (lrReps votes seats, false) i).1.length = votes.length ∧ ∀ x ∈ (lrRun (lrRem votes seats) (lrCut votes seats) seats (lrReps votes seats, false) i).1, 0 ≤ x ∧ x ≤ 12 + i := by
      intro i
      induction i with
      | zero => intro _; exact ⟨hlenR, fun x hx => by have := hb x hx; omega⟩
      | succ i ih =>
        intro hi
        obtain ⟨l1, l2⟩ := ih (by omega)
        have key : ∀ x ∈ (lrRun (lrRem votes seats) (lrCut votes seats) seats (lrReps votes seats, false) i).1.set i ((lrRun (lrRem votes seats) (lrCut votes seats) seats (lrReps votes seats, false) i).1.getD i 0 + 1), 0 ≤ x ∧ x ≤ 12 + ((i + 1 : Nat) : Int) := by
          intro x hx
          rcases List.mem_or_eq_of_mem_set hx with hx | rfl
          · have := l2 x hx; omega
          · have := l2 _ (PySem.getD_mem (l := (lrRun (lrRem votes seats) (lrCut votes seats) seats (lrReps votes seats, false) i).1) (j := i) (by rw [l1]; omega)); omega
        have old : ∀ x ∈ (lrRun (lrRem votes seats) (lrCut votes seats) seats (lrReps votes seats, false) i).1, 0 ≤ x ∧ x ≤ 12 + ((i + 1 : Nat) : Int) := fun x hx => by have := l2 x hx; omega
        show (lrStep _ _ _ i _).1.length = _ ∧ ∀ x ∈ (lrStep _ _ _ i _).1, _
        unfold lrStep
        split
        · exact ⟨l1, old⟩
        · split
          · exact ⟨by rw [List.length_set]; exact l1, key⟩
          · split
            · exact ⟨by rw [List.length_set]; exact l1, key⟩
            · exact ⟨l1, old⟩
    generalize hrun : lrRun (lrRem votes seats) (lrCut votes seats) seats (lrReps votes seats, false) = run at inv
    have hrunS : ∀ i, run (i + 1) = lrStep (lrRem votes seats) (lrCut votes seats) seats i (run i) := fun i => by rw [← hrun]; rfl
    have hrun0 : run 0 = (lrReps votes seats, false) := by rw [← hrun]; rfl
    have hres : lrRes votes seats = run votes.length := by unfold lrRes; rw [if_pos hlt, hrun]
    have m07 : Same s s₇ := ((m04.trans m₅).trans m₆).trans m₇
    have F₇ : FS C h₀ (fEnv (fdAt PW 4) L a cd) [("ties", .bool false), ("cutoff", .int (lrCut votes seats)), ("remainders", intsD (lrRem votes seats)), ("votes", intsD votes), ("seats", .int seats), ("tiesallowed", .bool allowed)] (some ⟨"representatives", aR, items, lrReps votes seats, false⟩) s₇.heap := F₇.sub (by walk_at "sub")
    refine wpAny_execs_cons (x_for (xs := upD 0 votes.length) hc F₇ R (ItO.cast (ItO.range ho (Ev.len ho (by walk_at "nm") (by simp; omega)) (by omega) (by simp; omega)) (by simp))
      (fun i ρ own => ρ = ([("ties", .bool (run i).2), ("cutoff", .int (lrCut votes seats)), ("remainders", intsD (lrRem votes seats)), ("votes", intsD votes), ("seats", .int seats), ("tiesallowed", .bool allowed)] : Rho) ∧ ∃ items, own = some ⟨"representatives", aR, items, (run i).1, false⟩) (fun _ _ _ => False) ?_ ?_ ?_ (.inr ?_) ?_ (fun _ _ _ _ h => h.elim) ?_)
    · exact ⟨by rw [hrun0], items, by rw [hrun0]⟩
    · rintro i ρ' own' ⟨_, it, rfl⟩; rfl
    · rintro i ρ' own' ⟨_, it, rfl⟩; walk_at "ne"
    · intro d hd
      obtain ⟨j, _, rfl⟩ := List.mem_map.mp hd
      rfl
    · rintro i d ρ' own' h₁ s₈ hd ⟨rfl, it, rfl⟩ kh m₈ F₈
      have hi : i < votes.length := by
        have := (List.getElem?_eq_some_iff.mp hd).1; rwa [upD_length] at this
      have e0 : d = .int i := by
        unfold upD at hd
        rw [List.getElem?_map] at hd
        simp [hi] at hd
        exact hd.symm
      subst e0
      obtain ⟨l1, l2⟩ := inv i (by omega)
      have nn : Nn (run i).1 := ⟨by omega, fun x hx => by have := l2 x hx; omega⟩
      have F₈ : FS C h₁ (fEnv (fdAt PW 4) L a cd) [("i", .int i), ("ties", .bool (run i).2), ("cutoff", .int (lrCut votes seats)), ("remainders", intsD (lrRem votes seats)), ("votes", intsD votes), ("seats", .int seats), ("tiesallowed", .bool allowed)] (some ⟨"representatives", aR, it, (run i).1, false⟩) s₈.heap := F₈.sub (by walk_at "sub")
      refine wpAny_execs_cons (x_set (d := .int (run i).1.sum) F₈ R (Ev.sum ho (by walk_at "nm") nn) (.inr rfl) (by walk_at "ne") fun s₉ m₉ F₉ => ?_)
      have evr : Ev C n (fEnv (fdAt PW 4) L a cd) (vis (("reps_sum", D.int (run i).1.sum) :: dropN "reps_sum" [("i", .int i), ("ties", .bool (run i).2), ("cutoff", .int (lrCut votes seats)), ("remainders", intsD (lrRem votes seats)), ("votes", intsD votes), ("seats", .int seats), ("tiesallowed", .bool allowed)]) (some ⟨"representatives", aR, it, (run i).1, false⟩)) (.Name "reps_sum" ⟨0, 0, 0, 0⟩) (.int (run i).1.sum) := by walk_at "nm"
      have fin : ∀ ρ it' s', Same s₈ s' → FS C h₁ (fEnv (fdAt PW 4) L a cd) (("ties", .bool (run (i + 1)).2) :: ("cutoff", .int (lrCut votes seats)) :: ("remainders", intsD (lrRem votes seats)) :: ("votes", intsD votes) :: ("seats", .int seats) :: ("tiesallowed", .bool allowed) :: ρ) (some ⟨"representatives", aR, it', (run (i + 1)).1, false⟩) s'.heap →
          Flow.next = Flow.next ∧ Same s₈ s' ∧ ∃ ρ'' own'', (ρ'' = ([("ties", .bool (run (i + 1)).2), ("cutoff", .int (lrCut votes seats)), ("remainders", intsD (lrRem votes seats)), ("votes", intsD votes), ("seats", .int seats), ("tiesallowed", .bool allowed)] : Rho) ∧ ∃ items, own'' = some ⟨"representatives", aR, items, (run (i + 1)).1, false⟩) ∧ FS C h₁ (fEnv (fdAt PW 4) L a cd) ρ'' own'' s'.heap :=
        fun ρ it' s' m' F' => ⟨rfl, m', _, _, ⟨rfl, it', rfl⟩, F'.sub (by walk_at "sub")⟩
      have hstep := hrunS i
      unfold lrStep at hstep
      -- the branches
      refine wpAny_execs_cons (x_if F₉ R (Ts.and2 (Ts.cmp (by walk_at "nm") (by walk_at "nm") CmpOk.eq) fun _ => Ts.cmp (Ev.itemI (by walk_at "nm") (by walk_at "nm") (by omega) (by rw [hrem]; omega) (by rw [hrem]; omega)) (by walk_at "nm") CmpOk.ge) fun s₁₀ m₁₀ F₁₀ => ?_)
      have m8 := m₉.trans m₁₀
      by_cases c1 : (run i).1.sum = seats ∧ lrCut votes seats ≤ (lrRem votes seats).getD i 0
      · rw [if_pos c1] at hstep
        have b1 : (decide ((run i).1.sum = seats) && decide ((lrRem votes seats).getD (i : Int).toNat 0 ≥ lrCut votes seats)) = true := by simpa using c1
        rw [b1, if_pos rfl]
        refine wpAny_execs_cons (x_if F₁₀ R (Ts.not (Ts.val (by walk_at "nm"))) fun s₁₁ m₁₁ F₁₁ => ?_)
        cases ht : (run i).2 with
        | false =>
          rw [show (!false) = true from rfl, if_pos rfl]
          refine wpAny_execs_cons (x_set (d := .bool true) F₁₁ R Ev.bool (.inr rfl) (by walk_at "ne") fun s₁₂ m₁₂ F₁₂ => wpAny_execs_nil (wpAny_execs_nil (wpAny_execs_nil ?_)))
          refine fin [] it s₁₂ ((m8.trans m₁₁).trans m₁₂) ?_
          rw [hstep]
          exact F₁₂.sub (by walk_at "sub")
        | true =>
          rw [if_neg (by decide)]
          refine wpAny_execs_nil (wpAny_execs_nil (wpAny_execs_nil ?_))
          refine fin [] it s₁₁ (m8.trans m₁₁) ?_
          rw [hstep]
          exact F₁₁.sub (ρ' := ("ties", .bool true) :: _) (by rw [← ht]; walk_at "sub")
      · rw [if_neg c1] at hstep
        have b1 : (decide ((run i).1.sum = seats) && decide ((lrRem votes seats).getD (i : Int).toNat 0 ≥ lrCut votes seats)) = false := by
          rw [Bool.eq_false_iff]; intro h; apply c1; simpa using h
        rw [b1, if_neg (by decide)]
        refine wpAny_execs_cons (x_if F₁₀ R (Ts.and2 (Ts.cmp (by walk_at "nm") (by walk_at "nm") CmpOk.lt) fun _ => Ts.cmp (Ev.itemI (by walk_at "nm") (by walk_at "nm") (by omega) (by rw [hrem]; omega) (by rw [hrem]; omega)) (by walk_at "nm") CmpOk.gt) fun s₁₁ m₁₁ F₁₁ => ?_)
        by_cases c2 : (run i).1.sum < seats ∧ lrCut votes seats < (lrRem votes seats).getD i 0
        · rw [if_pos c2] at hstep
          have b2 : (decide ((run i).1.sum < seats) && decide ((lrRem votes seats).getD (i : Int).toNat 0 > lrCut votes seats)) = true := by simpa using c2
          rw [b2, if_pos rfl]
          refine wpAny_execs_cons (x_aug (c := 1) F₁₁ R rfl (by walk_at "nm") Ev.int (by omega) (by show (i : Int) < (run i).1.length; omega) (by show (run i).1.length ≤ 100000; omega) fun s₁₂ it' m₁₂ F₁₂ => wpAny_execs_nil (wpAny_execs_nil (wpAny_execs_nil ?_)))
          refine fin [] it' s₁₂ ((m8.trans m₁₁).trans m₁₂) ?_
          rw [hstep]
          exact F₁₂.sub (by walk_at "sub")
        · rw [if_neg c2] at hstep
          have b2 : (decide ((run i).1.sum < seats) && decide ((lrRem votes seats).getD (i : Int).toNat 0 > lrCut votes seats)) = false := by
            rw [Bool.eq_false_iff]; intro h; apply c2; simpa using h
          rw [b2, if_neg (by decide)]
          refine wpAny_execs_cons (x_if F₁₁ R (Ts.and2 (Ts.cmp (by walk_at "nm") (by walk_at "nm") CmpOk.lt) fun _ => Ts.cmp (Ev.itemI (by walk_at "nm") (by walk_at "nm") (by omega) (by rw [hrem]; omega) (by rw [hrem]; omega)) (by walk_at "nm") CmpOk.eq) fun s₁₂ m₁₂ F₁₂ => ?_)
          by_cases c3 : (run i).1.sum < seats ∧ (lrRem votes seats).getD i 0 = lrCut votes seats
          · rw [if_pos c3] at hstep
            have b3 : (decide ((run i).1.sum < seats) && decide ((lrRem votes seats).getD (i : Int).toNat 0 = lrCut votes seats)) = true := by simpa using c3
            rw [b3, if_pos rfl]
            refine wpAny_execs_cons (x_aug (c := 1) F₁₂ R rfl (by walk_at "nm") Ev.int (by omega) (by show (i : Int) < (run i).1.length; omega) (by show (run i).1.length ≤ 100000; omega) fun s₁₃ it' m₁₃ F₁₃ => wpAny_execs_nil (wpAny_execs_nil (wpAny_execs_nil (wpAny_execs_nil ?_))))
            refine fin [] it' s₁₃ (((m8.trans m₁₁).trans m₁₂).trans m₁₃) ?_
            rw [hstep]
            exact F₁₃.sub (by walk_at "sub")
          · rw [if_neg c3] at hstep
            have b3 : (decide ((run i).1.sum < seats) && decide ((lrRem votes seats).getD (i : Int).toNat 0 = lrCut votes seats)) = false := by
              rw [Bool.eq_false_iff]; intro h; apply c3; simpa using h
            rw [b3, if_neg (by decide)]
            refine wpAny_execs_nil (wpAny_execs_nil (wpAny_execs_nil (wpAny_execs_nil ?_)))
            refine fin [] it s₁₂ ((m8.trans m₁₁).trans m₁₂) ?_
            rw [hstep]
            exact F₁₂.sub (by walk_at "sub")
    · rintro ρ' own' s₈ ⟨rfl, it, rfl⟩ m₈ F₈
      rw [upD_length, ← hres] at F₈
      refine wpAny_execs_nil ⟨rfl, m07.trans m₈, _, it, F₈.sub (ρ' := [("ties", .bool (lrRes votes seats).2), ("tiesallowed", .bool allowed)]) (by walk_at "sub")⟩
  · rw [show decide ((lrReps votes seats).sum < seats) = false by simpa using hlt, if_neg (by decide)]
    refine wpAny_execs_nil ⟨rfl, m04.trans m₅, [], items, ?_⟩
    have e : lrRes votes seats = (lrReps votes seats, false) := by unfold lrRes; rw [if_neg hlt]
    rw [e]
    exact F₅.sub (by walk_at "sub")
/-! the divisor methods -/
def L0 : List Str := ["dhondt", "jefferson", "greatestdivisors"]
def L1 : List Str := ["saintelague", "webster", "majorfractions"]
def L2 : List Str := ["modified_saintelague"]
def L3 : List Str := ["huntington", "hill", "equalproportions"]
def L4 : List Str := ["adams", "smallestdivisor"]
def L5 : List Str := ["dean", "harmonicmean"]
def famOf (m : Str) : Nat := if L0.contains m then 0 else if L1.contains m then 1 else if L2.contains m then 2 else if L3.contains m then 3 else if L4.contains m then 4 else if L5.contains m then 5 else 6
def dvDiv (k : Nat) (i : Nat) : Int × Int := match k with
  | 0 => (i + 1, 1)
  | 1 => (2 * i + 1, 1)
  | 2 => if i = 0 then (7, 5) else (2 * i + 1, 1)
  | 3 => ((i + 1) * (i + 2), 1)
  | 4 => (i + 1, 1)
  | _ => (2 * (i + 1) * (i + 2), 2 * (i + 1) + 1)
def dvDivs (k : Nat) (seats : Int) : List (Int × Int) := (List.range seats.toNat).map (dvDiv k)
def pairD (d : Int × Int) : D := .tup [.int d.1, .int d.2]
def dvInit (k : Nat) (votes : List Int) : List Int := if k < 3 then List.replicate votes.length 0 else votes.map fun p => if 0 < p then 1 else 0

theorem fam3 (m : Str) : L3.contains m = decide (famOf m = 3) := by
  unfold famOf
  by_cases h : L3.contains m = true
  · have h' : m ∈ L3 := by simpa using h
    rw [h]
    simp only [L3, List.mem_cons, List.not_mem_nil, or_false] at h'
    rcases h' with rfl | rfl | rfl <;> decide
  · have h' : L3.contains m = false := by simpa using h
    rw [h']
    symm
    rw [decide_eq_false_iff_not]
    repeat' split
    all_goals first | decide | (rename_i q; exact absurd q (by simp))

theorem dv_head {C : W0} {n : Nat} {votes : List Int} {seats : Int} {m : Str} {allowed : Bool} {h₀ : Heap} {A : Around} {s : Shared} {L a : Addr} {cd : Value} {Q : Flow → Shared → Prop} {E : Value → Shared → Prop} (hl1 : 1 ≤ votes.length) (hl5 : votes.length ≤ 5) (h0 : votes.length ≤ seats) (h1 : seats ≤ 12)
    (R : Room n A) (hc : EnvC (fEnv (fdAt PW 5) L a cd)) (ho : EnvOk (fEnv (fdAt PW 5) L a cd)) (F : FS C h₀ (fEnv (fdAt PW 5) L a cd) [("votes", intsD votes), ("seats", .int seats), ("method", .str m), ("tiesallowed", .bool allowed)] none s.heap)
    (k : famOf m < 6 → ∀ s', Same s s' → FS C h₀ (fEnv (fdAt PW 5) L a cd) [("divisors", .list ((dvDivs (famOf m) seats).map pairD)), ("representatives", intsD (dvInit (famOf m) votes)), ("votes", intsD votes), ("seats", .int seats), ("method", .str m), ("tiesallowed", .bool allowed)] none s'.heap →
      wpAny (model C.prog C.w) A (execs ((fdAt PW 5).body.drop 2) (fEnv (fdAt PW 5) L a cd)) Q E s')
    (hm : m.length < 2 ^ 19)
    (kx : famOf m = 6 → ∀ ρ s' e x np cpos pos, Same s s' → FS C h₀ (fEnv (fdAt PW 5) L a cd) ρ none s'.heap → Ev C n (fEnv (fdAt PW 5) L a cd) ρ e (.str x) → starEach [e] (fEnv (fdAt PW 5) L a cd) = (false, eval e (fEnv (fdAt PW 5) L a cd)) :: starEach [] (fEnv (fdAt PW 5) L a cd) →
      wpAny (model C.prog C.w) A (exec (.Raise (some (.Call (.Name "NotImplementedError" np) [e] [] cpos)) none pos) (fEnv (fdAt PW 5) L a cd)) (fun f s' => match f with | .next => False | f => Q f s') E s') :
    wpAny (model C.prog C.w) A (execs (fdAt PW 5).body (fEnv (fdAt PW 5) L a cd)) Q E s := by
  show wpAny _ _ (execs (_ :: _) _) _ _ _
  refine wpAny_execs_cons (x_set (d := intsD (List.replicate votes.length 0)) F R (EvF.cast (EvF.zeros (Ev.len ho (by walk_at "nm") (by simp; omega)) (by omega) (by simp; omega)) (by simp)).ev (.inl rfl) (by walk_at "ne") fun s₁ m₁ F₁ => ?_)
  have F₁ : FS C h₀ (fEnv (fdAt PW 5) L a cd) [("representatives", intsD (List.replicate votes.length 0)), ("votes", intsD votes), ("seats", .int seats), ("method", .str m), ("tiesallowed", .bool allowed)] none s₁.heap := F₁.sub (by walk_at "sub")
  refine wpAny_execs_cons (wpAny_mono (Q := fun f s' => match f with | .next => famOf m < 6 ∧ Same s s' ∧ FS C h₀ (fEnv (fdAt PW 5) L a cd) [("divisors", .list ((dvDivs (famOf m) seats).map pairD)), ("representatives", intsD (dvInit (famOf m) votes)), ("votes", intsD votes), ("seats", .int seats), ("method", .str m), ("tiesallowed", .bool allowed)] none s'.heap | f => Q f s') ?_ (fun f s' h => ?_) fun _ _ x => x)
  rotate_left
  · cases f with
    | next => exact k h.1 s' h.2.1 h.2.2
    | _ => exact h
  have sm : ∀ x : Int, 0 ≤ x ∧ x ≤ 1000 → Sm x := fun x h => by unfold Sm; omega
  refine x_if (b := L0.contains m) F₁ R (by walk_at "inS") fun s₂ m₂ F₂ => ?_
  cases c0 : L0.contains m with
  | true =>
    have hf : famOf m = 0 := by unfold famOf; rw [c0]; rfl
    rw [if_pos rfl]
    refine wpAny_execs_cons (x_set F₂ R (Ev.compL (xs := List.range seats.toNat) _ (fun i => pairD (dvDiv 0 i)) ho nat_inj (It.rangeI ho (by walk_at "nm") (by omega) (by omega)) fun i hi C₀ => ?_) (.inl rfl) (by walk_at "ne") fun s₃ m₃ F₃ => wpAny_execs_nil ⟨by omega, (m₁.trans m₂).trans m₃, ?_⟩)
    · exact EvN.tup (EvL.cons (Ev.add (by walk_at "nm") Ev.int) (EvL.cons Ev.int EvL.nil))
    · rw [hf, dvDivs, List.map_map]
      exact F₃.sub (by walk_at "sub")
  | false =>
  rw [if_neg (by decide)]
  refine wpAny_execs_cons (x_if (b := L1.contains m) F₂ R (by walk_at "inS") fun s₃ m₃ F₃ => ?_)
  cases c1 : L1.contains m with
  | true =>
    have hf : famOf m = 1 := by unfold famOf; rw [c0, c1]; rfl
    rw [if_pos rfl]
    refine wpAny_execs_cons (x_set F₃ R (Ev.compL (xs := List.range seats.toNat) _ (fun i => pairD (dvDiv 1 i)) ho nat_inj (It.rangeI ho (by walk_at "nm") (by omega) (by omega)) fun i hi C₀ => ?_) (.inl rfl) (by walk_at "ne") fun s₄ m₄ F₄ => wpAny_execs_nil (wpAny_execs_nil ⟨by omega, ((m₁.trans m₂).trans m₃).trans m₄, ?_⟩))
    · have hi := List.mem_range.mp hi
      exact EvN.tup (EvL.cons (Ev.add (Ev.mul Ev.int (by walk_at "nm") (sm _ (by omega)) (sm _ (by omega))) Ev.int) (EvL.cons Ev.int EvL.nil))
    · rw [hf, dvDivs, List.map_map]
      exact F₄.sub (by walk_at "sub")
  | false =>
  rw [if_neg (by decide)]
  refine wpAny_execs_cons (x_if (b := L2.contains m) F₃ R (by walk_at "inS") fun s₄ m₄ F₄ => ?_)
  have m04 := ((m₁.trans m₂).trans m₃).trans m₄
  cases c2 : L2.contains m with
  | true =>
    have hf : famOf m = 2 := by unfold famOf; rw [c0, c1, c2]; rfl
    rw [if_pos rfl]
    have e2 : [pairD (7, 5)] ++ (List.range (seats - 1).toNat).map (fun (i : Nat) => pairD (2 * (1 + (i : Int)) + 1, 1)) = (dvDivs 2 seats).map pairD := by
      have : seats.toNat = (seats - 1).toNat + 1 := by omega
      rw [dvDivs, List.map_map, this, List.range_succ_eq_map, List.map_cons, List.map_map]
      rw [List.singleton_append]
      congr 1
      apply List.map_congr_left; intro i _
      show _ = pairD (dvDiv 2 (i + 1))
      unfold dvDiv
      rw [if_neg (by omega), Int.natCast_add, Int.add_comm 1]; rfl
    refine wpAny_execs_cons (x_set F₄ R (Ev.cast (Ev.cat (Ev.list (EvL.cons (Ev.tup (EvL.cons Ev.int (EvL.cons Ev.int EvL.nil))) EvL.nil)) (Ev.compL (xs := List.range (seats - 1).toNat) (fun (i : Nat) => D.int (1 + (i : Int))) (fun (i : Nat) => pairD (2 * (1 + (i : Int)) + 1, 1)) ho (fun x y h => by have := int_inj _ _ h; omega) (It.range2 ho Ev.int (by walk_at "nm") (by omega) (by omega) (by omega)) fun i hi C₀ => ?_) (by simp; omega)) (congrArg D.list e2)) (.inl rfl) (by walk_at "ne") fun s₅ m₅ F₅ => wpAny_execs_nil (wpAny_execs_nil (wpAny_execs_nil ⟨by omega, m04.trans m₅, ?_⟩)))
    · have hi := List.mem_range.mp hi
      exact EvN.tup (EvL.cons (Ev.add (Ev.mul Ev.int (by walk_at "nm") (sm _ (by omega)) (sm _ (by omega))) Ev.int) (EvL.cons Ev.int EvL.nil))
    · rw [hf]
      exact F₅.sub (by walk_at "sub")
  | false =>
  rw [if_neg (by decide)]
  have init : ∀ k, 3 ≤ k → votes.map (fun p => if 0 < p then (1 : Int) else 0) = dvInit k votes := fun k hk => by
    unfold dvInit; rw [if_neg (by omega)]
  have hsl : decide (seats < ((votes.map D.int).length : Nat)) = false := by simp; omega
  have ite : ∀ {C₀ : Addr} {ρ : Rho} {scope : Scope} {p : Int} {e₁ : Expr} {k₁ k₂ : Nat} {p₁ p₂ p₃ : Pos}, Ts C n (cEnv scope (fEnv (fdAt PW 5) L a cd) C₀) ρ e₁ (decide (0 < p)) → Ev C n (cEnv scope (fEnv (fdAt PW 5) L a cd) C₀) ρ (.IfExp e₁ (.Constant (.int 1) k₁ p₁) (.Constant (.int 0) k₂ p₂) p₃) (.int (if 0 < p then 1 else 0)) := fun h =>
    Ev.cast (Ev.ite h (fun _ => Ev.int) (fun _ => Ev.int)) (by simp only [decide_eq_true_eq]; split <;> rfl)
  refine wpAny_execs_cons (x_if (b := L3.contains m) F₄ R (by walk_at "inS") fun s₅ m₅ F₅ => ?_)
  cases c3 : L3.contains m with
  | true =>
    have hf : famOf m = 3 := by unfold famOf; rw [c0, c1, c2, c3]; rfl
    rw [if_pos rfl]
    refine wpAny_execs_cons (x_if F₅ R (Ts.cmp (by walk_at "nm") (Ev.len ho (by walk_at "nm") (by simp; omega)) CmpOk.lt) fun s₆ m₆ F₆ => ?_)
    rw [hsl, if_neg (by decide)]
    refine wpAny_execs_cons (x_set F₆ R (EvN.compI D.int (fun p => if 0 < p then (1 : Int) else 0) ho int_inj (It.ints (by walk_at "nm") (by omega)) fun p hp C₀ => ite (Ts.cmp (by walk_at "nm") Ev.int CmpOk.gt)).ev (.inl rfl) (by walk_at "ne") fun s₇ m₇ F₇ => ?_)
    rw [init 3 (by omega)] at F₇
    have F₇ : FS C h₀ (fEnv (fdAt PW 5) L a cd) [("representatives", intsD (dvInit 3 votes)), ("votes", intsD votes), ("seats", .int seats), ("method", .str m), ("tiesallowed", .bool allowed)] none s₇.heap := F₇.sub (by walk_at "sub")
    refine wpAny_execs_cons (x_set F₇ R (Ev.compL (xs := List.range seats.toNat) _ (fun i => pairD (dvDiv 3 i)) ho nat_inj (It.rangeI ho (by walk_at "nm") (by omega) (by omega)) fun i hi C₀ => ?_) (.inl rfl) (by walk_at "ne") fun s₈ m₈ F₈ => wpAny_execs_nil (wpAny_execs_nil (wpAny_execs_nil (wpAny_execs_nil (wpAny_execs_nil ⟨by omega, (((m04.trans m₅).trans m₆).trans m₇).trans m₈, ?_⟩)))))
    · have hi := List.mem_range.mp hi
      exact EvN.tup (EvL.cons (Ev.mul (Ev.add (by walk_at "nm") Ev.int) (Ev.add (by walk_at "nm") Ev.int) (sm _ (by omega)) (sm _ (by omega))) (EvL.cons Ev.int EvL.nil))
    · rw [hf, dvDivs, List.map_map]
      exact F₈.sub (by walk_at "sub")
  | false =>
  rw [if_neg (by decide)]
  refine wpAny_execs_cons (x_if (b := L4.contains m) F₅ R (by walk_at "inS") fun s₆ m₆ F₆ => ?_)
  have m06 := (m04.trans m₅).trans m₆
  cases c4 : L4.contains m with
  | true =>
    have hf : famOf m = 4 := by unfold famOf; rw [c0, c1, c2, c3, c4]; rfl
    rw [if_pos rfl]
    refine wpAny_execs_cons (x_if F₆ R (Ts.cmp (by walk_at "nm") (Ev.len ho (by walk_at "nm") (by simp; omega)) CmpOk.lt) fun s₇ m₇ F₇ => ?_)
    rw [hsl, if_neg (by decide)]
    refine wpAny_execs_cons (x_set F₇ R (EvN.compI D.int (fun p => if 0 < p then (1 : Int) else 0) ho int_inj (It.ints (by walk_at "nm") (by omega)) fun p hp C₀ => ite (Ts.cmp (by walk_at "nm") Ev.int CmpOk.gt)).ev (.inl rfl) (by walk_at "ne") fun s₈ m₈ F₈ => ?_)
    rw [init 4 (by omega)] at F₈
    have F₈ : FS C h₀ (fEnv (fdAt PW 5) L a cd) [("representatives", intsD (dvInit 4 votes)), ("votes", intsD votes), ("seats", .int seats), ("method", .str m), ("tiesallowed", .bool allowed)] none s₈.heap := F₈.sub (by walk_at "sub")
    refine wpAny_execs_cons (x_set F₈ R (Ev.compL (xs := List.range seats.toNat) _ (fun i => pairD (dvDiv 4 i)) ho nat_inj (It.rangeI ho (by walk_at "nm") (by omega) (by omega)) fun i hi C₀ => ?_) (.inl rfl) (by walk_at "ne") fun s₉ m₉ F₉ => wpAny_execs_nil (wpAny_execs_nil (wpAny_execs_nil (wpAny_execs_nil (wpAny_execs_nil (wpAny_execs_nil ⟨by omega, ((m06.trans m₇).trans m₈).trans m₉, ?_⟩))))))
    · exact EvN.tup (EvL.cons (Ev.add (by walk_at "nm") Ev.int) (EvL.cons Ev.int EvL.nil))
    · rw [hf, dvDivs, List.map_map]
      exact F₉.sub (by walk_at "sub")
  | false =>
  rw [if_neg (by decide)]
  refine wpAny_execs_cons (x_if (b := L5.contains m) F₆ R (by walk_at "inS") fun s₇ m₇ F₇ => ?_)
  have m07 := m06.trans m₇
  cases c5 : L5.contains m with
  | true =>
    have hf : famOf m = 5 := by unfold famOf; rw [c0, c1, c2, c3, c4, c5]; rfl
    rw [if_pos rfl]
    refine wpAny_execs_cons (x_if F₇ R (Ts.cmp (by walk_at "nm") (Ev.len ho (by walk_at "nm") (by simp; omega)) CmpOk.lt) fun s₈ m₈ F₈ => ?_)
    rw [hsl, if_neg (by decide)]
    refine wpAny_execs_cons (x_set F₈ R (EvN.compI D.int (fun p => if 0 < p then (1 : Int) else 0) ho int_inj (It.ints (by walk_at "nm") (by omega)) fun p hp C₀ => ite (Ts.cmp (by walk_at "nm") Ev.int CmpOk.gt)).ev (.inl rfl) (by walk_at "ne") fun s₉ m₉ F₉ => ?_)
    rw [init 5 (by omega)] at F₉
    have F₉ : FS C h₀ (fEnv (fdAt PW 5) L a cd) [("representatives", intsD (dvInit 5 votes)), ("votes", intsD votes), ("seats", .int seats), ("method", .str m), ("tiesallowed", .bool allowed)] none s₉.heap := F₉.sub (by walk_at "sub")
    refine wpAny_execs_cons (x_set F₉ R (Ev.compL (xs := List.range seats.toNat) _ (fun i => pairD (dvDiv 5 i)) ho nat_inj (It.rangeI ho (by walk_at "nm") (by omega) (by omega)) fun i hi C₀ => ?_) (.inl rfl) (by walk_at "ne") fun s₁₀ m₁₀ F₁₀ => wpAny_execs_nil (wpAny_execs_nil (wpAny_execs_nil (wpAny_execs_nil (wpAny_execs_nil (wpAny_execs_nil (wpAny_execs_nil ⟨by omega, ((m07.trans m₈).trans m₉).trans m₁₀, ?_⟩)))))))
    · have hi := List.mem_range.mp hi
      exact EvN.tup (EvL.cons (Ev.mul (Ev.mul Ev.int (Ev.add (by walk_at "nm") Ev.int) (sm _ (by omega)) (sm _ (by omega))) (Ev.add (by walk_at "nm") Ev.int) (sm _ (by omega)) (sm _ (by omega))) (EvL.cons (Ev.add (Ev.mul Ev.int (Ev.add (by walk_at "nm") Ev.int) (sm _ (by omega)) (sm _ (by omega))) Ev.int) EvL.nil))
    · rw [hf, dvDivs, List.map_map]
      exact F₁₀.sub (by walk_at "sub")
  | false =>
  have hf : famOf m = 6 := by unfold famOf; rw [c0, c1, c2, c3, c4, c5]; rfl
  rw [if_neg (by decide)]
  refine wpAny_execs_cons (wpAny_mono (kx hf _ s₇ _ _ _ _ _ (m07) F₇ (Ev.adds (Ev.adds Ev.str (by walk_at "nm") (by decide +kernel) (by omega)) Ev.str ?_ (by decide +kernel)) rfl) (fun f s' h => ?_) fun _ _ x => x)
  · show ((Str.ofString "divisor method ").cps ++ m.cps).size < 2 ^ 20
    rw [Array.size_append]
    unfold Str.length at hm
    have : (Str.ofString "divisor method ").cps.size < 20 := by decide +kernel
    omega
  · cases f with
    | next => exact h.elim
    | _ => exact h
theorem mulB {a b x y : Int} (h1 : 0 ≤ a ∧ a ≤ x) (h2 : 0 ≤ b ∧ b ≤ y) : 0 ≤ a * b ∧ a * b ≤ x * y :=
  ⟨Int.mul_nonneg h1.1 h2.1, Int.mul_le_mul h1.2 h2.2 h2.1 (by omega)⟩

def dvPow (k : Nat) (p : Int) : Int := if k = 3 then p * p else p
def dvCommon (ds : List (Int × Int)) : Int := ds.foldl (fun c d => c * d.1) 1
def dvRow (k : Nat) (ds : List (Int × Int)) (p : Int) : List Int := ds.map fun d => dvPow k p * d.2 * dvCommon ds / d.1
def dvW (k : Nat) (ds : List (Int × Int)) (votes : List Int) : List (List Int) := votes.map (dvRow k ds)
def dvMin (W : List (List Int)) (init : List Int) (seats : Int) : Int := (srt W.flatten).getD (-seats + init.sum + (W.flatten.length : Int)).toNat 0
def cnt (mn : Int) (row : List Int) : Int := ((row.filter fun w => decide (mn < w)).length : Nat)
def dvReps (W : List (List Int)) (init : List Int) (mn : Int) (n : Nat) : List Int := (List.range n).map fun i => init.getD i 0 + cnt mn (W.getD i [])
def dvStep (W : List (List Int)) (mn seats : Int) (i : Nat) (st : List Int × Bool) : List Int × Bool :=
  (if st.1.sum < seats ∧ (W.getD i []).contains mn = true then st.1.set i (st.1.getD i 0 + 1) else st.1, st.2 || (decide (st.1.sum = seats) && (W.getD i []).contains mn))
def dvRun (W : List (List Int)) (mn seats : Int) (st : List Int × Bool) : Nat → List Int × Bool
  | 0 => st
  | i + 1 => dvStep W mn seats i (dvRun W mn seats st i)
def dvFin (W : List (List Int)) (init : List Int) (seats : Int) (n : Nat) : List Int × Bool :=
  if (dvReps W init (dvMin W init seats) n).sum < seats then dvRun W (dvMin W init seats) seats (dvReps W init (dvMin W init seats) n, false) n else (dvReps W init (dvMin W init seats) n, false)
def dvRes (k : Nat) (votes : List Int) (seats : Int) : List Int × Bool :=
  if (dvInit k votes).sum < seats then dvFin (dvW k (dvDivs k seats) votes) (dvInit k votes) seats votes.length else (dvInit k votes, false)

theorem dvDiv_b : ∀ k < 6, ∀ i < 12, (1 ≤ (dvDiv k i).1 ∧ (dvDiv k i).1 ≤ 512) ∧ (1 ≤ (dvDiv k i).2 ∧ (dvDiv k i).2 ≤ 32) := by decide +kernel
theorem dvDivs_b {k : Nat} {seats : Int} (hk : k < 6) (h1 : seats ≤ 12) : ∀ d ∈ dvDivs k seats, (1 ≤ d.1 ∧ d.1 ≤ 512) ∧ (1 ≤ d.2 ∧ d.2 ≤ 32) := fun d hd => by
  obtain ⟨i, hi, rfl⟩ := List.mem_map.mp hd
  have := List.mem_range.mp hi
  exact dvDiv_b k hk i (by omega)
theorem dvCommon_b : ∀ {ds : List (Int × Int)}, (∀ d ∈ ds, 1 ≤ d.1 ∧ d.1 ≤ 512) → ∀ c : Int, 1 ≤ c → 1 ≤ ds.foldl (fun c d => c * d.1) c ∧ ds.foldl (fun c d => c * d.1) c ≤ c * 512 ^ ds.length
  | [], _, c, h => by simp; exact h
  | d :: ds, hd, c, h => by
    have h1 := hd d (by simp)
    have h2 : 1 ≤ c * d.1 := by
      have := Int.mul_le_mul h h1.1 (by omega) (by omega : (0 : Int) ≤ c); omega
    have ih := dvCommon_b (ds := ds) (fun x hx => hd x (by simp [hx])) (c * d.1) h2
    refine ⟨ih.1, ?_⟩
    have e : c * d.1 * 512 ^ ds.length ≤ c * 512 * 512 ^ ds.length := by
      apply Int.mul_le_mul_of_nonneg_right _ (Int.pow_nonneg (by omega))
      exact Int.mul_le_mul_of_nonneg_left h1.2 (by omega)
    have e2 : c * (512 : Int) ^ (d :: ds).length = c * 512 * 512 ^ ds.length := by
      rw [List.length_cons, Int.pow_succ, Int.mul_comm ((512 : Int) ^ ds.length), Int.mul_assoc]
    rw [e2]
    exact Int.le_trans ih.2 e
theorem common_b {ds : List (Int × Int)} (hd : ∀ d ∈ ds, 1 ≤ d.1 ∧ d.1 ≤ 512) (hl : ds.length ≤ 12) : 1 ≤ dvCommon ds ∧ dvCommon ds ≤ 2 ^ 108 := by
  have h := dvCommon_b hd 1 (by omega)
  refine ⟨h.1, Int.le_trans h.2 ?_⟩
  rw [Int.one_mul]
  have : (512 : Int) ^ ds.length ≤ 512 ^ 12 := by
    have := Nat.pow_le_pow_right (n := 512) (by omega) hl
    exact_mod_cast this
  exact Int.le_trans this (by decide)

theorem flat_len {k : Nat} {votes : List Int} {ds : List (Int × Int)} : (dvW k ds votes).flatten.length = votes.length * ds.length := by
  unfold dvW
  induction votes with
  | nil => simp
  | cons p l ih =>
    rw [List.map_cons, List.flatten_cons, List.length_append, ih, List.length_cons, Nat.add_mul]
    simp [dvRow]; omega

theorem init_b {k : Nat} {votes : List Int} : (dvInit k votes).length = votes.length ∧ ∀ x ∈ dvInit k votes, 0 ≤ x ∧ x ≤ 1 := by
  unfold dvInit
  split
  · refine ⟨by simp, fun x hx => ?_⟩
    have := (List.mem_replicate.mp hx).2; omega
  · refine ⟨by simp, fun x hx => ?_⟩
    obtain ⟨p, _, rfl⟩ := List.mem_map.mp hx
    split <;> omega
theorem sum_nonneg : ∀ {xs : List Int}, (∀ x ∈ xs, 0 ≤ x) → 0 ≤ xs.sum
  | [], _ => by simp
  | x :: xs, h => by
    have := sum_nonneg (xs := xs) fun y hy => h y (by simp [hy])
    have := h x (by simp)
    rw [List.sum_cons]; omega
theorem cnt_b {mn : Int} {row : List Int} : 0 ≤ cnt mn row ∧ cnt mn row ≤ row.length := by
  unfold cnt
  have := List.length_filter_le (fun w => decide (mn < w)) row
  omega
theorem dvRun_mono {W : List (List Int)} {mn seats : Int} {st : List Int × Bool} : ∀ {i j : Nat}, i ≤ j → (dvRun W mn seats st i).2 = true → (dvRun W mn seats st j).2 = true
  | i, 0, h, h2 => by have : i = 0 := by omega
                      subst this; exact h2
  | i, j + 1, h, h2 => by
    by_cases e : i = j + 1
    · subst e; exact h2
    · have := dvRun_mono (i := i) (j := j) (by omega) h2
      show (_ || _) = true
      rw [this]; rfl
theorem dv_body {C : W0} {n : Nat} {votes : List Int} {seats : Int} {m : Str} {allowed : Bool} {h₀ : Heap} {A : Around} {s : Shared} {L a : Addr} {cd : Value} {Q : Flow → Shared → Prop} {E : Value → Shared → Prop} (hv : Vok votes) (h0 : votes.length ≤ seats) (h1 : seats ≤ 12) (hm : m.length < 2 ^ 19) (hf6 : famOf m < 6)
    (R : Room n A) (hc : EnvC (fEnv (fdAt PW 5) L a cd)) (ho : EnvOk (fEnv (fdAt PW 5) L a cd)) (F : FS C h₀ (fEnv (fdAt PW 5) L a cd) [("votes", intsD votes), ("seats", .int seats), ("method", .str m), ("tiesallowed", .bool allowed)] none s.heap)
    (hret : ((dvRes (famOf m) votes seats).2 && !allowed) = false → ∀ v s', Same s s' → Kp h₀ s'.heap → Rep s'.heap v (intsD (dvRes (famOf m) votes seats).1) → Q (.ret v) s')
    (hpass : ((dvRes (famOf m) votes seats).2 && !allowed) = true → PassesOwn (model C.prog C.w) A (fEnv (fdAt PW 5) L a cd) E)
    (hraise : ((dvRes (famOf m) votes seats).2 && !allowed) = true → ∀ ρ own s' np k cp cpos pos, Same s s' → FS C h₀ (fEnv (fdAt PW 5) L a cd) ρ own s'.heap →
      wpAny (model C.prog C.w) A (exec (.Raise (some (.Call (.Name "TiesException" np) [.Constant (.str "Tie occurred") k cp] [] cpos)) none pos) (fEnv (fdAt PW 5) L a cd)) (fun _ _ => False) E s') :
    wpAny (model C.prog C.w) A (execs (fdAt PW 5).body (fEnv (fdAt PW 5) L a cd)) Q E s := by
  have hlo := hv.lo
  have hhi := hv.hi
  refine dv_head hlo hhi h0 h1 R hc ho F (fun hf s₁ m₁ F₁ => ?_) hm (fun h => by omega)
  have hD := dvDivs_b hf6 h1
  have hDl : (dvDivs (famOf m) seats).length = seats.toNat := by simp [dvDivs]
  have hCm := common_b (fun d hd => (hD d hd).1) (by rw [hDl]; omega)
  have hb := init_b (k := famOf m) (votes := votes)
  have nn0 : Nn (dvInit (famOf m) votes) := ⟨by omega, fun x hx => by have := hb.2 x hx; omega⟩
  have tail : ∀ (r : List Int × Bool) ρ own s₅, dvRes (famOf m) votes seats = r → Same s s₅ → FS C h₀ (fEnv (fdAt PW 5) L a cd) ρ own s₅.heap → (("ties" : Str), D.bool r.2) ∈ vis ρ own → (("tiesallowed" : Str), D.bool allowed) ∈ vis ρ own → (("representatives" : Str), intsD r.1) ∈ vis ρ own →
      wpAny (model C.prog C.w) A (execs ((fdAt PW 5).body.drop 5) (fEnv (fdAt PW 5) L a cd)) Q E s₅ := by
    intro r ρ own s₅ hr m₅ F₅ q1 q2 q3
    subst hr
    show wpAny _ _ (execs (_ :: _) _) _ _ _
    refine wpAny_execs_cons (x_if F₅ R (Ts.and2 (Ts.val (Ev.name ho q1)) fun _ => Ts.not (Ts.val (Ev.name ho q2))) fun s₆ m₆ F₆ => ?_)
    cases hb : ((dvRes (famOf m) votes seats).2 && !allowed) with
    | true =>
      rw [if_pos rfl]
      exact wpAny_execs_cons (wpAny_mono (hraise hb _ _ _ _ _ _ _ _ (m₅.trans m₆) F₆) (fun f s' h => h.elim) fun _ _ x => x)
    | false =>
      rw [if_neg (by decide)]
      refine wpAny_execs_nil ?_
      refine wpAny_execs_cons (x_ret F₆ R (Ev.name ho q3) fun v s₇ m₇ kp r => ?_)
      exact hret hb v s₇ ((m₅.trans m₆).trans m₇) kp r
  show wpAny _ _ (execs (_ :: _) _) _ _ _
  refine wpAny_execs_cons (x_if F₁ R (Ts.cmp (by walk_at "nm") (Ev.sum ho (by walk_at "nm") nn0) CmpOk.gt) fun s₂ m₂ F₂ => ?_)
  by_cases hlt : (dvInit (famOf m) votes).sum < seats
  rotate_left
  · have hr : dvRes (famOf m) votes seats = (dvInit (famOf m) votes, false) := by unfold dvRes; rw [if_neg hlt]
    rw [show decide ((dvInit (famOf m) votes).sum < seats) = false by simpa using hlt, if_neg (by decide)]
    refine wpAny_execs_nil ?_
    refine wpAny_execs_cons (x_set (d := .bool false) F₂ R Ev.bool (.inl rfl) (by walk_at "ne") fun s₃ m₃ F₃ => ?_)
    refine wpAny_execs_cons (x_if F₃ R (Ts.cmp (by walk_at "nm") (Ev.sum ho (by walk_at "nm") nn0) CmpOk.gt) fun s₄ m₄ F₄ => ?_)
    rw [show decide ((dvInit (famOf m) votes).sum < seats) = false by simpa using hlt, if_neg (by decide)]
    refine wpAny_execs_nil ?_
    exact tail _ _ _ _ hr (((m₁.trans m₂).trans m₃).trans m₄) (F₄.sub (ρ' := [("ties", .bool false), ("tiesallowed", .bool allowed), ("representatives", intsD (dvInit (famOf m) votes))]) (by walk_at "sub")) (by walk_at "mm") (by walk_at "mm") (by walk_at "mm")
  rw [show decide ((dvInit (famOf m) votes).sum < seats) = true by simpa using hlt, if_pos rfl]
  -- common
  refine wpAny_execs_cons (x_set (d := .int 1) F₂ R Ev.int (.inl rfl) (by walk_at "ne") fun s₃ m₃ F₃ => ?_)
  have F₃ : FS C h₀ (fEnv (fdAt PW 5) L a cd) [("common", .int 1), ("divisors", .list ((dvDivs (famOf m) seats).map pairD)), ("representatives", intsD (dvInit (famOf m) votes)), ("votes", intsD votes), ("seats", .int seats), ("method", .str m), ("tiesallowed", .bool allowed)] none s₃.heap := F₃.sub (by walk_at "sub")
  refine wpAny_execs_cons (x_for (xs := (dvDivs (famOf m) seats).map pairD) hc F₃ R (ItO.name (by walk_at "mm") (by simp [hDl]; omega))
    (fun i ρ own => ρ = ([("common", .int (((dvDivs (famOf m) seats).take i).foldl (fun c d => c * d.1) 1)), ("divisors", .list ((dvDivs (famOf m) seats).map pairD)), ("representatives", intsD (dvInit (famOf m) votes)), ("votes", intsD votes), ("seats", .int seats), ("method", .str m), ("tiesallowed", .bool allowed)] : Rho) ∧ own = none) (fun _ _ _ => False) ?_ ?_ ?_ (.inl rfl) ?_ (fun _ _ _ _ h => h.elim) ?_)
  · exact ⟨rfl, rfl⟩
  · rintro i ρ' own' ⟨_, rfl⟩; rfl
  · rintro i ρ' own' ⟨_, rfl⟩ o e; cases e
  · rintro i d ρ' own' h₁ s₄ hd ⟨rfl, rfl⟩ kh m₄ F₄
    rw [List.getElem?_map] at hd
    obtain ⟨q, hq, rfl⟩ := Option.map_eq_some_iff.mp hd
    have hmem : q ∈ dvDivs (famOf m) seats := List.mem_of_getElem? hq
    have hb1 := dvCommon_b (ds := (dvDivs (famOf m) seats).take i) (fun d hd => (hD d (List.mem_of_mem_take hd)).1) 1 (by omega)
    have hb2 : ((dvDivs (famOf m) seats).take i).foldl (fun c d => c * d.1) 1 ≤ 2 ^ 108 :=
      (common_b (ds := (dvDivs (famOf m) seats).take i) (fun d hd => (hD d (List.mem_of_mem_take hd)).1) (by rw [List.length_take, hDl]; omega)).2
    have hq1 := (hD q hmem).1
    have e : ((dvDivs (famOf m) seats).take (i + 1)).foldl (fun c d => c * d.1) 1 = ((dvDivs (famOf m) seats).take i).foldl (fun c d => c * d.1) 1 * q.1 := by
      rw [List.take_add_one, hq, List.foldl_append]; rfl
    refine wpAny_execs_cons (x_set F₄ R (Ev.mul (by walk_at "nm") (Ev.itemT (d := .int q.1) (by walk_at "nm") Ev.int (by decide) (by decide) rfl) (by unfold Sm; omega) (by unfold Sm; omega)) (.inl rfl) (by walk_at "ne") fun s₅ m₅ F₅ => wpAny_execs_nil ⟨rfl, m₅, _, _, ⟨rfl, rfl⟩, ?_⟩)
    rw [e]
    exact F₅.sub (by walk_at "sub")
  rintro ρ' own' s₄ ⟨rfl, rfl⟩ m₄ F₄
  rw [show ((dvDivs (famOf m) seats).take ((dvDivs (famOf m) seats).map pairD).length).foldl (fun c d => c * d.1) 1 = dvCommon (dvDivs (famOf m) seats) by rw [List.length_map, List.take_length]; rfl] at F₄
  generalize hds : dvDivs (famOf m) seats = ds at *
  have m04 : Same s s₄ := (((m₁.trans m₂).trans m₃).trans m₄)
  have hp : ∀ p ∈ votes, 0 ≤ p ∧ p ≤ 2 ^ 50 := fun p hp => by have := hv.nn p hp; omega
  have hpp : ∀ p ∈ votes, 0 ≤ p * p ∧ p * p ≤ 2 ^ 50 * 2 ^ 50 := fun p h => mulB (hp p h) (hp p h)
  have hp2 : ∀ p ∈ votes, ∀ d ∈ ds, 0 ≤ p * d.2 ∧ p * d.2 ≤ 2 ^ 50 * 32 := fun p h d hd => mulB (hp p h) (by have := hD d hd; omega)
  have hpp2 : ∀ p ∈ votes, ∀ d ∈ ds, 0 ≤ p * p * d.2 ∧ p * p * d.2 ≤ 2 ^ 50 * 2 ^ 50 * 32 := fun p h d hd => mulB (hpp p h) (by have := hD d hd; omega)
  have pair_inj : ∀ x y : Int × Int, pairD x = pairD y → x = y := fun x y h => by
    unfold pairD at h; cases x; cases y; simp only [D.tup.injEq, List.cons.injEq, D.int.injEq] at h; simp [h.1, h.2.1]
  have smC : Sm (dvCommon ds) := by unfold Sm; omega
  -- weights
  refine wpAny_execs_cons (wpAny_mono (Q := fun f s' => f = .next ∧ Same s s' ∧ FS C h₀ (fEnv (fdAt PW 5) L a cd) [("weights", .list ((dvW (famOf m) ds votes).map intsD)), ("representatives", intsD (dvInit (famOf m) votes)), ("votes", intsD votes), ("seats", .int seats), ("method", .str m), ("tiesallowed", .bool allowed)] none s'.heap) ?_ (fun f s₅ ⟨e, m₅, F₅⟩ => ?_) fun _ _ x => x)
  · refine x_if (b := L3.contains m) F₄ R (by walk_at "inS") fun s₅ m₅ F₅ => ?_
    rw [fam3]
    by_cases h3 : famOf m = 3
    · rw [show decide (famOf m = 3) = true by simpa using h3, if_pos rfl]
      have e : votes.map (fun p => D.list (ds.map fun d => .int (p * p * d.2 * dvCommon ds / d.1))) = (dvW (famOf m) ds votes).map intsD := by
        unfold dvW; rw [List.map_map]; apply List.map_congr_left; intro p _
        simp [dvRow, dvPow, h3, intsD]
      refine wpAny_execs_cons (x_set F₅ R (Ev.cast (Ev.compL D.int (fun p => D.list (ds.map fun d => .int (p * p * d.2 * dvCommon ds / d.1))) ho int_inj (It.ints (by walk_at "nm") (by omega)) fun p hpm C₀ => EvN.compL pairD (fun d => .int (p * p * d.2 * dvCommon ds / d.1)) (by walk_at "ok") pair_inj (It.list (by walk_at "nm") (by rw [List.length_map, hDl]; omega)) fun d hd C₁ => EvN.of (Ev.fdiv (Ev.mul (Ev.mul (Ev.mul (Ev.intI (by walk_at "ok") (by walk_at "nm")) (Ev.intI (by walk_at "ok") (by walk_at "nm")) ?_ ?_) (Ev.itemT (d := .int d.2) (by walk_at "nm") Ev.int (by decide) (by decide) rfl) ?_ ?_) (by walk_at "nm") ?_ smC) (Ev.itemT (d := .int d.1) (by walk_at "nm") Ev.int (by decide) (by decide) rfl) ?_ ?_)) (congrArg D.list e)) (.inl rfl) (by walk_at "ne") fun s₆ m₆ F₆ => wpAny_execs_nil ⟨rfl, ((m04.trans m₅).trans m₆), F₆.sub (by walk_at "sub")⟩)
      · have := hp p hpm; unfold Sm; omega
      · have := hp p hpm; unfold Sm; omega
      · have := hpp p hpm; unfold Sm; omega
      · have := hD d hd; unfold Sm; omega
      · have := hpp2 p hpm d hd; unfold Sm; omega
      · have := hD d hd; omega
      · have := hD d hd; unfold Sm; omega
    · rw [show decide (famOf m = 3) = false by simpa using h3, if_neg (by decide)]
      have e : votes.map (fun p => D.list (ds.map fun d => .int (p * d.2 * dvCommon ds / d.1))) = (dvW (famOf m) ds votes).map intsD := by
        unfold dvW; rw [List.map_map]; apply List.map_congr_left; intro p _
        simp [dvRow, dvPow, h3, intsD]
      refine wpAny_execs_cons (x_set F₅ R (Ev.cast (Ev.compL D.int (fun p => D.list (ds.map fun d => .int (p * d.2 * dvCommon ds / d.1))) ho int_inj (It.ints (by walk_at "nm") (by omega)) fun p hpm C₀ => EvN.compL pairD (fun d => .int (p * d.2 * dvCommon ds / d.1)) (by walk_at "ok") pair_inj (It.list (by walk_at "nm") (by rw [List.length_map, hDl]; omega)) fun d hd C₁ => EvN.of (Ev.fdiv (Ev.mul (Ev.mul (Ev.intI (by walk_at "ok") (by walk_at "nm")) (Ev.itemT (d := .int d.2) (by walk_at "nm") Ev.int (by decide) (by decide) rfl) ?_ ?_) (by walk_at "nm") ?_ smC) (Ev.itemT (d := .int d.1) (by walk_at "nm") Ev.int (by decide) (by decide) rfl) ?_ ?_)) (congrArg D.list e)) (.inl rfl) (by walk_at "ne") fun s₆ m₆ F₆ => wpAny_execs_nil ⟨rfl, ((m04.trans m₅).trans m₆), F₆.sub (by walk_at "sub")⟩)
      · have := hp p hpm; unfold Sm; omega
      · have := hD d hd; unfold Sm; omega
      · have := hp2 p hpm d hd; unfold Sm; omega
      · have := hD d hd; omega
      · have := hD d hd; unfold Sm; omega
  subst e
  have hfl : (dvW (famOf m) ds votes).flatten.length = votes.length * seats.toNat := by rw [flat_len, hDl]
  generalize hW : dvW (famOf m) ds votes = W at *
  have hWl : W.length = votes.length := by rw [← hW]; simp [dvW]
  have hrow : ∀ row ∈ W, row.length = seats.toNat := fun row hr => by
    rw [← hW] at hr
    obtain ⟨p, _, rfl⟩ := List.mem_map.mp hr
    simp [dvRow, hDl]
  have hfb : votes.length * seats.toNat ≤ 60 := by
    have := Nat.mul_le_mul hhi (show seats.toNat ≤ 12 by omega); omega
  have hfb2 : seats.toNat ≤ votes.length * seats.toNat := by
    have := Nat.mul_le_mul hlo (Nat.le_refl seats.toNat); omega
  -- flatweights
  refine wpAny_execs_cons (x_set (d := intsD (srt W.flatten)) F₅ R (Ev.sorted ho (Ev.cast (EvN.comp2 (fun x => x) ho (It.list (by walk_at "nm") (by simp; omega)) (fun x C₀ => by walk_at "nm") (by omega)).ev (by simp)) (by omega)) (.inl rfl) (by walk_at "ne") fun s₆ m₆ F₆ => ?_)
  have hsl : (srt W.flatten).length = votes.length * seats.toNat := by rw [(srt_perm _).length_eq, hfl]
  have hs0 := sum_nonneg fun x hx => (hb.2 x hx).1
  -- minweight
  refine wpAny_execs_cons (x_set (d := .int (dvMin W (dvInit (famOf m) votes) seats)) F₆ R (Ev.itemN (Ev.cast (d' := .list ((srt W.flatten).map D.int)) (by walk_at "nm") rfl) (Ev.add (Ev.neg (by walk_at "nm")) (Ev.sum ho (by walk_at "nm") nn0)) (by omega) (by rw [List.length_map, hsl]; omega) (by rw [List.length_map, hsl]; omega) ?_) (.inl rfl) (by walk_at "ne") fun s₇ m₇ F₇ => ?_)
  · have hk : (-seats + (dvInit (famOf m) votes).sum + (W.flatten.length : Int)).toNat < (srt W.flatten).length := by omega
    rw [List.getElem?_map, List.length_map, hsl, ← hfl, List.getElem?_eq_getElem hk]
    unfold dvMin
    rw [List.getD_eq_getElem?_getD, List.getElem?_eq_getElem hk]
    rfl
  generalize hmn : dvMin W (dvInit (famOf m) votes) seats = mn at *
  -- representatives
  have hWat : ∀ i, i < votes.length → (W.map intsD)[(i : Int).toNat]? = some (intsD (W.getD i [])) := fun i hi => by
    have : i < W.length := by omega
    simp [List.getD, this]
  have hWmem : ∀ i, i < votes.length → W.getD i [] ∈ W := fun i hi => by
    have : i < W.length := by omega
    rw [List.getD_eq_getElem?_getD, List.getElem?_eq_getElem this]; exact List.getElem_mem this
  refine wpAny_execs_cons (x_own (xs := dvReps W (dvInit (famOf m) votes) mn votes.length) F₇ R (EvN.toF (EvN.compI (xs := List.range votes.length) _ (fun i => (dvInit (famOf m) votes).getD i 0 + cnt mn (W.getD i [])) ho nat_inj (It.rangeN ho (Ev.cast (Ev.len ho (by walk_at "nm") (by simp; omega)) (by simp)) (by omega)) fun i hi C₀ => ?_)) fun s₈ aR items m₈ F₈ => wpAny_execs_nil ?_)
  · have hi := List.mem_range.mp hi
    refine Ev.add (Ev.cast (Ev.itemI (by walk_at "nm") (by walk_at "nm") (by omega) (by omega) (by omega)) (by simp)) (Ev.cast (Ev.len (by walk_at "ok") (Ev.compF (xs := W.getD i []) D.int D.int (fun w => decide (mn < w)) (by walk_at "ok") int_inj (It.ints (Ev.item (by walk_at "nm") (by walk_at "nm") (by omega) (by omega) (hWat i hi)) (by rw [hrow _ (hWmem i hi)]; omega)) (fun w hw C₁ => TestsOk.one (Ts.cmp (by walk_at "nm") (by walk_at "nm") CmpOk.gt)) fun w hw _ C₁ => EvN.of (by walk_at "nm")) ?_) ?_)
    · rw [List.length_map]
      have h2 := List.length_filter_le (fun w => decide (mn < w)) (W.getD i [])
      have := hrow _ (hWmem i hi); omega
    · simp [cnt]
  -- ties
  refine wpAny_execs_cons (x_set (d := .bool false) F₈ R Ev.bool (.inr rfl) (by walk_at "ne") fun s₉ m₉ F₉ => ?_)
  have F₉ : FS C h₀ (fEnv (fdAt PW 5) L a cd) [("ties", .bool false), ("minweight", .int mn), ("weights", .list (W.map intsD)), ("votes", intsD votes), ("seats", .int seats), ("tiesallowed", .bool allowed)] (some ⟨"representatives", aR, items, dvReps W (dvInit (famOf m) votes) mn votes.length, false⟩) s₉.heap := F₉.sub (by walk_at "sub")
  have m09 : Same s s₉ := ((((m₅.trans m₆).trans m₇).trans m₈).trans m₉)
  generalize hr0 : dvReps W (dvInit (famOf m) votes) mn votes.length = r0 at *
  have hr0l : r0.length = votes.length := by rw [← hr0]; simp [dvReps]
  have hr0b : ∀ x ∈ r0, 0 ≤ x ∧ x ≤ 13 := fun x hx => by
    rw [← hr0] at hx
    obtain ⟨i, hi, rfl⟩ := List.mem_map.mp hx
    have hi := List.mem_range.mp hi
    have h2 := hb.2 _ (PySem.getD_mem (l := dvInit (famOf m) votes) (j := i) (by omega))
    have h3 := @cnt_b mn (W.getD i [])
    have h4 := hrow _ (hWmem i hi)
    omega
  have nnr : Nn r0 := ⟨by omega, fun x hx => by have := hr0b x hx; omega⟩
  have hres0 : dvRes (famOf m) votes seats = if r0.sum < seats then dvRun W mn seats (r0, false) votes.length else (r0, false) := by
    unfold dvRes
    rw [if_pos hlt, hds, hW]
    unfold dvFin
    rw [hmn, hr0]
  refine wpAny_execs_cons (x_if F₉ R (Ts.cmp (by walk_at "nm") (Ev.sum ho (by walk_at "nm") nnr) CmpOk.gt) fun s₁₀ m₁₀ F₁₀ => ?_)
  by_cases hlt2 : r0.sum < seats
  rotate_left
  · rw [show decide (r0.sum < seats) = false by simpa using hlt2, if_neg (by decide)]
    rw [if_neg hlt2] at hres0
    exact wpAny_execs_nil (tail _ _ _ _ hres0 (m09.trans m₁₀) F₁₀ (by walk_at "mm") (by walk_at "mm") (by walk_at "mm"))
  rw [show decide (r0.sum < seats) = true by simpa using hlt2, if_pos rfl]
  rw [if_pos hlt2] at hres0
  have inv : ∀ i, i ≤ votes.length → (dvRun W mn seats (r0, false) i).1.length = votes.length ∧ ∀ x ∈ (dvRun W mn seats (r0, false) i).1, 0 ≤ x ∧ x ≤ 13 + i := by
    intro i
    induction i with
    | zero => intro _; exact ⟨hr0l, fun x hx => by have := hr0b x hx; omega⟩
    | succ i ih =>
      intro hi
      obtain ⟨l1, l2⟩ := ih (by omega)
      show (dvStep _ _ _ i _).1.length = _ ∧ ∀ x ∈ (dvStep _ _ _ i _).1, _
      unfold dvStep
      dsimp only
      split
      · refine ⟨by rw [List.length_set]; exact l1, fun x hx => ?_⟩
        rcases List.mem_or_eq_of_mem_set hx with hx | rfl
        · have := l2 x hx; omega
        · have := l2 _ (PySem.getD_mem (l := (dvRun W mn seats (r0, false) i).1) (j := i) (by rw [l1]; omega)); omega
      · exact ⟨l1, fun x hx => by have := l2 x hx; omega⟩
  have mono := @dvRun_mono W mn seats (r0, false)
  generalize hrun : dvRun W mn seats (r0, false) = run at inv hres0 mono
  have hrunS : ∀ i, run (i + 1) = dvStep W mn seats i (run i) := fun i => by rw [← hrun]; rfl
  have hrun0 : run 0 = (r0, false) := by rw [← hrun]; rfl
  refine wpAny_execs_cons (x_for (xs := (List.range votes.length).map fun (i : Nat) => D.int (i : Int)) hc F₁₀ R (ItO.rangeN ho (Ev.cast (Ev.len ho (by walk_at "nm") (by simp; omega)) (by simp)) (by omega))
    (fun i ρ own => ρ = ([("ties", .bool (run i).2), ("minweight", .int mn), ("weights", .list (W.map intsD)), ("votes", intsD votes), ("seats", .int seats), ("tiesallowed", .bool allowed)] : Rho) ∧ (∃ items, own = some ⟨"representatives", aR, items, (run i).1, false⟩) ∧ ((run i).2 && !allowed) = false) (fun _ e s => ((dvRes (famOf m) votes seats).2 && !allowed) = true ∧ E e s) ?_ ?_ ?_ (.inr ?_) ?_ (fun h₁ e s₁ _ h => hpass h.1 e s₁ h.2) ?_)
  · exact ⟨by rw [hrun0], ⟨items, by rw [hrun0]⟩, by rw [hrun0]; rfl⟩
  · rintro i ρ' own' ⟨_, ⟨it, rfl⟩, _⟩; rfl
  · rintro i ρ' own' ⟨_, ⟨it, rfl⟩, _⟩; walk_at "ne"
  · intro d hd
    obtain ⟨j, _, rfl⟩ := List.mem_map.mp hd
    rfl
  · rintro i d ρ' own' h₁ s₁₁ hd ⟨rfl, ⟨it, rfl⟩, hna⟩ kh m₁₁ F₁₁
    obtain ⟨hi, rfl⟩ := range_at hd
    obtain ⟨l1, l2⟩ := inv i (by omega)
    have nn : Nn (run i).1 := ⟨by omega, fun x hx => by have := l2 x hx; omega⟩
    have hrs := hrunS i
    unfold dvStep at hrs
    have hrl := hrow _ (hWmem i hi)
    have F₁₁ : FS C h₁ (fEnv (fdAt PW 5) L a cd) [("i", .int i), ("ties", .bool (run i).2), ("minweight", .int mn), ("weights", .list (W.map intsD)), ("votes", intsD votes), ("seats", .int seats), ("tiesallowed", .bool allowed)] (some ⟨"representatives", aR, it, (run i).1, false⟩) s₁₁.heap := F₁₁.sub (by walk_at "sub")
    have fin : ∀ ρ it' s', Same s₁₁ s' → ((run (i + 1)).2 && !allowed) = false → FS C h₁ (fEnv (fdAt PW 5) L a cd) (("ties", .bool (run (i + 1)).2) :: ("minweight", .int mn) :: ("weights", .list (W.map intsD)) :: ("votes", intsD votes) :: ("seats", .int seats) :: ("tiesallowed", .bool allowed) :: ρ) (some ⟨"representatives", aR, it', (run (i + 1)).1, false⟩) s'.heap →
        Flow.next = Flow.next ∧ Same s₁₁ s' ∧ ∃ ρ'' own'', (ρ'' = ([("ties", .bool (run (i + 1)).2), ("minweight", .int mn), ("weights", .list (W.map intsD)), ("votes", intsD votes), ("seats", .int seats), ("tiesallowed", .bool allowed)] : Rho) ∧ (∃ items, own'' = some ⟨"representatives", aR, items, (run (i + 1)).1, false⟩) ∧ ((run (i + 1)).2 && !allowed) = false) ∧ FS C h₁ (fEnv (fdAt PW 5) L a cd) ρ'' own'' s'.heap :=
      fun ρ it' s' m' hn F' => ⟨rfl, m', _, _, ⟨rfl, ⟨it', rfl⟩, hn⟩, F'.sub (by walk_at "sub")⟩
    have second : ∀ s', Same s₁₁ s' → ((run (i + 1)).2 && !allowed) = false → FS C h₁ (fEnv (fdAt PW 5) L a cd) [("i", .int i), ("ties", .bool (run (i + 1)).2), ("minweight", .int mn), ("weights", .list (W.map intsD)), ("votes", intsD votes), ("seats", .int seats), ("tiesallowed", .bool allowed)] (some ⟨"representatives", aR, it, (run i).1, false⟩) s'.heap →
        wpAny (model C.prog C.w) A (execs ((match (fdAt PW 5).body.drop 4 with | .If _ (.For _ _ b _ _ :: _) _ _ :: _ => b | _ => []).drop 1) (fEnv (fdAt PW 5) L a cd)) (fun fl s₂ => fl = .next ∧ Same s₁₁ s₂ ∧ ∃ ρ'' own'', (ρ'' = ([("ties", .bool (run (i + 1)).2), ("minweight", .int mn), ("weights", .list (W.map intsD)), ("votes", intsD votes), ("seats", .int seats), ("tiesallowed", .bool allowed)] : Rho) ∧ (∃ items, own'' = some ⟨"representatives", aR, items, (run (i + 1)).1, false⟩) ∧ ((run (i + 1)).2 && !allowed) = false) ∧ FS C h₁ (fEnv (fdAt PW 5) L a cd) ρ'' own'' s₂.heap) (fun e s => ((dvRes (famOf m) votes seats).2 && !allowed) = true ∧ E e s) s' := by
      intro s₁₂ m₁₂ hn F₁₂
      show wpAny _ _ (execs [_] _) _ _ _
      refine wpAny_execs_cons (x_if F₁₂ R (Ts.and2 (Ts.cmp (Ev.sum ho (by walk_at "nm") nn) (by walk_at "nm") CmpOk.lt) fun _ => Ts.cmp (by walk_at "nm") (Ev.item (by walk_at "nm") (by walk_at "nm") (by omega) (by omega) (hWat i hi)) CmpOk.inI) fun s₁₃ m₁₃ F₁₃ => ?_)
      by_cases c : (run i).1.sum < seats ∧ (W.getD i []).contains mn = true
      · rw [if_pos c] at hrs
        rw [show (decide ((run i).1.sum < seats) && (W.getD i []).contains mn) = true by rw [c.2]; simpa using c.1, if_pos rfl]
        refine wpAny_execs_cons (x_aug (c := 1) F₁₃ R rfl (by walk_at "nm") Ev.int (by omega) (by show (i : Int) < (run i).1.length; omega) (by show (run i).1.length ≤ 100000; omega) fun s₁₄ it' m₁₄ F₁₄ => wpAny_execs_nil (wpAny_execs_nil ?_))
        refine fin [] it' s₁₄ ((m₁₂.trans m₁₃).trans m₁₄) hn ?_
        rw [show (run (i + 1)).1 = (run i).1.set i ((run i).1.getD i 0 + 1) by rw [hrs]]
        exact F₁₄.sub (by walk_at "sub")
      · rw [if_neg c] at hrs
        have b : (decide ((run i).1.sum < seats) && (W.getD i []).contains mn) = false := by
          rw [Bool.eq_false_iff]; intro h; apply c
          rw [Bool.and_eq_true, decide_eq_true_eq] at h; exact h
        rw [b, if_neg (by decide)]
        refine wpAny_execs_nil (wpAny_execs_nil ?_)
        refine fin [] it s₁₃ (m₁₂.trans m₁₃) hn ?_
        rw [show (run (i + 1)).1 = (run i).1 by rw [hrs]]
        exact F₁₃.sub (by walk_at "sub")
    have h2 : (run (i + 1)).2 = ((run i).2 || (decide ((run i).1.sum = seats) && (W.getD i []).contains mn)) := by rw [hrs]
    show wpAny _ _ (execs (_ :: _) _) _ _ _
    refine wpAny_execs_cons (x_if F₁₁ R (Ts.and2 (Ts.cmp (Ev.sum ho (by walk_at "nm") nn) (by walk_at "nm") CmpOk.eq) fun _ => Ts.cmp (by walk_at "nm") (Ev.item (by walk_at "nm") (by walk_at "nm") (by omega) (by omega) (hWat i hi)) CmpOk.inI) fun s₁₂ m₁₂ F₁₂ => ?_)
    cases hb1 : (decide ((run i).1.sum = seats) && (W.getD i []).contains mn) with
    | false =>
      rw [hb1, Bool.or_false] at h2
      rw [if_neg (by decide)]
      refine wpAny_execs_nil ?_
      exact second s₁₂ m₁₂ (by rw [h2]; exact hna) (by rw [h2]; exact F₁₂)
    | true =>
      rw [hb1, Bool.or_true] at h2
      rw [if_pos rfl]
      refine wpAny_execs_cons (x_if F₁₂ R (Ts.not (Ts.val (by walk_at "nm"))) fun s₁₃ m₁₃ F₁₃ => ?_)
      cases ht : (run i).2 with
      | true =>
        rw [if_neg (by decide)]
        refine wpAny_execs_nil (wpAny_execs_nil ?_)
        refine second s₁₃ (m₁₂.trans m₁₃) (by rw [h2, ← ht]; exact hna) ?_
        rw [h2, ← ht]; exact F₁₃
      | false =>
        rw [show (!false) = true from rfl, if_pos rfl]
        refine wpAny_execs_cons (x_if F₁₃ R (Ts.not (Ts.val (by walk_at "nm"))) fun s₁₄ m₁₄ F₁₄ => ?_)
        cases hal : allowed with
        | false =>
          have hcond : ((dvRes (famOf m) votes seats).2 && !allowed) = true := by
            rw [hres0, hal, mono (i := i + 1) (j := votes.length) (by omega) h2]; rfl
          rw [show (!false) = true from rfl, if_pos rfl]
          exact wpAny_execs_cons (wpAny_mono (hraise hcond _ _ _ _ _ _ _ _ (m09.trans m₁₀ |>.trans m₁₁ |>.trans m₁₂ |>.trans m₁₃ |>.trans m₁₄) (F₁₄.down kh F.gw)) (fun f s' h => h.elim) fun _ _ x => ⟨by rw [hal] at hcond; exact hcond, x⟩)
        | true =>
          rw [if_neg (by decide)]
          refine wpAny_execs_nil (wpAny_execs_cons (x_set (d := .bool true) F₁₄ R Ev.bool (.inr rfl) (by walk_at "ne") fun s₁₅ m₁₅ F₁₅ => wpAny_execs_nil (wpAny_execs_nil ?_)))
          refine wpAny_mono (second s₁₅ ((m₁₂.trans m₁₃).trans (m₁₄.trans m₁₅)) (by rw [hal]; simp) ?_) (fun f s' h => ?_) (fun _ _ x => ?_)
          · rw [h2]
            exact F₁₅.sub (by rw [← hal]; walk_at "sub")
          · rw [hal] at h; exact h
          · rw [hal] at x; exact x
  · rintro ρ' own' s₁₁ ⟨rfl, ⟨it, rfl⟩, hna⟩ m₁₁ F₁₁
    rw [show ((List.range votes.length).map fun (i : Nat) => D.int (i : Int)).length = votes.length by simp] at F₁₁
    exact wpAny_execs_nil (tail _ _ _ _ hres0 ((m09.trans m₁₀).trans m₁₁) F₁₁ (by walk_at "mm") (by walk_at "mm") (by walk_at "mm"))
theorem lr_ok {C : W0} {n : Nat} (hd : DefAt C (fdAt PW 4) [.bool true]) {votes : List Int} {seats : Int} {allowed : Bool} (hv : Vok votes) (hT : 0 < votes.sum) (h0 : 0 < seats) (h1 : seats ≤ 12) (ht : ((lrRes votes seats).2 && !allowed) = false) :
    CallOK C (n + 1) "largest_remainder" [intsD votes, .int seats, .bool allowed] (intsD (lrRes votes seats).1) := by
  refine CallOK.of hd (ddfl := []) (fun _ => RepL.nil) (Nat.le_of_ble_eq_true rfl) (Nat.le_of_ble_eq_true rfl) fun {h₀ A s L a cd E} R hc ho F => ?_
  exact lr_body hv hT h0 h1 R hc ho F (fun _ v s' m kp r => ⟨v, rfl, m, kp, r⟩) (fun h => by rw [ht] at h; cases h)
theorem dv_ok {C : W0} {n : Nat} (hd : DefAt C (fdAt PW 5) [.bool true]) {votes : List Int} {seats : Int} {m : Str} {allowed : Bool} (hv : Vok votes) (h0 : votes.length ≤ seats) (h1 : seats ≤ 12) (hm : m.length < 2 ^ 19) (hf : famOf m < 6) (ht : ((dvRes (famOf m) votes seats).2 && !allowed) = false) :
    CallOK C (n + 1) "divisor" [intsD votes, .int seats, .str m, .bool allowed] (intsD (dvRes (famOf m) votes seats).1) := by
  refine CallOK.of hd (ddfl := []) (fun _ => RepL.nil) (Nat.le_of_ble_eq_true rfl) (Nat.le_of_ble_eq_true rfl) fun {h₀ A s L a cd E} R hc ho F => ?_
  exact dv_body hv h0 h1 hm hf R hc ho F (fun _ v s' m kp r => ⟨v, rfl, m, kp, r⟩) (fun h => by rw [ht] at h; cases h) (fun h => by rw [ht] at h; cases h)
theorem lr_x {C : W0} {n : Nat} {Ct : Addr} (hTC : TieCls C Ct) (hd : DefAt C (fdAt PW 4) [.bool true]) {votes : List Int} {seats : Int} {allowed : Bool} (hv : Vok votes) (hT : 0 < votes.sum) (h0 : 0 < seats) (h1 : seats ≤ 12) (ht : ((lrRes votes seats).2 && !allowed) = true) :
    CallX C (n + 1) "largest_remainder" [intsD votes, .int seats, .bool allowed] (.ref Ct) := by
  refine CallX.of hd (ddfl := []) (fun _ => RepL.nil) (Nat.le_of_ble_eq_true rfl) (Nat.le_of_ble_eq_true rfl) fun {h₀ A s L a cd base outer RE} R hc ho F fl k => ?_
  exact lr_body hv hT h0 h1 R hc ho F (fun h => by rw [ht] at h; cases h) (fun _ ρ own s' np kk cp cpos pos m F' => x_raiseT hTC F' R fl Ev.str fun a t s'' m' x1 x2 => k a t s'' (m.trans m') x1 x2)
theorem dv_x {C : W0} {n : Nat} {Ct : Addr} (hTC : TieCls C Ct) (hd : DefAt C (fdAt PW 5) [.bool true]) {votes : List Int} {seats : Int} {m : Str} {allowed : Bool} (hv : Vok votes) (h0 : votes.length ≤ seats) (h1 : seats ≤ 12) (hm : m.length < 2 ^ 19) (hf : famOf m < 6) (ht : ((dvRes (famOf m) votes seats).2 && !allowed) = true) :
    CallX C (n + 1) "divisor" [intsD votes, .int seats, .str m, .bool allowed] (.ref Ct) := by
  refine CallX.of hd (ddfl := []) (fun _ => RepL.nil) (Nat.le_of_ble_eq_true rfl) (Nat.le_of_ble_eq_true rfl) fun {h₀ A s L a cd base outer RE} R hc ho F fl k => ?_
  exact dv_body hv h0 h1 hm hf R hc ho F (fun h => by rw [ht] at h; cases h) (fun _ => PassesOwn.leaving) (fun _ ρ own s' np kk cp cpos pos m F' => x_raiseT hTC F' R fl Ev.str fun a t s'' m' x1 x2 => k a t s'' (m.trans m') x1 x2)
def qtCommon (r : List Int) : Int := r.foldl (fun c x => c * (x + 1)) 1
def qtQ (votes r : List Int) : List Int := (List.range votes.length).map fun i => votes.getD i 0 * qtCommon r / (r.getD i 0 + 1)
def qtUp (votes r : List Int) : List Int := votes.map fun p => -(-p * (r.sum + 1) / votes.sum)
def qtQ2 (votes r : List Int) : List Int := (List.range votes.length).map fun i => if (qtUp votes r).getD i 0 ≤ r.getD i 0 then 0 else (qtQ votes r).getD i 0
def qtIdx (votes r : List Int) : List Nat := (List.range votes.length).filter fun i => decide ((qtQ2 votes r).getD i 0 = lmax (qtQ2 votes r))
def qtNext (votes r : List Int) : Nat := (qtIdx votes r).getD 0 0
def qtStep (votes r : List Int) : List Int := r.set (qtNext votes r) (r.getD (qtNext votes r) 0 + 1)
def qtRun (votes : List Int) : Nat → List Int
  | 0 => List.replicate votes.length 0
  | k + 1 => qtStep votes (qtRun votes k)

theorem lmax_mem {xs : List Int} (h : xs ≠ []) : lmax xs ∈ xs := by
  unfold lmax
  cases hm : xs.max? with
  | none => exact absurd (List.max?_eq_none_iff.mp hm) h
  | some a => exact List.max?_mem hm
theorem qtIdx_ne {votes r : List Int} (hv : 1 ≤ votes.length) : qtIdx votes r ≠ [] := by
  have hl : (qtQ2 votes r).length = votes.length := by simp [qtQ2]
  have := lmax_mem (xs := qtQ2 votes r) (by intro h; rw [h] at hl; simp at hl; omega)
  obtain ⟨i, hi, e⟩ := List.mem_iff_getElem.mp this
  intro h
  have hm : i ∈ qtIdx votes r := by
    unfold qtIdx
    refine List.mem_filter.mpr ⟨List.mem_range.mpr (by omega), ?_⟩
    simp [List.getD, hi, e]
  rw [h] at hm; cases hm
theorem qtNext_lt {votes r : List Int} (hv : 1 ≤ votes.length) : qtNext votes r < votes.length ∧ (qtIdx votes r)[0]? = some (qtNext votes r) := by
  have h := qtIdx_ne (r := r) hv
  have h0 : 0 < (qtIdx votes r).length := List.length_pos_iff.mpr h
  have e : (qtIdx votes r)[0]? = some (qtNext votes r) := by unfold qtNext; simp [List.getD, h0]
  refine ⟨?_, e⟩
  have := List.mem_of_getElem? e
  unfold qtIdx at this
  exact List.mem_range.mp (List.mem_filter.mp this).1
theorem set_sum : ∀ {xs : List Int} {i : Nat} {c : Int}, i < xs.length → (xs.set i c).sum = xs.sum - xs.getD i 0 + c
  | x :: xs, 0, c, _ => by simp; omega
  | x :: xs, i + 1, c, h => by
    have := set_sum (xs := xs) (i := i) (c := c) (by simpa using h)
    simp only [List.set_cons_succ, List.sum_cons, this, List.getD_cons_succ]; omega
theorem qtRun_ok {votes : List Int} (hv : 1 ≤ votes.length) : ∀ k, (qtRun votes k).length = votes.length ∧ (qtRun votes k).sum = k ∧ ∀ x ∈ qtRun votes k, 0 ≤ x ∧ x ≤ k
  | 0 => ⟨by simp [qtRun], by simp [qtRun], fun x hx => by have := (List.mem_replicate.mp hx).2; omega⟩
  | k + 1 => by
    obtain ⟨a, b, c⟩ := qtRun_ok hv k
    have hn := (qtNext_lt (r := qtRun votes k) hv).1
    have hl : qtNext votes (qtRun votes k) < (qtRun votes k).length := by omega
    refine ⟨by simp [qtRun, qtStep, a], ?_, fun x hx => ?_⟩
    · show (qtStep votes (qtRun votes k)).sum = _
      unfold qtStep
      rw [set_sum hl, b]; omega
    · rcases List.mem_or_eq_of_mem_set hx with hx | rfl
      · have := c x hx; omega
      · have := c _ (PySem.getD_mem hl); omega

theorem qtCommon_b {r : List Int} (hr : ∀ x ∈ r, 0 ≤ x ∧ x ≤ 12) (hl : r.length ≤ 12) : 1 ≤ qtCommon r ∧ qtCommon r ≤ 2 ^ 108 := by
  have h := common_b (ds := r.map fun x => (x + 1, 1)) (fun d hd => by obtain ⟨x, hx, rfl⟩ := List.mem_map.mp hd; have := hr x hx; show 1 ≤ x + 1 ∧ x + 1 ≤ 512; omega) (by simpa using hl)
  have e : dvCommon (r.map fun x => (x + 1, 1)) = qtCommon r := by unfold dvCommon qtCommon; rw [List.foldl_map]
  rwa [e] at h

theorem qt_body {C : W0} {n : Nat} {votes : List Int} {seats : Int} {h₀ : Heap} {A : Around} {s : Shared} {L a : Addr} {cd : Value} {E : Value → Shared → Prop} (hv : Vok votes) (hT : 0 < votes.sum) (h0 : 0 ≤ seats) (h1 : seats ≤ 12)
    (R : Room n A) (hc : EnvC (fEnv (fdAt PW 7) L a cd)) (ho : EnvOk (fEnv (fdAt PW 7) L a cd)) (F : FS C h₀ (fEnv (fdAt PW 7) L a cd) [("votes", intsD votes), ("seats", .int seats), ("tiesallowed", .bool true)] none s.heap) :
    wpAny (model C.prog C.w) A (execs (fdAt PW 7).body (fEnv (fdAt PW 7) L a cd)) (fun fl s' => ∃ v, fl = .ret v ∧ Same s s' ∧ Kp h₀ s'.heap ∧ Rep s'.heap v (intsD (qtRun votes seats.toNat))) E s := by
  have hhi := hv.hi
  have hlo := hv.lo
  have hvs := hv.sum
  show wpAny _ _ (execs (_ :: _) _) _ _ _
  refine wpAny_execs_cons (x_if F R (Ts.not (Ts.val (by walk_at "nm"))) fun s₁ m₁ F₁ => ?_)
  rw [if_neg (by decide)]
  refine wpAny_execs_nil ?_
  refine wpAny_execs_cons (x_own (xs := List.replicate votes.length 0) F₁ R (EvF.cast (EvF.zeros (Ev.len ho (by walk_at "nm") (by simp; omega)) (by omega) (by simp; omega)) (by simp)) fun s₂ aR items m₂ F₂ => ?_)
  have F₂ : FS C h₀ (fEnv (fdAt PW 7) L a cd) [("votes", intsD votes), ("seats", .int seats)] (some ⟨"representatives", aR, items, List.replicate votes.length 0, false⟩) s₂.heap := F₂.sub (by walk_at "sub")
  refine wpAny_execs_cons (x_while F₂ R (fun i ρ own => i ≤ seats.toNat ∧ ρ = ([("votes", intsD votes), ("seats", .int seats)] : Rho) ∧ ∃ items, own = some ⟨"representatives", aR, items, qtRun votes (seats.toNat - i), false⟩) seats.toNat ⟨Nat.le_refl _, rfl, items, by rw [Nat.sub_self]; rfl⟩ ?_ ?_ ?_)
  · rintro i ρ' own' s₃ ⟨hi, rfl, it, rfl⟩ F₃
    obtain ⟨r1, r2, r3⟩ := qtRun_ok hlo (seats.toNat - (i + 1))
    have hnext : seats.toNat - i = (seats.toNat - (i + 1)) + 1 := by omega
    rw [hnext]
    generalize hk : seats.toNat - (i + 1) = k at *
    have hk12 : k + 1 ≤ seats.toNat := by omega
    rw [show qtRun votes (k + 1) = qtStep votes (qtRun votes k) from rfl]
    generalize hr : qtRun votes k = r at *
    have nn : Nn r := ⟨by omega, fun x hx => by have := r3 x hx; omega⟩
    refine ⟨Ts.cast (Ts.cmp (Ev.sum ho (by walk_at "nm") nn) (by walk_at "nm") CmpOk.lt) (by simp; omega), fun s₄ E' m₄ F₄ => ?_⟩
    show wpAny _ _ (execs (_ :: _) _) _ _ _
    refine wpAny_execs_cons (x_set (d := .int 1) F₄ R Ev.int (.inr rfl) (by walk_at "ne") fun s₅ m₅ F₅ => ?_)
    have F₅ : FS C h₀ (fEnv (fdAt PW 7) L a cd) [("common", .int 1), ("votes", intsD votes), ("seats", .int seats)] (some ⟨"representatives", aR, it, r, false⟩) s₅.heap := F₅.sub (by walk_at "sub")
    have r12 : ∀ x ∈ r, 0 ≤ x ∧ x ≤ 12 := fun x hx => by have := r3 x hx; omega
    refine wpAny_execs_cons (x_for_own hc F₅ R rfl (fun i ρ => ρ = ([("common", .int (qtCommon (r.take i))), ("votes", intsD votes), ("seats", .int seats)] : Rho)) rfl (ne_str rfl) (by show r.length ≤ 100000; omega) ?_ ?_)
    · rintro j d ρ' h₁ s₆ hd rfl F₆ E''
      have hd : r[j]? = some d := hd
      have hmem : d ∈ r := List.mem_of_getElem? hd
      have hb1 := qtCommon_b (r := r.take j) (fun x hx => r12 x (List.mem_of_mem_take hx)) (by rw [List.length_take]; omega)
      have hd12 := r12 d hmem
      have e : qtCommon (r.take (j + 1)) = qtCommon (r.take j) * (d + 1) := by
        unfold qtCommon
        rw [List.take_add_one, hd, List.foldl_append]; rfl
      refine wpAny_execs_cons (x_set F₆ R (Ev.mul (by walk_at "nm") (Ev.add (by walk_at "nm") Ev.int) (by unfold Sm; omega) (by unfold Sm; omega)) (.inr rfl) (by walk_at "ne") fun s₇ m₇ F₇ => wpAny_execs_nil ⟨rfl, m₇, _, rfl, ?_⟩)
      rw [e]
      exact F₇.sub (by walk_at "sub")
    rintro ρ' s₆ rfl m₆ F₆
    have F₆ : FS C h₀ (fEnv (fdAt PW 7) L a cd) [("common", .int (qtCommon r)), ("votes", intsD votes), ("seats", .int seats)] (some ⟨"representatives", aR, it, r, false⟩) s₆.heap := by
      have e : r.take (Own.xs ⟨"representatives", aR, it, r, false⟩).length = r := List.take_length
      rw [e] at F₆; exact F₆
    have hC := qtCommon_b r12 (by omega)
    have smC : Sm (qtCommon r) := by unfold Sm; omega
    have hrg : ∀ i, i < votes.length → 0 ≤ r.getD i 0 ∧ r.getD i 0 ≤ 12 := fun i hi => r12 _ (PySem.getD_mem (by omega))
    have hvg : ∀ i, i < votes.length → 0 ≤ votes.getD i 0 ∧ votes.getD i 0 < 2 ^ 50 := fun i hi => hv.nn _ (PySem.getD_mem hi)
    -- quotas
    refine wpAny_execs_cons (x_setN F₆ R (EvN.compI (xs := List.range votes.length) _ (fun i => votes.getD i 0 * qtCommon r / (r.getD i 0 + 1)) ho nat_inj (It.rangeN ho (Ev.cast (Ev.len ho (by walk_at "nm") (by simp; omega)) (by simp)) (by omega)) fun i hi C₀ => ?_) (by walk_at "ne") fun s₇ m₇ F₇ => ?_)
    · have hi := List.mem_range.mp hi
      have h1 := hrg i hi
      have h2 := hvg i hi
      exact Ev.fdiv (Ev.mul (Ev.intI (by walk_at "ok") (Ev.at (by walk_at "nm") (by walk_at "nm") (by omega) (by omega))) (by walk_at "nm") (by show Sm (votes.getD i 0); unfold Sm; omega) smC) (Ev.add (Ev.intI (by walk_at "ok") (Ev.at (by walk_at "nm") (by walk_at "nm") (by omega) (by omega))) Ev.int) (by show 0 < r.getD i 0 + 1; omega) (by show Sm (r.getD i 0 + 1); unfold Sm; omega)
    have F₇ : FS C h₀ (fEnv (fdAt PW 7) L a cd) [("quotas", intsD (qtQ votes r)), ("votes", intsD votes), ("seats", .int seats)] (some ⟨"representatives", aR, it, r, false⟩) s₇.heap := F₇.sub (by walk_at "sub")
    refine wpAny_execs_cons (x_if F₇ R (Ts.cmp (Ev.sum ho (by walk_at "nm") hv.Nn) Ev.int CmpOk.ne) fun s₈ m₈ F₈ => ?_)
    rw [show (!decide (votes.sum = 0)) = true by simp; omega, if_pos rfl]
    refine wpAny_execs_cons (x_setN F₈ R (EvN.compI D.int (fun p => -(-p * (r.sum + 1) / votes.sum)) ho int_inj (It.ints (by walk_at "nm") (by omega)) fun p hp C₀ => ?_) (by walk_at "ne") fun s₉ m₉ F₉ => ?_)
    · have := hv.nn p hp
      exact Ev.neg (Ev.fdiv (Ev.mul (Ev.neg (by walk_at "nm")) (Ev.add (Ev.sum (by walk_at "ok") (by walk_at "nm") nn) Ev.int) (by unfold Sm; omega) (by unfold Sm; omega)) (Ev.sum (by walk_at "ok") (by walk_at "nm") hv.Nn) hT (by unfold Sm; omega))
    have F₉ : FS C h₀ (fEnv (fdAt PW 7) L a cd) [("upperquota", intsD (qtUp votes r)), ("quotas", intsD (qtQ votes r)), ("votes", intsD votes), ("seats", .int seats)] (some ⟨"representatives", aR, it, r, false⟩) s₉.heap := F₉.sub (by walk_at "sub")
    have hUl : (qtUp votes r).length = votes.length := by simp [qtUp]
    have hQl : (qtQ votes r).length = votes.length := by simp [qtQ]
    have hQ2l : (qtQ2 votes r).length = votes.length := by simp [qtQ2]
    refine wpAny_execs_cons (x_setN F₉ R (EvN.compI (xs := List.range votes.length) _ (fun i => if (qtUp votes r).getD i 0 ≤ r.getD i 0 then 0 else (qtQ votes r).getD i 0) ho nat_inj (It.rangeN ho (Ev.cast (Ev.len ho (by walk_at "nm") (by simp; omega)) (by simp)) (by omega)) fun i hi C₀ => ?_) (by walk_at "ne") fun s₁₀ m₁₀ F₁₀ => wpAny_execs_nil ?_)
    · have hi := List.mem_range.mp hi
      refine Ev.cast (Ev.ite (b := decide ((qtUp votes r).getD i 0 ≤ r.getD i 0)) (Ts.cmp (Ev.at (by walk_at "nm") (by walk_at "nm") (by omega) (by omega)) (Ev.at (by walk_at "nm") (by walk_at "nm") (by omega) (by omega)) CmpOk.ge) (fun _ => Ev.int) (fun _ => Ev.at (by walk_at "nm") (by walk_at "nm") (by omega) (by omega))) ?_
      simp only [decide_eq_true_eq]; split <;> rfl
    have F₁₀ : FS C h₀ (fEnv (fdAt PW 7) L a cd) [("quotas", intsD (qtQ2 votes r)), ("votes", intsD votes), ("seats", .int seats)] (some ⟨"representatives", aR, it, r, false⟩) s₁₀.heap := F₁₀.sub (by walk_at "sub")
    refine wpAny_execs_cons (x_set (d := .int (lmax (qtQ2 votes r))) F₁₀ R (Ev.max ho (by walk_at "nm") (by omega)) (.inr rfl) (by walk_at "ne") fun s₁₁ m₁₁ F₁₁ => ?_)
    refine wpAny_execs_cons (x_swapF (xs := List.range votes.length) _ (fun (i : Nat) => D.int (i : Int)) (fun i => decide ((qtQ2 votes r).getD i 0 = lmax (qtQ2 votes r))) F₁₁ R nat_inj (It.rangeN ho (Ev.cast (Ev.len ho (by walk_at "nm") (by simp; omega)) (by simp)) (by omega)) (fun i hi C₀ => ?_) (fun i hi _ C₀ => EvN.of (by walk_at "nm")) (by walk_at "ne") fun s₁₂ m₁₂ F₁₂ => ?_)
    · have hi := List.mem_range.mp hi
      exact TestsOk.one (Ts.cmp (Ev.at (by walk_at "nm") (by walk_at "nm") (by omega) (by omega)) (by walk_at "nm") CmpOk.eq)
    have F₁₂ : FS C h₀ (fEnv (fdAt PW 7) L a cd) [("maxquotas", .list ((qtIdx votes r).map fun (i : Nat) => D.int (i : Int))), ("votes", intsD votes), ("seats", .int seats)] (some ⟨"representatives", aR, it, r, false⟩) s₁₂.heap := F₁₂.sub (by walk_at "sub")
    obtain ⟨hnl, hn0⟩ := qtNext_lt (r := r) hlo
    refine wpAny_execs_cons (x_set (d := .int (qtNext votes r : Nat)) F₁₂ R (Ev.item (by walk_at "nm") Ev.int (by decide) (by decide) (by
      rw [List.getElem?_map]; show Option.map _ (qtIdx votes r)[0]? = _; rw [hn0]; rfl)) (.inr rfl) (by walk_at "ne") fun s₁₃ m₁₃ F₁₃ => ?_)
    refine wpAny_execs_cons (x_aug (i := ((qtNext votes r : Nat) : Int)) (c := 1) F₁₃ R rfl (by walk_at "nm") Ev.int (by omega) (by show ((qtNext votes r : Nat) : Int) < r.length; omega) (by show r.length ≤ 100000; omega) fun s₁₄ it' m₁₄ F₁₄ => wpAny_execs_nil ⟨rfl, m₅.trans m₆ |>.trans m₇ |>.trans m₈ |>.trans m₉ |>.trans m₁₀ |>.trans m₁₁ |>.trans m₁₂ |>.trans m₁₃ |>.trans m₁₄, _, _, ⟨by omega, rfl, it', rfl⟩, F₁₄.sub (ρ' := [("votes", intsD votes), ("seats", .int seats)]) (by walk_at "sub")⟩)
  · rintro ρ' own' ⟨_, rfl, it, rfl⟩
    obtain ⟨r1, r2, r3⟩ := qtRun_ok hlo (seats.toNat - 0)
    exact Ts.cast (Ts.cmp (Ev.sum ho (by walk_at "nm") ⟨show (qtRun votes (seats.toNat - 0)).length ≤ 1000 by omega, fun x hx => by have := r3 x hx; omega⟩) (by walk_at "nm") CmpOk.lt) (by show decide ((qtRun votes (seats.toNat - 0)).sum < seats) = false; rw [r2]; simp; omega)
  · rintro ρ' own' s₃ ⟨_, rfl, it, rfl⟩ m₃ F₃
    refine wpAny_execs_cons (x_ret F₃ R (by walk_at "nm") fun v s₄ m₄ kp r => ?_)
    exact ⟨v, rfl, (((m₁.trans m₂).trans m₃).trans m₄), kp, r⟩

theorem qt_ok {C : W0} {n : Nat} (hd : DefAt C (fdAt PW 7) [.bool true]) {votes : List Int} {seats : Int} (hv : Vok votes) (hT : 0 < votes.sum) (h0 : 0 ≤ seats) (h1 : seats ≤ 12) :
    CallOK C (n + 1) "quota" [intsD votes, .int seats, .bool true] (intsD (qtRun votes seats.toNat)) := by
  refine CallOK.of hd (ddfl := []) (fun _ => RepL.nil) (Nat.le_of_ble_eq_true rfl) (Nat.le_of_ble_eq_true rfl) fun {h₀ A s L a cd E} R hc ho F => ?_
  exact qt_body hv hT h0 h1 R hc ho F
theorem qt_ok2 {C : W0} {n : Nat} (hd : DefAt C (fdAt PW 7) [.bool true]) {votes : List Int} {seats : Int} (hv : Vok votes) (hT : 0 < votes.sum) (h0 : 0 ≤ seats) (h1 : seats ≤ 12) :
    CallOK C (n + 1) "quota" [intsD votes, .int seats] (intsD (qtRun votes seats.toNat)) := by
  refine CallOK.of hd (ddfl := [.bool true]) (fun _ => RepL.cons rep_bool RepL.nil) (Nat.le_of_ble_eq_true rfl) (Nat.le_of_ble_eq_true rfl) fun {h₀ A s L a cd E} R hc ho F => ?_
  exact qt_body hv hT h0 h1 R hc ho F
def LRM : List Str := ["lrm", "hamilton", "largest_remainder"]
def DIV : List Str := ["dhondt", "jefferson", "saintelague", "webster", "modified_saintelague", "huntington", "hill", "adams", "dean", "smallestdivisor", "harmonicmean", "equalproportions", "majorfractions", "greatestdivisors"]
def cmpRes (m : Str) (kept : List Int) (seats : Int) : List Int × Bool :=
  if m = "quota" then (qtRun kept seats.toNat, false) else if LRM.contains m = true then lrRes kept seats else dvRes (famOf m) kept seats
theorem div_fam {m : Str} (h : DIV.contains m = true) : famOf m < 6 := by
  have h' : m ∈ DIV := by simpa using h
  have : ∀ m ∈ DIV, famOf m < 6 := by decide +kernel
  exact this m h'

def cpRet (k : Nat) : List Stmt := match (fdAt PW 2).body with | [_, .If _ a [.If _ b [.If _ c d _] _] _] => [a, b, c, d].getD k [] | _ => []
theorem cp_head {C : W0} {n : Nat} (hdT : DefAt C (fdAt PW 3) []) {votes kept : List Int} {seats : Int} {m : Str} {thr : D} {allowed : Bool} {h₀ : Heap} {A : Around} {s : Shared} {L a : Addr} {cd : Value} {Q : Flow → Shared → Prop} {E : Value → Shared → Prop}
    (hthr : CallOK C n "apply_threshold" [intsD votes, thr] (intsD kept))
    (R : Room n A) (ho : EnvOk (fEnv (fdAt PW 2) L a cd)) (F : FS C h₀ (fEnv (fdAt PW 2) L a cd) [("method", .str m), ("votes", intsD votes), ("seats", .int seats), ("threshold", thr), ("tiesallowed", .bool allowed)] none s.heap)
    (k : ∀ j, j = (if m = "quota" then 0 else if LRM.contains m = true then 1 else if DIV.contains m = true then 2 else 3) → ∀ s', Same s s' → FS C h₀ (fEnv (fdAt PW 2) L a cd) [("filtered_votes", intsD kept), ("method", .str m), ("seats", .int seats), ("tiesallowed", .bool allowed)] none s'.heap →
      wpAny (model C.prog C.w) A (execs (cpRet j) (fEnv (fdAt PW 2) L a cd)) (fun f s' => match f with | .next => False | f => Q f s') E s') :
    wpAny (model C.prog C.w) A (execs (fdAt PW 2).body (fEnv (fdAt PW 2) L a cd)) Q E s := by
  show wpAny _ _ (execs (_ :: _) _) _ _ _
  refine wpAny_execs_cons (x_set F R (Ev.call ho hdT (EvL.cons (by walk_at "nm") (EvL.cons (by walk_at "nm") EvL.nil)) hthr) (.inl rfl) (by walk_at "ne") fun s₁ m₁ F₁ => ?_)
  have F₁ : FS C h₀ (fEnv (fdAt PW 2) L a cd) [("filtered_votes", intsD kept), ("method", .str m), ("seats", .int seats), ("tiesallowed", .bool allowed)] none s₁.heap := F₁.sub (by walk_at "sub")
  have out : ∀ {ss : List Stmt} {s' : Shared} {Q' : Flow → Shared → Prop}, (∀ f s'', f ≠ .next → Q f s'' → Q' f s'') → wpAny (model C.prog C.w) A (execs ss (fEnv (fdAt PW 2) L a cd)) (fun f s' => match f with | .next => False | f => Q f s') E s' → wpAny (model C.prog C.w) A (execs ss (fEnv (fdAt PW 2) L a cd)) Q' E s' := fun hq h =>
    wpAny_mono h (fun f s'' h => by
      cases f with
      | next => exact h.elim
      | _ => exact hq _ _ (by intro e; cases e) h) fun _ _ x => x
  refine wpAny_execs_cons (x_if F₁ R (Ts.cmp (by walk_at "nm") Ev.str CmpOk.eqS) fun s₂ m₂ F₂ => ?_)
  by_cases c0 : m = "quota"
  · rw [show (decide (m = ("quota" : Str))) = true by simpa using c0, if_pos rfl]
    exact out (fun f s'' h q => by cases f <;> first | exact absurd rfl h | exact q) (k 0 (by rw [if_pos c0]) s₂ (m₁.trans m₂) F₂)
  rw [show (decide (m = ("quota" : Str))) = false by simpa using c0, if_neg (by decide)]
  refine wpAny_execs_cons (x_if (b := LRM.contains m) F₂ R (by walk_at "inS") fun s₃ m₃ F₃ => ?_)
  cases c1 : LRM.contains m with
  | true =>
    rw [if_pos rfl]
    exact out (fun f s'' h q => by cases f <;> first | exact absurd rfl h | exact q) (k 1 (by rw [if_neg c0, c1, if_pos rfl]) s₃ ((m₁.trans m₂).trans m₃) F₃)
  | false =>
  rw [if_neg (by decide)]
  refine wpAny_execs_cons (x_if (b := DIV.contains m) F₃ R (by walk_at "inS") fun s₄ m₄ F₄ => ?_)
  cases c2 : DIV.contains m with
  | true =>
    rw [if_pos rfl]
    exact out (fun f s'' h q => by cases f <;> first | exact absurd rfl h | exact q) (k 2 (by rw [if_neg c0, c1, c2, if_neg (by decide), if_pos rfl]) s₄ (((m₁.trans m₂).trans m₃).trans m₄) F₄)
  | false =>
    rw [if_neg (by decide)]
    exact out (fun f s'' h q => by cases f <;> first | exact absurd rfl h | exact q) (k 3 (by rw [if_neg c0, c1, c2, if_neg (by decide), if_neg (by decide)]) s₄ (((m₁.trans m₂).trans m₃).trans m₄) F₄)

/-- what the names lead to stands -/
structure Defs (C : W0) : Prop where
  d2 : DefAt C (fdAt PW 2) [.none, .bool true]
  d3 : DefAt C (fdAt PW 3) []
  d4 : DefAt C (fdAt PW 4) [.bool true]
  d5 : DefAt C (fdAt PW 5) [.bool true]
  d7 : DefAt C (fdAt PW 7) [.bool true]
  d9 : DefAt C (fdAt PW 9) []
  d10 : DefAt C (fdAt PW 10) []

structure Kept (m : Str) (kept : List Int) (seats : Int) : Prop where
  ok : Vok kept
  pos : 0 < kept.sum
  lo : kept.length ≤ seats
  hi : seats ≤ 12
  len : m.length < 2 ^ 19
  name : m = "quota" ∨ LRM.contains m = true ∨ DIV.contains m = true

theorem cp_body {C : W0} {n : Nat} (W : Defs C) {votes kept : List Int} {seats : Int} {m : Str} {thr : D} {allowed : Bool} {h₀ : Heap} {A : Around} {s : Shared} {L a : Addr} {cd : Value} {E : Value → Shared → Prop} (K : Kept m kept seats) (hq : m = "quota" → allowed = true) (ht : ((cmpRes m kept seats).2 && !allowed) = false)
    (hthr : CallOK C (n + 1) "apply_threshold" [intsD votes, thr] (intsD kept))
    (R : Room (n + 1) A) (ho : EnvOk (fEnv (fdAt PW 2) L a cd)) (F : FS C h₀ (fEnv (fdAt PW 2) L a cd) [("method", .str m), ("votes", intsD votes), ("seats", .int seats), ("threshold", thr), ("tiesallowed", .bool allowed)] none s.heap) :
    wpAny (model C.prog C.w) A (execs (fdAt PW 2).body (fEnv (fdAt PW 2) L a cd)) (fun fl s' => ∃ v, fl = .ret v ∧ Same s s' ∧ Kp h₀ s'.heap ∧ Rep s'.heap v (intsD (cmpRes m kept seats).1)) E s := by
  have hlo := K.ok.lo
  have hl := K.lo
  refine cp_head W.d3 hthr R ho F fun j hj s₁ m₁ F₁ => ?_
  unfold cmpRes at ht ⊢
  by_cases c0 : m = "quota"
  · rw [if_pos c0] at hj ht ⊢; subst hj
    have := hq c0; subst this
    show wpAny _ _ (execs [_] _) _ _ _
    exact wpAny_execs_cons (x_ret F₁ R (Ev.call ho W.d7 (EvL.cons (by walk_at "nm") (EvL.cons (by walk_at "nm") (EvL.cons (by walk_at "nm") EvL.nil))) (qt_ok W.d7 K.ok K.pos (by omega) K.hi)) fun v s₂ m₂ kp r => ⟨v, rfl, m₁.trans m₂, kp, r⟩)
  rw [if_neg c0] at hj ht ⊢
  by_cases c1 : LRM.contains m = true
  · rw [if_pos c1] at hj ht ⊢; subst hj
    show wpAny _ _ (execs [_] _) _ _ _
    exact wpAny_execs_cons (x_ret F₁ R (Ev.call ho W.d4 (EvL.cons (by walk_at "nm") (EvL.cons (by walk_at "nm") (EvL.cons (by walk_at "nm") EvL.nil))) (lr_ok W.d4 K.ok K.pos (by omega) K.hi ht)) fun v s₂ m₂ kp r => ⟨v, rfl, m₁.trans m₂, kp, r⟩)
  rw [if_neg c1] at hj ht ⊢
  have c2 : DIV.contains m = true := K.name.elim (fun h => absurd h c0) fun h => h.elim (fun h => absurd h c1) id
  rw [if_pos c2] at hj; subst hj
  show wpAny _ _ (execs [_] _) _ _ _
  exact wpAny_execs_cons (x_ret F₁ R (Ev.call ho W.d5 (EvL.cons (by walk_at "nm") (EvL.cons (by walk_at "nm") (EvL.cons (by walk_at "nm") (EvL.cons (by walk_at "nm") EvL.nil)))) (dv_ok W.d5 K.ok K.lo K.hi K.len (div_fam c2) ht)) fun v s₂ m₂ kp r => ⟨v, rfl, m₁.trans m₂, kp, r⟩)

theorem cp_ok5 {C : W0} {n : Nat} (W : Defs C) {votes kept : List Int} {seats : Int} {m : Str} {thr : D} {allowed : Bool} (K : Kept m kept seats) (hq : m = "quota" → allowed = true) (ht : ((cmpRes m kept seats).2 && !allowed) = false)
    (hthr : CallOK C (n + 1) "apply_threshold" [intsD votes, thr] (intsD kept)) : CallOK C (n + 2) "compute" [.str m, intsD votes, .int seats, thr, .bool allowed] (intsD (cmpRes m kept seats).1) := by
  refine CallOK.of W.d2 (ddfl := []) (fun _ => RepL.nil) (Nat.le_of_ble_eq_true rfl) (Nat.le_of_ble_eq_true rfl) fun {h₀ A s L a cd E} R hc ho F => ?_
  exact cp_body W K hq ht hthr R ho F
theorem cp_ok4 {C : W0} {n : Nat} (W : Defs C) {votes kept : List Int} {seats : Int} {m : Str} {thr : D} (K : Kept m kept seats)
    (hthr : CallOK C (n + 1) "apply_threshold" [intsD votes, thr] (intsD kept)) : CallOK C (n + 2) "compute" [.str m, intsD votes, .int seats, thr] (intsD (cmpRes m kept seats).1) := by
  refine CallOK.of W.d2 (ddfl := [.bool true]) (fun _ => RepL.cons rep_bool RepL.nil) (Nat.le_of_ble_eq_true rfl) (Nat.le_of_ble_eq_true rfl) fun {h₀ A s L a cd E} R hc ho F => ?_
  exact cp_body (allowed := true) W K (fun _ => rfl) (by simp) hthr R ho F
theorem cp_ok3 {C : W0} {n : Nat} (W : Defs C) {votes : List Int} {seats : Int} {m : Str} (K : Kept m votes seats) : CallOK C (n + 2) "compute" [.str m, intsD votes, .int seats] (intsD (cmpRes m votes seats).1) := by
  refine CallOK.of W.d2 (ddfl := [.none, .bool true]) (fun _ => RepL.cons rep_none (RepL.cons rep_bool RepL.nil)) (Nat.le_of_ble_eq_true rfl) (Nat.le_of_ble_eq_true rfl) fun {h₀ A s L a cd E} R hc ho F => ?_
  exact cp_body (allowed := true) W K (fun _ => rfl) (by simp) (thr0_ok W.d3) R ho F
theorem cp_x {C : W0} {n : Nat} {Ct : Addr} (hTC : TieCls C Ct) (W : Defs C) {votes : List Int} {seats : Int} {m : Str} (K : Kept m votes seats) (ht : (cmpRes m votes seats).2 = true) : CallX C (n + 2) "compute" [.str m, intsD votes, .int seats, .none, .bool false] (.ref Ct) := by
  refine CallX.of W.d2 (ddfl := []) (fun _ => RepL.nil) (Nat.le_of_ble_eq_true rfl) (Nat.le_of_ble_eq_true rfl) fun {h₀ A s L a cd base outer RE} R hc ho F fl k => ?_
  have hlo := K.ok.lo
  have hl := K.lo
  refine cp_head (thr := .none) (allowed := false) W.d3 (thr0_ok W.d3) R ho F fun j hj s₁ m₁ F₁ => ?_
  unfold cmpRes at ht
  by_cases c0 : m = "quota"
  · rw [if_pos c0] at ht; cases ht
  rw [if_neg c0] at hj ht
  by_cases c1 : LRM.contains m = true
  · rw [if_pos c1] at hj ht; subst hj
    show wpAny _ _ (execs [_] _) _ _ _
    exact wpAny_execs_cons (x_ret_callX F₁ R fl W.d4 (EvL.cons (by walk_at "nm") (EvL.cons (by walk_at "nm") (EvL.cons (by walk_at "nm") EvL.nil))) (lr_x (allowed := false) hTC W.d4 K.ok K.pos (by omega) K.hi (by rw [ht]; rfl)) rfl fun a t s' m' x1 x2 => k a t s' (m₁.trans m') x1 x2)
  rw [if_neg c1] at hj ht
  have c2 : DIV.contains m = true := K.name.elim (fun h => absurd h c0) fun h => h.elim (fun h => absurd h c1) id
  rw [if_pos c2] at hj; subst hj
  show wpAny _ _ (execs [_] _) _ _ _
  exact wpAny_execs_cons (x_ret_callX F₁ R fl W.d5 (EvL.cons (by walk_at "nm") (EvL.cons (by walk_at "nm") (EvL.cons (by walk_at "nm") (EvL.cons (by walk_at "nm") EvL.nil)))) (dv_x (allowed := false) hTC W.d5 K.ok K.lo K.hi K.len (div_fam c2) (by rw [ht]; rfl)) rfl fun a t s' m' x1 x2 => k a t s' (m₁.trans m') x1 x2)
def topOf (script : List Int) : Int := ([4, 30, 1000, 1000000000000] : List Int).getD (cell script 1 % 4).toNat 0
def votesOf (script : List Int) (parties : Nat) (least : Int) : List Int := (List.range parties).map fun k => least + cell script (3 + k) % topOf script

theorem cell_nn {script : List Int} {k : Nat} : 0 ≤ cell script k := by unfold cell; split <;> omega
theorem top_b {script : List Int} : 4 ≤ topOf script ∧ topOf script ≤ 1000000000000 := by
  unfold topOf
  have h1 : 0 ≤ cell script 1 % 4 := Int.emod_nonneg _ (by omega)
  have h2 : cell script 1 % 4 < 4 := Int.emod_lt_of_pos _ (by omega)
  generalize cell script 1 % 4 = x at *
  have : x = 0 ∨ x = 1 ∨ x = 2 ∨ x = 3 := by omega
  rcases this with rfl | rfl | rfl | rfl <;> decide
theorem votesOf_b {script : List Int} {parties : Nat} {least : Int} : (votesOf script parties least).length = parties ∧ ∀ p ∈ votesOf script parties least, least ≤ p ∧ p < least + 1000000000000 := by
  refine ⟨by simp [votesOf], fun p hp => ?_⟩
  obtain ⟨k, _, rfl⟩ := List.mem_map.mp hp
  have := @top_b script
  have h1 := Int.emod_nonneg (cell script (3 + k)) (show topOf script ≠ 0 by omega)
  have h2 := Int.emod_lt_of_pos (cell script (3 + k)) (show 0 < topOf script by omega)
  omega

set_option maxHeartbeats 2000000 in
theorem lv_ok {C : W0} {n : Nat} (W : Defs C) {script : List Int} {parties : Nat} {least : Int} (hp : parties ≤ 4) (hl : script.length ≤ 63) :
    CallOK C (n + 2) "_law_votes" [intsD script, .int parties, .int least] (intsD (votesOf script parties least)) := by
  refine CallOK.of W.d10 (ddfl := []) (fun _ => RepL.nil) (Nat.le_of_ble_eq_true rfl) (Nat.le_of_ble_eq_true rfl) fun {h₀ A s L a cd E} R hc ho F => ?_
  have F : FS C h₀ (fEnv (fdAt PW 10) L a cd) [("script", intsD script), ("parties", .int parties), ("least", .int least)] none s.heap := F
  show wpAny _ _ (execs (_ :: _) _) _ _ _
  have hc1 : 0 ≤ cell script 1 % 4 := Int.emod_nonneg _ (by omega)
  have hc2 : cell script 1 % 4 < 4 := Int.emod_lt_of_pos _ (by omega)
  refine wpAny_execs_cons (x_set (d := .int (topOf script)) F R (Ev.itemI (xs := [4, 30, 1000, 1000000000000]) (Ev.list (EvL.cons Ev.int (EvL.cons Ev.int (EvL.cons Ev.int (EvL.cons Ev.pow10 EvL.nil))))) (Ev.mod (Ev.call ho W.d9 (EvL.cons (by walk_at "nm") (EvL.cons Ev.int EvL.nil)) (cell_ok W.d9 (k := 1) (by omega) hl)) Ev.int (by omega)) hc1 hc2 (by decide)) (.inl rfl) (by walk_at "ne") fun s₁ m₁ F₁ => ?_)
  have ht := @top_b script
  refine wpAny_execs_cons (x_ret F₁ R (EvN.compI (xs := List.range parties) _ (fun k => least + cell script (3 + k) % topOf script) ho nat_inj (It.rangeN ho (by walk_at "nm") (by omega)) fun k hk C₀ => ?_).ev fun v s₂ m₂ kp r => ⟨v, rfl, m₁.trans m₂, kp, r⟩)
  have hk := List.mem_range.mp hk
  exact Ev.add (by walk_at "nm") (Ev.mod (Ev.call (by walk_at "ok") W.d9 (EvL.cons (by walk_at "nm") (EvL.cons (Ev.cast (Ev.add Ev.int (by walk_at "nm")) (by simp)) EvL.nil)) (cell_ok W.d9 (k := 3 + k) (by omega) hl)) (by walk_at "nm") (by omega))
/-! the loop that gives the last seats -/
def adv : Nat → List Int → List Bool → List Int
  | _, [], _ => []
  | _, r :: rs, [] => r :: rs
  | D, r :: rs, false :: bs => r :: adv D rs bs
  | 0, r :: rs, true :: bs => r :: adv 0 rs bs
  | D + 1, r :: rs, true :: bs => (r + 1) :: adv D rs bs
theorem adv_len : ∀ (D : Nat) (rs : List Int) (bs : List Bool), (adv D rs bs).length = rs.length
  | _, [], _ => by simp [adv]
  | _, r :: rs, [] => by simp [adv]
  | D, r :: rs, false :: bs => by simp [adv, adv_len D rs bs]
  | 0, r :: rs, true :: bs => by simp [adv, adv_len 0 rs bs]
  | D + 1, r :: rs, true :: bs => by simp [adv, adv_len D rs bs]
theorem adv_sum : ∀ (D : Nat) (rs : List Int) (bs : List Bool), rs.length = bs.length → (adv D rs bs).sum = rs.sum + ((min (bs.count true) D : Nat) : Int)
  | _, [], [], _ => by simp [adv]
  | D, r :: rs, false :: bs, h => by
    have := adv_sum D rs bs (by simpa using h)
    simp only [adv, List.sum_cons, this, List.count_cons]; simp; omega
  | 0, r :: rs, true :: bs, h => by
    have := adv_sum 0 rs bs (by simpa using h)
    simp only [adv, List.sum_cons, this, List.count_cons]; simp
  | D + 1, r :: rs, true :: bs, h => by
    have := adv_sum D rs bs (by simpa using h)
    simp only [adv, List.sum_cons, this, List.count_cons]; simp; omega
theorem adv_snoc : ∀ (D : Nat) (rs : List Int) (bs : List Bool) (r : Int) (b : Bool), rs.length = bs.length → adv D (rs ++ [r]) (bs ++ [b]) = adv D rs bs ++ [if b = true ∧ bs.count true < D then r + 1 else r]
  | D, [], [], r, b, _ => by
    cases b
    · simp [adv]
    · cases D <;> simp [adv]
  | D, x :: rs, false :: bs, r, b, h => by
    have := adv_snoc D rs bs r b (by simpa using h)
    simp only [List.cons_append, adv, this, List.count_cons]; simp
  | 0, x :: rs, true :: bs, r, b, h => by
    have := adv_snoc 0 rs bs r b (by simpa using h)
    simp only [List.cons_append, adv, this, List.count_cons]; simp
  | D + 1, x :: rs, true :: bs, r, b, h => by
    have := adv_snoc D rs bs r b (by simpa using h)
    simp only [List.cons_append, adv, this, List.count_cons]; simp

def gStep (S : Int) (b : Bool) (i : Nat) (st : List Int × Bool) : List Int × Bool :=
  if st.1.sum = S ∧ b = true then (st.1, true) else if st.1.sum < S ∧ b = true then (st.1.set i (st.1.getD i 0 + 1), st.2) else st
def gRun (S : Int) (bs : List Bool) (st : List Int × Bool) : Nat → List Int × Bool
  | 0 => st
  | i + 1 => gStep S (bs.getD i false) i (gRun S bs st i)
theorem gRun_eq {S : Int} {bs : List Bool} {r : List Int} (hl : r.length = bs.length) (hS : r.sum ≤ S) : ∀ i, i ≤ r.length →
    gRun S bs (r, false) i = (adv (S - r.sum).toNat (r.take i) (bs.take i) ++ r.drop i, decide ((S - r.sum).toNat < (bs.take i).count true))
  | 0, _ => by simp [gRun, adv]
  | i + 1, hi => by
    have ih := gRun_eq hl hS i (by omega)
    have hlt : i < r.length := by omega
    have hlb : i < bs.length := by omega
    have e1 : r.take (i + 1) = r.take i ++ [r[i]] := by rw [List.take_add_one, List.getElem?_eq_getElem hlt]; rfl
    have e2 : bs.take (i + 1) = bs.take i ++ [bs[i]] := by rw [List.take_add_one, List.getElem?_eq_getElem hlb]; rfl
    have e3 : r.drop i = r[i] :: r.drop (i + 1) := List.drop_eq_getElem_cons hlt
    have hb : bs.getD i false = bs[i] := by simp [List.getD, hlb]
    have htl : (r.take i).length = (bs.take i).length := by simp; omega
    have hsum : (adv (S - r.sum).toNat (r.take i) (bs.take i) ++ r.drop i).sum = r.sum + ((min ((bs.take i).count true) (S - r.sum).toNat : Nat) : Int) := by
      rw [List.sum_append, adv_sum _ _ _ htl]
      have : (r.take i).sum + (r.drop i).sum = r.sum := by rw [← List.sum_append, List.take_append_drop]
      omega
    show gStep S (bs.getD i false) i (gRun S bs (r, false) i) = _
    rw [ih, hb, e1, e2, adv_snoc _ _ _ _ _ htl, List.count_append]
    unfold gStep
    rw [hsum]
    generalize hD : (S - r.sum).toNat = D at *
    generalize hc : (bs.take i).count true = c at *
    have hA : (adv D (r.take i) (bs.take i)).length = i := by rw [adv_len]; simp; omega
    cases bs[i] with
    | false =>
      rw [if_neg (by simp), if_neg (by simp), e3, if_neg (by simp), List.append_assoc]
      rfl
    | true =>
      by_cases hcd : c < D
      · have n1 : ¬ (r.sum + ((min c D : Nat) : Int) = S ∧ true = true) := by omega
        have n2 : r.sum + ((min c D : Nat) : Int) < S ∧ true = true := ⟨by omega, rfl⟩
        rw [if_neg n1, if_pos n2]
        rw [e3]
        have g : (adv D (r.take i) (bs.take i) ++ r[i] :: r.drop (i + 1)).getD i 0 = r[i] := by
          rw [List.getD_eq_getElem?_getD, List.getElem?_append_right (by omega), hA, Nat.sub_self]; rfl
        rw [g, List.set_append, if_neg (by omega), hA, Nat.sub_self, List.set_cons_zero, if_pos ⟨rfl, hcd⟩, List.append_assoc]
        refine Prod.ext rfl ?_
        show decide (D < c) = decide (D < c + 1)
        rw [decide_eq_decide]; omega
      · have n1 : r.sum + ((min c D : Nat) : Int) = S ∧ true = true := ⟨by omega, rfl⟩
        rw [if_pos n1, e3, if_neg (by simp [hcd]), List.append_assoc]
        refine Prod.ext rfl ?_
        show true = decide (D < c + 1)
        symm; rw [decide_eq_true_eq]; omega
/-- the whole loop -/
theorem gRun_all {S : Int} {bs : List Bool} {r : List Int} (hl : r.length = bs.length) (hS : r.sum ≤ S) :
    gRun S bs (r, false) r.length = (adv (S - r.sum).toNat r bs, decide ((S - r.sum).toNat < bs.count true)) := by
  rw [gRun_eq hl hS _ (Nat.le_refl _), List.take_length, List.drop_length, List.append_nil, hl, List.take_length]
/-! the T-th largest -/
abbrev above (m : Int) (xs : List Int) : Nat := xs.countP fun w => decide (m < w)
abbrev least (m : Int) (xs : List Int) : Nat := xs.countP fun w => decide (m ≤ w)
structure IsKth (xs : List Int) (T : Nat) (m : Int) : Prop where
  a : above m xs < T
  b : T ≤ least m xs
theorem countP_mono' {p q : Int → Bool} : ∀ {xs : List Int}, (∀ x ∈ xs, p x = true → q x = true) → xs.countP p ≤ xs.countP q := fun {xs} h => List.countP_mono_left h
theorem IsKth.unique {xs : List Int} {T : Nat} {m m' : Int} (h : IsKth xs T m) (h' : IsKth xs T m') : m = m' := by
  have one : ∀ {m m' : Int}, IsKth xs T m → IsKth xs T m' → ¬ m < m' := fun {m m'} h h' hlt => by
    have : least m' xs ≤ above m xs := countP_mono' fun x _ hx => by
      have : m' ≤ x := by simpa using hx
      simp; omega
    have := h.a; have := h'.b; omega
  have a := one h h'; have b := one h' h
  omega
theorem IsKth.perm {xs ys : List Int} {T : Nat} {m : Int} (p : xs.Perm ys) (h : IsKth xs T m) : IsKth ys T m := ⟨by have := h.a; unfold above at *; rwa [← p.countP_eq], by have := h.b; unfold least at *; rwa [← p.countP_eq]⟩
def kth (xs : List Int) (T : Nat) : Int := (srt xs).getD (xs.length - T) 0
theorem kth_is {xs : List Int} {T : Nat} (h0 : 0 < T) (h1 : T ≤ xs.length) : IsKth xs T (kth xs T) ∧ kth xs T ∈ xs := by
  have hp := srt_perm xs
  have hs := srt_sorted xs
  have hl : (srt xs).length = xs.length := hp.length_eq
  unfold kth
  generalize srt xs = l at *
  have hj : xs.length - T < l.length := by omega
  have e : l.getD (xs.length - T) 0 = l[xs.length - T] := by simp [List.getD, hj]
  rw [e]
  refine ⟨IsKth.perm hp ⟨?_, ?_⟩, hp.mem_iff.mp (List.getElem_mem hj)⟩
  · have e2 : l = l.take (xs.length - T) ++ l[xs.length - T] :: l.drop (xs.length - T + 1) := by
      rw [← List.drop_eq_getElem_cons hj, List.take_append_drop]
    have hs2 : l.Pairwise (fun a b => a ≤ b) := hs
    rw [e2] at hs2
    obtain ⟨_, hs3, hs4⟩ := List.pairwise_append.mp hs2
    unfold above
    generalize hm : l[xs.length - T] = m at *
    rw [e2, List.countP_append, List.countP_cons]
    have z : (l.take (xs.length - T)).countP (fun w => decide (m < w)) = 0 := List.countP_eq_zero.mpr fun x hx => by
      have := hs4 x hx m (by simp)
      simp; omega
    rw [z]
    have := List.countP_le_length (p := fun w => decide (m < w)) (l := l.drop (xs.length - T + 1))
    rw [List.length_drop] at this
    have q : (if decide (m < m) = true then 1 else 0) = 0 := by simp
    rw [q]; omega
  · have e2 : l = l.take (xs.length - T) ++ l[xs.length - T] :: l.drop (xs.length - T + 1) := by
      rw [← List.drop_eq_getElem_cons hj, List.take_append_drop]
    have hs2 : l.Pairwise (fun a b => a ≤ b) := hs
    rw [e2] at hs2
    obtain ⟨_, hs3, hs4⟩ := List.pairwise_append.mp hs2
    have hs5 := (List.pairwise_cons.mp hs3).1
    unfold least
    generalize hm : l[xs.length - T] = m at *
    rw [e2, List.countP_append, List.countP_cons]
    have z : (l.drop (xs.length - T + 1)).countP (fun w => decide (m ≤ w)) = (l.drop (xs.length - T + 1)).length := List.countP_eq_length.mpr fun x hx => by
      have := hs5 x hx
      simp; omega
    rw [z, List.length_drop]
    have q : (if decide (m ≤ m) = true then 1 else 0) = 1 := by simp
    rw [q]; omega
theorem kth_eq {xs : List Int} {T : Nat} (h0 : 0 < T) (h1 : T ≤ xs.length) {m : Int} (h : IsKth xs T m) : kth xs T = m := (kth_is h0 h1).1.unique h

/-- scaled -/
theorem mul_lt_iff {t a b : Int} (ht : 0 < t) : t * a < t * b ↔ a < b := Int.mul_lt_mul_left ht
theorem mul_le_iff {t a b : Int} (ht : 0 < t) : t * a ≤ t * b ↔ a ≤ b := Int.mul_le_mul_left ht
theorem IsKth.scale {xs : List Int} {T : Nat} {m t : Int} (ht : 0 < t) (h : IsKth xs T m) : IsKth (xs.map (t * ·)) T (t * m) := by
  refine ⟨?_, ?_⟩
  · have := h.a; unfold above at *
    rw [List.countP_map]
    have e : ((fun w => decide (t * m < w)) ∘ fun x => t * x) = fun w => decide (m < w) := funext fun w => by simp [mul_lt_iff ht]
    rw [e]; exact this
  · have := h.b; unfold least at *
    rw [List.countP_map]
    have e : ((fun w => decide (t * m ≤ w)) ∘ fun x => t * x) = fun w => decide (m ≤ w) := funext fun w => by simp [mul_le_iff ht]
    rw [e]; exact this
/-- what is below added -/
theorem IsKth.add {xs ys : List Int} {T : Nat} {m : Int} (h : IsKth xs T m) (hy : ∀ y ∈ ys, y < m) : IsKth (xs ++ ys) T m := by
  have z1 : ys.countP (fun w => decide (m < w)) = 0 := List.countP_eq_zero.mpr fun x hx => by have := hy x hx; simp; omega
  refine ⟨?_, ?_⟩
  · have := h.a; unfold above at *; rw [List.countP_append, z1]; omega
  · have := h.b; unfold least at *; rw [List.countP_append]; omega
def rotL {α : Type} (t : Nat) (xs : List α) : List α := xs.drop t ++ xs.take t
theorem rotL_perm {α : Type} (t : Nat) (xs : List α) : (rotL t xs).Perm xs := by
  unfold rotL
  exact List.perm_append_comm.trans (by rw [List.take_append_drop])
theorem rotL_map {α β : Type} (f : α → β) (t : Nat) (xs : List α) : (rotL t xs).map f = rotL t (xs.map f) := by unfold rotL; simp [List.map_drop, List.map_take]
theorem rotL_len {α : Type} (t : Nat) (xs : List α) : (rotL t xs).length = xs.length := (rotL_perm t xs).length_eq
theorem perm_sum : ∀ {xs ys : List Int}, xs.Perm ys → xs.sum = ys.sum := fun {xs ys} p => by
  induction p with
  | nil => rfl
  | cons x _ ih => simp [ih]
  | swap x y l => simp; omega
  | trans _ _ h1 h2 => exact h1.trans h2
theorem rotL_sum (t : Nat) (xs : List Int) : (rotL t xs).sum = xs.sum := perm_sum (rotL_perm t xs)
theorem rotL_count (t : Nat) (xs : List Bool) : (rotL t xs).count true = xs.count true := (rotL_perm t xs).count_eq true

def inc (x : Int) (b : Bool) : Int := if b then x + 1 else x
theorem adv_full : ∀ (D : Nat) (r : List Int) (bs : List Bool), r.length = bs.length → bs.count true ≤ D → adv D r bs = List.zipWith inc r bs
  | _, [], [], _, _ => by simp [adv]
  | D, r :: rs, false :: bs, h, hc => by
    have := adv_full D rs bs (by simpa using h) (by simpa [List.count_cons] using hc)
    simp [adv, this, inc]
  | 0, r :: rs, true :: bs, h, hc => by simp [List.count_cons] at hc
  | D + 1, r :: rs, true :: bs, h, hc => by
    have := adv_full D rs bs (by simpa using h) (by simpa [List.count_cons] using hc)
    simp [adv, this, inc]
theorem adv_zero : ∀ (r : List Int) (bs : List Bool), adv 0 r bs = r
  | [], _ => by simp [adv]
  | r :: rs, [] => by simp [adv]
  | r :: rs, false :: bs => by simp [adv, adv_zero rs bs]
  | r :: rs, true :: bs => by simp [adv, adv_zero rs bs]
theorem adv_get : ∀ (D : Nat) (r : List Int) (bs : List Bool) (j : Nat), (adv D r bs).getD j 0 = r.getD j 0 ∨ (bs.getD j false = true ∧ (adv D r bs).getD j 0 = r.getD j 0 + 1)
  | _, [], _, j => by simp [adv]
  | _, r :: rs, [], j => by simp [adv]
  | D, r :: rs, false :: bs, 0 => by simp [adv]
  | 0, r :: rs, true :: bs, 0 => by simp [adv]
  | D + 1, r :: rs, true :: bs, 0 => by simp [adv]
  | D, r :: rs, false :: bs, j + 1 => by simpa [adv] using adv_get D rs bs j
  | 0, r :: rs, true :: bs, j + 1 => by simpa [adv] using adv_get 0 rs bs j
  | D + 1, r :: rs, true :: bs, j + 1 => by simpa [adv] using adv_get D rs bs j
theorem zipWith_rot {r : List Int} {bs : List Bool} (h : r.length = bs.length) (t : Nat) : List.zipWith inc (rotL t r) (rotL t bs) = rotL t (List.zipWith inc r bs) := by
  unfold rotL
  rw [List.zipWith_append (by simp; omega), List.drop_zipWith, List.take_zipWith]

def gFin (r : List Int) (S : Int) (bs : List Bool) : List Int × Bool :=
  if r.sum < S then (adv (S - r.sum).toNat r bs, decide ((S - r.sum).toNat < bs.count true)) else (r, false)
structure GOk (r : List Int) (S : Int) (bs : List Bool) : Prop where
  len : r.length = bs.length
  le : r.sum ≤ S
  full : r.sum < S → (S - r.sum).toNat ≤ bs.count true
theorem gFin_len {r : List Int} {S : Int} {bs : List Bool} : (gFin r S bs).1.length = r.length := by
  unfold gFin; split
  · exact adv_len _ _ _
  · rfl
theorem gFin_sum {r : List Int} {S : Int} {bs : List Bool} (h : GOk r S bs) : (gFin r S bs).1.sum = S := by
  unfold gFin
  split
  · rename_i hlt
    have := h.full hlt
    show (adv _ _ _).sum = S
    rw [adv_sum _ _ _ h.len]; omega
  · have := h.le; show r.sum = S; omega
theorem gFin_get {r : List Int} {S : Int} {bs : List Bool} (j : Nat) : (gFin r S bs).1.getD j 0 = r.getD j 0 ∨ (bs.getD j false = true ∧ (gFin r S bs).1.getD j 0 = r.getD j 0 + 1) := by
  unfold gFin; split
  · exact adv_get _ _ _ _
  · exact .inl rfl
theorem gFin_mem {r : List Int} {S : Int} {bs : List Bool} {B : Int} (h : ∀ x ∈ r, 0 ≤ x ∧ x ≤ B) : ∀ x ∈ (gFin r S bs).1, 0 ≤ x ∧ x ≤ B + 1 := by
  intro x hx
  obtain ⟨j, hj, rfl⟩ := List.mem_iff_getElem.mp hx
  have e : (gFin r S bs).1[j] = (gFin r S bs).1.getD j 0 := by simp [List.getD, hj]
  have hj' : j < r.length := by rw [gFin_len] at hj; exact hj
  have hr := h _ (PySem.getD_mem hj')
  rw [e]
  rcases @gFin_get r S bs j with q | ⟨_, q⟩ <;> rw [q] <;> omega
theorem gFin_snoc {r : List Int} {S : Int} {bs : List Bool} (h : r.length = bs.length) : (gFin (r ++ [0]) S (bs ++ [false])).1 = (gFin r S bs).1 ++ [0] := by
  have e : (r ++ [0]).sum = r.sum := by simp
  unfold gFin
  rw [e]
  split
  · show adv _ _ _ = _
    rw [adv_snoc _ _ _ _ _ h]; simp
  · rfl
theorem gFin_rot {r : List Int} {S : Int} {bs : List Bool} (h : GOk r S bs) (t : Nat) : (gFin (rotL t r) S (rotL t bs)).2 = (gFin r S bs).2 ∧ ((gFin r S bs).2 = false → (gFin (rotL t r) S (rotL t bs)).1 = rotL t (gFin r S bs).1) := by
  unfold gFin
  rw [rotL_sum, rotL_count]
  split
  · refine ⟨rfl, fun q => ?_⟩
    have q : bs.count true ≤ (S - r.sum).toNat := by simpa using q
    show adv _ _ _ = rotL t (adv _ _ _)
    rw [adv_full _ _ _ (by rw [rotL_len, rotL_len]; exact h.len) (by rw [rotL_count]; exact q), adv_full _ _ _ h.len q, zipWith_rot h.len]
  · exact ⟨rfl, fun _ => rfl⟩

/-! largest remainder -/
def lrBs (v : List Int) (S : Int) : List Bool := (lrRem v S).map fun x => decide (kth (lrRem v S) (S - (lrReps v S).sum).toNat ≤ x)
theorem lr_floor {v : List Int} {S : Int} (hV : 0 < v.sum) : (lrReps v S).sum ≤ S := by
  have h1 := lr_rem_sum (T := v.sum) (s := S) v
  have h2 : 0 ≤ (lrRem v S).sum := sum_nonneg fun x hx => (lr_rem_lt hV x hx).1
  have h4 : (lrRem v S).sum = (S - (lrReps v S).sum) * v.sum := by
    show (v.map fun p => p * S - p * S / v.sum * v.sum).sum = _
    rw [h1, Int.sub_mul, Int.mul_comm S]; rfl
  rw [h4] at h2
  by_cases h : (lrReps v S).sum ≤ S
  · exact h
  · exfalso
    have := Int.mul_neg_of_neg_of_pos (a := S - (lrReps v S).sum) (b := v.sum) (by omega) hV
    omega
theorem lrRem_sum {v : List Int} {S : Int} : (lrRem v S).sum = (S - (lrReps v S).sum) * v.sum := by
  have h1 := lr_rem_sum (T := v.sum) (s := S) v
  show (v.map fun p => p * S - p * S / v.sum * v.sum).sum = _
  rw [h1, Int.sub_mul, Int.mul_comm S]; rfl
theorem lrRes_eq {v : List Int} {S : Int} (hv : Vok v) (hV : 0 < v.sum) (h0 : 0 < S) : lrRes v S = gFin (lrReps v S) S (lrBs v S) := by
  have hl : (lrReps v S).length = v.length := by simp [lrReps]
  have hm : (lrRem v S).length = v.length := by simp [lrRem]
  unfold lrRes gFin
  split
  · rename_i hlt
    have hD := lr_left (votes := v) (seats := S) hv hV h0
    have hcut : lrCut v S = kth (lrRem v S) (S - (lrReps v S).sum).toNat := by
      unfold lrCut kth
      rw [hm]; congr 1; omega
    have e : ∀ i, i ≤ v.length → lrRun (lrRem v S) (lrCut v S) S (lrReps v S, false) i = gRun S (lrBs v S) (lrReps v S, false) i := by
      intro i
      induction i with
      | zero => intro _; rfl
      | succ i ih =>
        intro hi
        show lrStep _ _ _ _ _ = gStep _ _ _ _
        rw [ih (by omega)]
        have hb : (lrBs v S).getD i false = decide (lrCut v S ≤ (lrRem v S).getD i 0) := by
          have : i < (lrRem v S).length := by omega
          unfold lrBs
          rw [hcut]
          simp [List.getD, this]
        rw [hb]
        unfold lrStep gStep
        generalize gRun S (lrBs v S) (lrReps v S, false) i = st
        generalize (lrRem v S).getD i 0 = x
        generalize lrCut v S = c
        simp only [decide_eq_true_eq]
        by_cases a1 : st.1.sum = S ∧ c ≤ x
        · rw [if_pos a1, if_pos a1]
        · rw [if_neg a1, if_neg a1]
          by_cases a2 : st.1.sum < S ∧ c ≤ x
          · rw [if_pos a2]
            split
            · rfl
            · rw [if_pos (by omega)]
          · rw [if_neg a2, if_neg (by omega), if_neg (by omega)]
    rw [e _ (Nat.le_refl _), ← hl]
    exact gRun_all (by simp [lrBs, hl, hm]) (by omega)
  · rfl
theorem lr_gok {v : List Int} {S : Int} (hv : Vok v) (hV : 0 < v.sum) (h0 : 0 < S) : GOk (lrReps v S) S (lrBs v S) := by
  refine ⟨by simp [lrBs, lrReps, lrRem], lr_floor hV, fun hlt => ?_⟩
  have hD := lr_left (votes := v) (seats := S) hv hV h0
  have hm : (lrRem v S).length = v.length := by simp [lrRem]
  have hk := (kth_is (xs := lrRem v S) (T := (S - (lrReps v S).sum).toNat) (by omega) (by omega)).1.b
  unfold lrBs
  rw [List.count_eq_countP, List.countP_map]
  refine Nat.le_trans hk (Nat.le_of_eq ?_)
  unfold least
  congr 1; funext x; simp
theorem lr_cut_pos {v : List Int} {S : Int} (hv : Vok v) (hV : 0 < v.sum) (h0 : 0 < S) (hlt : (lrReps v S).sum < S) : 0 < kth (lrRem v S) (S - (lrReps v S).sum).toNat := by
  have hD := lr_left (votes := v) (seats := S) hv hV h0
  have hm : (lrRem v S).length = v.length := by simp [lrRem]
  have hk := (kth_is (xs := lrRem v S) (T := (S - (lrReps v S).sum).toNat) (by omega) (by omega)).1.a
  have hs : ∀ l : List Int, (∀ x ∈ l, 0 ≤ x ∧ x < v.sum) → l.sum ≤ (l.countP fun w => decide (0 < w) : Nat) * v.sum := by
    intro l
    induction l with
    | nil => intro _; simp
    | cons x l ih =>
      intro h
      have h1 := h x (by simp)
      have h2 := ih fun y hy => h y (by simp [hy])
      rw [List.sum_cons, List.countP_cons]
      by_cases hx : 0 < x
      · rw [if_pos (by simpa using hx), Int.natCast_add, Int.add_mul]; simp; omega
      · rw [if_neg (by simpa using hx)]; simp; omega
  have h1 := hs _ (lr_rem_lt (seats := S) hV)
  rw [lrRem_sum] at h1
  have h2 := Int.le_of_mul_le_mul_right h1 hV
  by_cases hp : 0 < kth (lrRem v S) (S - (lrReps v S).sum).toNat
  · exact hp
  · exfalso
    have : (lrRem v S).countP (fun w => decide (0 < w)) ≤ above (kth (lrRem v S) (S - (lrReps v S).sum).toNat) (lrRem v S) := countP_mono' fun x _ hx => by
      have : 0 < x := by simpa using hx
      simp; omega
    omega
theorem sum_scale (t : Int) : ∀ l : List Int, (l.map fun p => p * t).sum = l.sum * t
  | [] => by simp
  | p :: l => by simp [sum_scale t l, Int.add_mul]
theorem lrReps_scale {v : List Int} {S t : Int} (ht : 0 < t) : lrReps (v.map fun p => p * t) S = lrReps v S := by
  unfold lrReps
  rw [sum_scale, List.map_map]
  apply List.map_congr_left; intro p _
  show p * t * S / (v.sum * t) = p * S / v.sum
  rw [show p * t * S = p * S * t by rw [Int.mul_assoc, Int.mul_comm t, ← Int.mul_assoc]]
  exact Int.mul_ediv_mul_of_pos_left _ _ ht
theorem lrRem_scale {v : List Int} {S t : Int} (ht : 0 < t) : lrRem (v.map fun p => p * t) S = (lrRem v S).map (t * ·) := by
  unfold lrRem
  rw [sum_scale, List.map_map, List.map_map]
  apply List.map_congr_left; intro p _
  show p * t * S - p * t * S / (v.sum * t) * (v.sum * t) = t * (p * S - p * S / v.sum * v.sum)
  rw [show p * t * S = p * S * t by rw [Int.mul_assoc, Int.mul_comm t, ← Int.mul_assoc], Int.mul_ediv_mul_of_pos_left _ _ ht, Int.mul_sub]
  congr 1
  · rw [Int.mul_comm]
  · rw [Int.mul_comm t, Int.mul_assoc]
theorem lr_scale {v : List Int} {S t : Int} (hv : Vok v) (hv' : Vok (v.map fun p => p * t)) (hV : 0 < v.sum) (h0 : 0 < S) (ht : 0 < t) : lrRes (v.map fun p => p * t) S = lrRes v S := by
  have hV' : 0 < (v.map fun p => p * t).sum := by rw [sum_scale]; exact Int.mul_pos hV ht
  rw [lrRes_eq hv' hV' h0, lrRes_eq hv hV h0, lrReps_scale ht]
  by_cases hlt : (lrReps v S).sum < S
  · have hD := lr_left (votes := v) (seats := S) hv hV h0
    have hm : (lrRem v S).length = v.length := by simp [lrRem]
    have hk := (kth_is (xs := lrRem v S) (T := (S - (lrReps v S).sum).toNat) (by omega) (by omega)).1
    have hb : lrBs (v.map fun p => p * t) S = lrBs v S := by
      unfold lrBs
      rw [lrReps_scale ht, lrRem_scale ht, kth_eq (by omega) (by simp; omega) (hk.scale ht), List.map_map]
      apply List.map_congr_left; intro x _
      simp [mul_le_iff ht]
    rw [hb]
  · unfold gFin; rw [if_neg hlt, if_neg hlt]
theorem lr_app {v : List Int} {S : Int} (hv : Vok v) (hv' : Vok (v ++ [0])) (hV : 0 < v.sum) (h0 : 0 < S) : (lrRes (v ++ [0]) S).1 = (lrRes v S).1 ++ [0] := by
  have es : (v ++ [0]).sum = v.sum := by simp
  have hV' : 0 < (v ++ [0]).sum := by rw [es]; exact hV
  have er : lrReps (v ++ [0]) S = lrReps v S ++ [0] := by unfold lrReps; rw [es]; simp
  have em : lrRem (v ++ [0]) S = lrRem v S ++ [0] := by unfold lrRem; rw [es]; simp
  have hl : (lrReps v S).length = (lrBs v S).length := by simp [lrBs, lrReps, lrRem]
  rw [lrRes_eq hv' hV' h0, lrRes_eq hv hV h0, er]
  have er2 : (lrReps v S ++ [0]).sum = (lrReps v S).sum := by simp
  by_cases hlt : (lrReps v S).sum < S
  · have hD := lr_left (votes := v) (seats := S) hv hV h0
    have hm : (lrRem v S).length = v.length := by simp [lrRem]
    have hk := (kth_is (xs := lrRem v S) (T := (S - (lrReps v S).sum).toNat) (by omega) (by omega)).1
    have hp := lr_cut_pos hv hV h0 hlt
    have hb : lrBs (v ++ [0]) S = lrBs v S ++ [false] := by
      unfold lrBs
      rw [er, er2, em, kth_eq (by omega) (by simp; omega) (hk.add (ys := [0]) (by simpa using hp)), List.map_append]
      simp [hp]
    rw [hb]
    exact gFin_snoc hl
  · unfold gFin; rw [er2, if_neg hlt, if_neg hlt]
theorem lr_rot {v : List Int} {S : Int} (t : Nat) (hv : Vok v) (hv' : Vok (rotL t v)) (hV : 0 < v.sum) (h0 : 0 < S) : (lrRes (rotL t v) S).2 = (lrRes v S).2 ∧ ((lrRes v S).2 = false → (lrRes (rotL t v) S).1 = rotL t (lrRes v S).1) := by
  have hV' : 0 < (rotL t v).sum := by rw [rotL_sum]; exact hV
  have er : lrReps (rotL t v) S = rotL t (lrReps v S) := by unfold lrReps; rw [rotL_sum, rotL_map]
  have em : lrRem (rotL t v) S = rotL t (lrRem v S) := by unfold lrRem; rw [rotL_sum, rotL_map]
  rw [lrRes_eq hv' hV' h0, lrRes_eq hv hV h0, er]
  by_cases hlt : (lrReps v S).sum < S
  · have hD := lr_left (votes := v) (seats := S) hv hV h0
    have hm : (lrRem v S).length = v.length := by simp [lrRem]
    have hk := (kth_is (xs := lrRem v S) (T := (S - (lrReps v S).sum).toNat) (by omega) (by omega)).1
    have hb : lrBs (rotL t v) S = rotL t (lrBs v S) := by
      unfold lrBs
      rw [er, rotL_sum, em, kth_eq (by omega) (by rw [rotL_len]; omega) (hk.perm (rotL_perm t _).symm), rotL_map]
    rw [hb]
    exact gFin_rot (lr_gok hv hV h0) t
  · unfold gFin; rw [rotL_sum, if_neg hlt, if_neg hlt]; exact ⟨rfl, fun _ => rfl⟩
theorem lr_sum {v : List Int} {S : Int} (hv : Vok v) (hV : 0 < v.sum) (h0 : 0 < S) : (lrRes v S).1.sum = S ∧ (lrRes v S).1.length = v.length := by
  rw [lrRes_eq hv hV h0]
  exact ⟨gFin_sum (lr_gok hv hV h0), by rw [gFin_len]; simp [lrReps]⟩
theorem lr_bd {v : List Int} {S : Int} (hv : Vok v) (hV : 0 < v.sum) (h0 : 0 < S) : ∀ x ∈ (lrRes v S).1, 0 ≤ x ∧ x ≤ S + 1 := by
  rw [lrRes_eq hv hV h0]
  refine gFin_mem fun x hx => ?_
  have h2 : ∀ x ∈ lrReps v S, 0 ≤ x := fun x hx => by
    obtain ⟨p, hp, rfl⟩ := List.mem_map.mp hx
    exact Int.ediv_nonneg (Int.mul_nonneg (hv.nn p hp).1 (by omega)) (by omega)
  have := le_sum h2 x hx
  have := lr_floor (S := S) hV
  exact ⟨h2 x hx, by omega⟩
theorem lr_zero {v : List Int} {S : Int} (hv : Vok v) (hV : 0 < v.sum) (h0 : 0 < S) (j : Nat) (hj : v.getD j 0 = 0) : (lrRes v S).1.getD j 0 = 0 := by
  rw [lrRes_eq hv hV h0]
  have er : (lrReps v S).getD j 0 = 0 := by
    unfold lrReps
    by_cases h : j < v.length
    · have hj : v[j] = 0 := by simpa [List.getD, h] using hj
      simp [List.getD, h, hj]
    · simp [List.getD, h]
  by_cases hlt : (lrReps v S).sum < S
  · have hp := lr_cut_pos hv hV h0 hlt
    have hb : (lrBs v S).getD j false = false := by
      unfold lrBs
      generalize kth (lrRem v S) (S - (lrReps v S).sum).toNat = c at *
      by_cases h : j < v.length
      · have hj : v[j] = 0 := by simpa [List.getD, h] using hj
        unfold lrRem
        simp [List.getD, h, hj, hp]
      · unfold lrRem; simp [List.getD, h]
    rcases @gFin_get (lrReps v S) S (lrBs v S) j with q | ⟨q, _⟩
    · rw [q, er]
    · rw [hb] at q; cases q
  · unfold gFin; rw [if_neg hlt]; exact er
/-! the quota method -/
theorem fold_dvd : ∀ (r : List Int) (c : Int), c ∣ r.foldl (fun c x => c * (x + 1)) c
  | [], c => Int.dvd_refl c
  | x :: r, c => Int.dvd_trans (Int.dvd_mul_right c (x + 1)) (fold_dvd r (c * (x + 1)))
theorem common_dvd : ∀ (r : List Int) (c : Int), ∀ x ∈ r, (x + 1) ∣ r.foldl (fun c x => c * (x + 1)) c
  | y :: r, c, x, h => by
    rcases List.mem_cons.mp h with rfl | h
    · exact Int.dvd_trans (Int.dvd_mul_left c (x + 1)) (fold_dvd r (c * (x + 1)))
    · exact common_dvd r (c * (y + 1)) x h
theorem common_ge : ∀ (r : List Int) (c : Int), 1 ≤ c → (∀ x ∈ r, 0 ≤ x) → 1 ≤ r.foldl (fun c x => c * (x + 1)) c
  | [], c, h, _ => h
  | x :: r, c, h, hr => common_ge r (c * (x + 1)) (by
      have := hr x (by simp)
      have := Int.mul_le_mul h (show 1 ≤ x + 1 by omega) (by omega) (by omega : (0 : Int) ≤ c); omega) fun y hy => hr y (by simp [hy])
theorem getD_map {α : Type} (f : Int → α) (xs : List Int) (z : α) {i : Nat} (h : i < xs.length) : (xs.map f).getD i z = f (xs.getD i 0) := by simp [List.getD, h]

theorem lmax_le {xs : List Int} {y : Int} (h : y ∈ xs) : y ≤ lmax xs := by
  unfold lmax
  cases hm : xs.max? with
  | none => rw [List.max?_eq_none_iff.mp hm] at h; cases h
  | some a => exact (List.max?_eq_some_iff.mp hm).2 y h
theorem lmax_scale {xs : List Int} (h : xs ≠ []) {t : Int} (ht : 0 < t) : lmax (xs.map (t * ·)) = t * lmax xs :=
  lmax_eq (List.mem_map.mpr ⟨_, lmax_mem h, rfl⟩) fun a ha => by
    obtain ⟨x, hx, rfl⟩ := List.mem_map.mp ha
    exact Int.mul_le_mul_of_nonneg_left (lmax_le hx) (by omega)
theorem lmax_app {xs : List Int} (h : xs ≠ []) (h0 : ∀ x ∈ xs, 0 ≤ x) : lmax (xs ++ [0]) = lmax xs :=
  lmax_eq (List.mem_append.mpr (.inl (lmax_mem h))) fun a ha => by
    rcases List.mem_append.mp ha with ha | ha
    · exact lmax_le ha
    · simp at ha; subst ha; exact h0 _ (lmax_mem h)

theorem qtQ_scale {v r : List Int} {t : Int} (hl : r.length = v.length) : qtQ (v.map fun p => p * t) r = (qtQ v r).map (t * ·) := by
  unfold qtQ
  rw [List.length_map, List.map_map]
  apply List.map_congr_left; intro i hi
  have hi := List.mem_range.mp hi
  show (v.map fun p => p * t).getD i 0 * qtCommon r / (r.getD i 0 + 1) = t * (v.getD i 0 * qtCommon r / (r.getD i 0 + 1))
  rw [getD_map (fun p => p * t) v 0 hi]
  have hd : (r.getD i 0 + 1) ∣ qtCommon r := common_dvd r 1 _ (PySem.getD_mem (by omega))
  rw [Int.mul_ediv_assoc _ hd, Int.mul_ediv_assoc _ hd, Int.mul_comm (v.getD i 0) t, Int.mul_assoc]
theorem qtUp_scale {v r : List Int} {t : Int} (ht : 0 < t) : qtUp (v.map fun p => p * t) r = qtUp v r := by
  unfold qtUp
  rw [sum_scale, List.map_map]
  apply List.map_congr_left; intro p _
  show -(-(p * t) * (r.sum + 1) / (v.sum * t)) = -(-p * (r.sum + 1) / v.sum)
  rw [show -(p * t) * (r.sum + 1) = -p * (r.sum + 1) * t by rw [← Int.neg_mul, Int.mul_assoc, Int.mul_comm t, ← Int.mul_assoc], Int.mul_ediv_mul_of_pos_left _ _ ht]
theorem qtQ2_scale {v r : List Int} {t : Int} (ht : 0 < t) (hl : r.length = v.length) : qtQ2 (v.map fun p => p * t) r = (qtQ2 v r).map (t * ·) := by
  unfold qtQ2
  rw [List.length_map, List.map_map]
  apply List.map_congr_left; intro i hi
  have hi := List.mem_range.mp hi
  have hq : (qtQ v r).length = v.length := by simp [qtQ]
  show (if _ then _ else _) = t * (if _ then _ else _)
  rw [qtUp_scale ht, qtQ_scale hl, getD_map _ _ _ (by omega)]
  split
  · simp
  · rfl
theorem qtStep_scale {v r : List Int} {t : Int} (ht : 0 < t) (hl : r.length = v.length) (hv : 1 ≤ v.length) : qtStep (v.map fun p => p * t) r = qtStep v r := by
  have h2 : (qtQ2 v r).length = v.length := by simp [qtQ2]
  have hi : qtIdx (v.map fun p => p * t) r = qtIdx v r := by
    unfold qtIdx
    rw [qtQ2_scale ht hl, List.length_map, lmax_scale (by intro h; rw [h] at h2; simp at h2; omega) ht]
    apply List.filter_congr; intro i hi
    have hi := List.mem_range.mp hi
    rw [getD_map _ _ _ (by omega), decide_eq_decide]
    exact ⟨fun h => Int.eq_of_mul_eq_mul_left (by omega) h, fun h => by rw [h]⟩
  unfold qtStep qtNext
  rw [hi]
theorem qt_scale {v : List Int} {t : Int} (ht : 0 < t) (hv : 1 ≤ v.length) : ∀ k, qtRun (v.map fun p => p * t) k = qtRun v k
  | 0 => by simp [qtRun]
  | k + 1 => by
    show qtStep _ _ = qtStep _ _
    rw [qt_scale ht hv k, qtStep_scale ht (qtRun_ok hv k).1 hv]

theorem getD_app {α : Type} {xs ys : List α} {z : α} {i : Nat} (h : i < xs.length) : (xs ++ ys).getD i z = xs.getD i z := by simp [List.getD, List.getElem?_append_left h]
theorem getD_end {α : Type} {xs : List α} {y z : α} {i : Nat} (h : i = xs.length) : (xs ++ [y]).getD i z = y := by subst h; simp [List.getD]
theorem qtStep_app {v r : List Int} (hv : Vok v) (hl : r.length = v.length) (hr : ∀ x ∈ r, 0 ≤ x) : qtStep (v ++ [0]) (r ++ [0]) = qtStep v r ++ [0] := by
  have hlo := hv.lo
  have hC : qtCommon (r ++ [0]) = qtCommon r := by unfold qtCommon; rw [List.foldl_append]; simp
  have hc1 : 1 ≤ qtCommon r := common_ge r 1 (by omega) hr
  have es : (r ++ [0]).sum = r.sum := by simp
  have ev : (v ++ [0]).sum = v.sum := by simp
  have hq : qtQ (v ++ [0]) (r ++ [0]) = qtQ v r ++ [0] := by
    unfold qtQ
    rw [List.length_append, List.length_singleton, List.range_succ, List.map_append, hC]
    congr 1
    · apply List.map_congr_left; intro i hi
      have hi := List.mem_range.mp hi
      rw [getD_app hi, getD_app (by omega)]
    · simp [getD_end]
  have hu : qtUp (v ++ [0]) (r ++ [0]) = qtUp v r ++ [0] := by unfold qtUp; rw [es, ev]; simp
  have hql : (qtQ v r).length = v.length := by simp [qtQ]
  have hul : (qtUp v r).length = v.length := by simp [qtUp]
  have h2 : qtQ2 (v ++ [0]) (r ++ [0]) = qtQ2 v r ++ [0] := by
    unfold qtQ2
    rw [List.length_append, List.length_singleton, List.range_succ, List.map_append, hq, hu]
    congr 1
    · apply List.map_congr_left; intro i hi
      have hi := List.mem_range.mp hi
      rw [getD_app (by omega), getD_app (by omega), getD_app (by omega)]
    · show [if (qtUp v r ++ [0]).getD v.length 0 ≤ (r ++ [0]).getD v.length 0 then (0 : Int) else _] = [0]
      rw [getD_end hul.symm, getD_end hl.symm, if_pos (Int.le_refl 0)]
  have h2l : (qtQ2 v r).length = v.length := by simp [qtQ2]
  have h2n : ∀ x ∈ qtQ2 v r, 0 ≤ x := fun x hx => by
    obtain ⟨i, hi, rfl⟩ := List.mem_map.mp hx
    have hi := List.mem_range.mp hi
    split
    · omega
    · unfold qtQ
      have : ((List.range v.length).map fun i => v.getD i 0 * qtCommon r / (r.getD i 0 + 1)).getD i 0 = v.getD i 0 * qtCommon r / (r.getD i 0 + 1) := by simp [List.getD, hi]
      rw [this]
      have h1 := (hv.nn _ (PySem.getD_mem (j := i) hi)).1
      have h3 := hr _ (PySem.getD_mem (l := r) (j := i) (by omega))
      exact Int.ediv_nonneg (Int.mul_nonneg h1 (by omega)) (by omega)
  have hi : ∃ tl, qtIdx (v ++ [0]) (r ++ [0]) = qtIdx v r ++ tl := by
    unfold qtIdx
    rw [h2, lmax_app (by intro h; rw [h] at h2l; simp at h2l; omega) h2n, List.length_append, List.length_singleton, List.range_succ, List.filter_append]
    refine ⟨List.filter (fun i => decide ((qtQ2 v r ++ [0]).getD i 0 = lmax (qtQ2 v r))) [v.length], ?_⟩
    congr 1
    apply List.filter_congr; intro i hi
    have hi := List.mem_range.mp hi
    rw [getD_app (by omega)]
  obtain ⟨tl, hi⟩ := hi
  have hne := qtIdx_ne (votes := v) (r := r) hlo
  have hn : qtNext (v ++ [0]) (r ++ [0]) = qtNext v r := by
    unfold qtNext
    rw [hi, getD_app (List.length_pos_iff.mpr hne)]
  have hnl := (qtNext_lt (r := r) hlo).1
  unfold qtStep
  rw [hn, getD_app (by omega), List.set_append, if_pos (by omega)]
theorem qt_app {v : List Int} (hv : Vok v) : ∀ k, qtRun (v ++ [0]) k = qtRun v k ++ [0]
  | 0 => by simp [qtRun, List.replicate_succ']
  | k + 1 => by
    obtain ⟨a, b, c⟩ := qtRun_ok hv.lo k
    show qtStep _ _ = qtStep _ _ ++ _
    rw [qt_app hv k, qtStep_app hv a fun x hx => (c x hx).1]
/-! highest averages, with no program in sight -/
def wRow (U : List Int) (q : Int) : List Int := U.map (q * ·)
def wRows (U : List Int) (qs : List Int) : List (List Int) := qs.map (wRow U)
def aMn (U qs init : List Int) (S : Int) : Int := kth (wRows U qs).flatten (S - init.sum).toNat
def aR (U qs init : List Int) (mn : Int) : List Int := List.zipWith (fun a row => a + (above mn row : Int)) init (wRows U qs)
def aBs (U qs : List Int) (mn : Int) : List Bool := (wRows U qs).map (·.contains mn)
def aRes (U qs init : List Int) (S : Int) : List Int × Bool := if init.sum < S then gFin (aR U qs init (aMn U qs init S)) S (aBs U qs (aMn U qs init S)) else (init, false)
structure AOk (U qs init : List Int) (S : Int) : Prop where
  up : ∀ x ∈ U, 0 < x
  dec : U.Pairwise (· > ·)
  ul : U.length = S.toNat
  qn : ∀ q ∈ qs, 0 ≤ q
  ex : ∃ q ∈ qs, 0 < q
  il : init.length = qs.length
  ib : ∀ x ∈ init, 0 ≤ x
  le : init.sum ≤ S

theorem wRow_zero {U : List Int} : ∀ x ∈ wRow U 0, x = 0 := fun x hx => by
  obtain ⟨u, _, rfl⟩ := List.mem_map.mp hx; simp
theorem wRow_nodup {U : List Int} (h : U.Pairwise (· > ·)) {q : Int} (hq : 0 < q) : (wRow U q).Nodup := by
  unfold wRow
  rw [List.nodup_iff_pairwise_ne, List.pairwise_map]
  exact h.imp fun {a b} hab e => by
    have := Int.eq_of_mul_eq_mul_left (by omega) e; omega
theorem flat_len' {U qs : List Int} : (wRows U qs).flatten.length = qs.length * U.length := by
  unfold wRows
  induction qs with
  | nil => simp
  | cons p l ih =>
    rw [List.map_cons, List.flatten_cons, List.length_append, ih, List.length_cons, Nat.add_mul]
    simp [wRow]; omega

section
variable {U qs init : List Int} {S : Int}
theorem AOk.T (h : AOk U qs init S) (hlt : init.sum < S) : 0 < (S - init.sum).toNat ∧ (S - init.sum).toNat ≤ U.length ∧ (S - init.sum).toNat ≤ (wRows U qs).flatten.length := by
  have h1 := sum_nonneg h.ib
  have h2 := h.ul
  have h3 : 1 ≤ qs.length := by obtain ⟨q, hq, _⟩ := h.ex; exact List.length_pos_of_mem hq
  have h4 : U.length ≤ qs.length * U.length := by
    have := Nat.mul_le_mul h3 (Nat.le_refl U.length); omega
  rw [flat_len']
  omega
theorem AOk.kth (h : AOk U qs init S) (hlt : init.sum < S) : IsKth (wRows U qs).flatten (S - init.sum).toNat (aMn U qs init S) := (kth_is (h.T hlt).1 (h.T hlt).2.2).1
theorem AOk.pos (h : AOk U qs init S) (hlt : init.sum < S) : 0 < aMn U qs init S := by
  have hk := (h.kth hlt).a
  have hT := h.T hlt
  by_cases hp : 0 < aMn U qs init S
  · exact hp
  · exfalso
    obtain ⟨q, hq, hq0⟩ := h.ex
    have h1 : U.length ≤ above (aMn U qs init S) (wRows U qs).flatten := by
      have e : above (aMn U qs init S) (wRow U q) = U.length := by
        unfold above wRow
        rw [List.countP_map]
        exact List.countP_eq_length.mpr fun u hu => by
          have := Int.mul_pos hq0 (h.up u hu)
          simp; omega
      have hsub : (wRow U q).Sublist (wRows U qs).flatten := List.sublist_flatten_of_mem (List.mem_map.mpr ⟨q, hq, rfl⟩)
      have := hsub.countP_le (p := fun w => decide (aMn U qs init S < w))
      unfold above at e ⊢
      omega
    omega
theorem zip_sum (f : List Int → Int) : ∀ (init : List Int) (W : List (List Int)), init.length = W.length → (List.zipWith (fun a row => a + f row) init W).sum = init.sum + (W.map f).sum
  | [], [], _ => by simp
  | a :: init, row :: W, h => by
    have := zip_sum f init W (by simpa using h)
    simp [this]; omega
theorem nat_sum (f : List Int → Nat) : ∀ W : List (List Int), (W.map fun row => (f row : Int)).sum = ((W.map f).sum : Nat)
  | [] => by simp
  | row :: W => by simp [nat_sum f W]
theorem AOk.rsum (h : AOk U qs init S) (m : Int) : (aR U qs init m).sum = init.sum + (above m (wRows U qs).flatten : Nat) := by
  unfold aR
  rw [zip_sum (fun row => (above m row : Int)) _ _ (by rw [h.il]; simp [wRows]), nat_sum]
  unfold above
  rw [List.countP_flatten]
theorem count_le (h : AOk U qs init S) {m : Int} (hm : 0 < m) : (wRows U qs).flatten.countP (fun w => decide (w = m)) ≤ (aBs U qs m).count true := by
  rw [List.countP_flatten]
  unfold aBs wRows
  have hq := h.qn
  have hU := h.dec
  clear h
  induction qs with
  | nil => simp
  | cons q qs ih =>
    have ih := ih fun x hx => hq x (by simp [hx])
    simp only [List.map_cons, List.sum_cons, List.count_cons]
    have h1 : (wRow U q).countP (fun w => decide (w = m)) ≤ (if ((wRow U q).contains m == true) = true then 1 else 0) := by
      by_cases hc : m ∈ wRow U q
      · rw [if_pos (by simpa using hc)]
        have hq0 : 0 < q := by
          have := hq q (by simp)
          by_cases e : q = 0
          · subst e; have := wRow_zero m hc; omega
          · omega
        have hn := wRow_nodup (q := q) hU hq0
        have := List.nodup_iff_count.mp hn m
        have e : (wRow U q).countP (fun w => decide (w = m)) = (wRow U q).count m := by
          rw [List.count_eq_countP]; congr 1
        rw [e]; exact this
      · have : (wRow U q).countP (fun w => decide (w = m)) = 0 := List.countP_eq_zero.mpr fun x hx => by
          simp; rintro rfl; exact hc hx
        omega
    omega
theorem least_split (m : Int) (xs : List Int) : least m xs = above m xs + xs.countP fun w => decide (w = m) := by
  unfold least above
  induction xs with
  | nil => rfl
  | cons x xs ih =>
    simp only [List.countP_cons, ih, decide_eq_true_eq]
    by_cases h1 : m < x
    · rw [if_pos h1, if_pos (by omega), if_neg (by omega)]; omega
    · by_cases h2 : x = m
      · rw [if_neg h1, if_pos (by omega), if_pos h2]; omega
      · rw [if_neg h1, if_neg (by omega), if_neg h2]; omega
theorem AOk.gok (h : AOk U qs init S) (hlt : init.sum < S) : GOk (aR U qs init (aMn U qs init S)) S (aBs U qs (aMn U qs init S)) := by
  have hk := h.kth hlt
  have hp := h.pos hlt
  have hs := h.rsum (aMn U qs init S)
  have ha := hk.a
  have hb := hk.b
  rw [least_split] at hb
  have hc := count_le h hp
  refine ⟨by unfold aR aBs; rw [List.length_zipWith, List.length_map, h.il]; simp [wRows], by omega, fun _ => by omega⟩
theorem aRes_sum (h : AOk U qs init S) : (aRes U qs init S).1.sum = S ∧ (aRes U qs init S).1.length = qs.length := by
  unfold aRes
  split
  · rename_i hlt
    refine ⟨gFin_sum (h.gok hlt), ?_⟩
    rw [gFin_len]; unfold aR; rw [List.length_zipWith, h.il]; simp [wRows]
  · exact ⟨by have := h.le; show init.sum = S; omega, h.il⟩
theorem flatten_scale (t : Int) : ∀ W : List (List Int), (W.map fun r => r.map (t * ·)).flatten = W.flatten.map (t * ·)
  | [] => rfl
  | r :: W => by rw [List.map_cons, List.flatten_cons, List.flatten_cons, List.map_append, flatten_scale t W]
theorem wRows_scale {t : Int} : wRows U (qs.map (t * ·)) = (wRows U qs).map fun r => r.map (t * ·) := by
  unfold wRows wRow
  rw [List.map_map, List.map_map]
  apply List.map_congr_left; intro q _
  show U.map _ = (U.map _).map _
  rw [List.map_map]
  apply List.map_congr_left; intro u _
  exact Int.mul_assoc t q u
theorem aRes_scale (h : AOk U qs init S) {t : Int} (ht : 0 < t) : aRes U (qs.map (t * ·)) init S = aRes U qs init S := by
  unfold aRes
  split
  · rename_i hlt
    have hm : aMn U (qs.map (t * ·)) init S = t * aMn U qs init S := by
      show kth _ _ = _
      rw [wRows_scale, flatten_scale]
      exact kth_eq (h.T hlt).1 (by rw [List.length_map]; exact (h.T hlt).2.2) ((h.kth hlt).scale ht)
    rw [hm]
    have e1 : aR U (qs.map (t * ·)) init (t * aMn U qs init S) = aR U qs init (aMn U qs init S) := by
      unfold aR
      rw [wRows_scale, List.zipWith_map_right]
      congr 1; funext a row
      unfold above
      rw [List.countP_map]
      congr 3; funext w; simp [mul_lt_iff ht]
    have e2 : aBs U (qs.map (t * ·)) (t * aMn U qs init S) = aBs U qs (aMn U qs init S) := by
      unfold aBs
      rw [wRows_scale, List.map_map]
      apply List.map_congr_left; intro row _
      show (row.map (t * ·)).contains _ = row.contains _
      rw [Bool.eq_iff_iff, List.contains_iff_mem, List.contains_iff_mem, List.mem_map]
      exact ⟨fun ⟨x, hx, e⟩ => by have := Int.eq_of_mul_eq_mul_left (by omega) e; subst this; exact hx, fun hx => ⟨_, hx, rfl⟩⟩
    rw [e1, e2]
  · rfl
theorem wRows_app : wRows U (qs ++ [0]) = wRows U qs ++ [wRow U 0] := by unfold wRows; simp
theorem aRes_app (h : AOk U qs init S) : (aRes U (qs ++ [0]) (init ++ [0]) S).1 = (aRes U qs init S).1 ++ [0] := by
  have es : (init ++ [0]).sum = init.sum := by simp
  unfold aRes
  rw [es]
  split
  · rename_i hlt
    have hp := h.pos hlt
    have hm : aMn U (qs ++ [0]) (init ++ [0]) S = aMn U qs init S := by
      show kth _ _ = _
      rw [wRows_app, List.flatten_append, es]
      refine kth_eq (h.T hlt).1 (by rw [List.length_append]; have := (h.T hlt).2.2; omega) ((h.kth hlt).add fun y hy => ?_)
      have : y ∈ wRow U 0 := by simpa using hy
      rw [wRow_zero y this]; exact hp
    rw [hm]
    have hl : init.length = (wRows U qs).length := by rw [h.il]; simp [wRows]
    have e1 : aR U (qs ++ [0]) (init ++ [0]) (aMn U qs init S) = aR U qs init (aMn U qs init S) ++ [0] := by
      unfold aR
      rw [wRows_app, List.zipWith_append hl]
      congr 1
      show [0 + (above _ (wRow U 0) : Int)] = [0]
      have : above (aMn U qs init S) (wRow U 0) = 0 := List.countP_eq_zero.mpr fun x hx => by rw [wRow_zero x hx]; simp; omega
      rw [this]; rfl
    have e2 : aBs U (qs ++ [0]) (aMn U qs init S) = aBs U qs (aMn U qs init S) ++ [false] := by
      unfold aBs
      rw [wRows_app, List.map_append]
      congr 1
      show [(wRow U 0).contains _] = [false]
      congr 1
      rw [Bool.eq_false_iff]; intro hc
      have := wRow_zero _ (List.contains_iff_mem.mp hc); omega
    rw [e1, e2]
    exact gFin_snoc (h.gok hlt).len
  · rfl
theorem zip_rot {α β γ : Type} (f : α → β → γ) {r : List α} {bs : List β} (h : r.length = bs.length) (t : Nat) : List.zipWith f (rotL t r) (rotL t bs) = rotL t (List.zipWith f r bs) := by
  unfold rotL
  rw [List.zipWith_append (by simp; omega), List.drop_zipWith, List.take_zipWith]
theorem aRes_rot (h : AOk U qs init S) (t : Nat) : (aRes U (rotL t qs) (rotL t init) S).2 = (aRes U qs init S).2 ∧ ((aRes U qs init S).2 = false → (aRes U (rotL t qs) (rotL t init) S).1 = rotL t (aRes U qs init S).1) := by
  have hw : wRows U (rotL t qs) = rotL t (wRows U qs) := by unfold wRows; rw [rotL_map]
  have hl : init.length = (wRows U qs).length := by rw [h.il]; simp [wRows]
  unfold aRes
  rw [rotL_sum]
  split
  · rename_i hlt
    have hm : aMn U (rotL t qs) (rotL t init) S = aMn U qs init S := by
      show kth _ _ = _
      rw [hw, rotL_sum]
      have hp : (wRows U qs).flatten.Perm (rotL t (wRows U qs)).flatten := (rotL_perm t _).symm.flatten
      exact kth_eq (h.T hlt).1 (by rw [← hp.length_eq]; exact (h.T hlt).2.2) ((h.kth hlt).perm hp)
    have e1 : aR U (rotL t qs) (rotL t init) (aMn U qs init S) = rotL t (aR U qs init (aMn U qs init S)) := by
      unfold aR; rw [hw, zip_rot _ hl]
    have e2 : aBs U (rotL t qs) (aMn U qs init S) = rotL t (aBs U qs (aMn U qs init S)) := by
      unfold aBs; rw [hw, rotL_map]
    rw [hm, e1, e2]
    exact gFin_rot (h.gok hlt) t
  · exact ⟨rfl, fun _ => rfl⟩
theorem aRes_bd (h : AOk U qs init S) : ∀ x ∈ (aRes U qs init S).1, 0 ≤ x ∧ x ≤ S + 1 := by
  unfold aRes
  split
  · rename_i hlt
    have h0 : ∀ x ∈ aR U qs init (aMn U qs init S), 0 ≤ x := fun x hx => by
      unfold aR at hx
      obtain ⟨i, hi, rfl⟩ := List.mem_iff_getElem.mp hx
      rw [List.getElem_zipWith]
      rw [List.length_zipWith] at hi
      have := h.ib _ (List.getElem_mem (l := init) (n := i) (by omega))
      omega
    refine gFin_mem fun x hx => ?_
    have := le_sum h0 x hx
    have := (h.gok hlt).le
    exact ⟨h0 x hx, by omega⟩
  · intro x hx
    have := le_sum h.ib x hx
    have := h.ib x hx
    have := h.le
    omega
end
def uRow (k : Nat) (S : Int) : List Int := (dvDivs k S).map fun d => d.2 * (dvCommon (dvDivs k S) / d.1)
theorem dv_fold_dvd : ∀ (r : List (Int × Int)) (c : Int), c ∣ r.foldl (fun c d => c * d.1) c
  | [], c => Int.dvd_refl c
  | x :: r, c => Int.dvd_trans (Int.dvd_mul_right c x.1) (dv_fold_dvd r (c * x.1))
theorem dv_dvd : ∀ (r : List (Int × Int)) (c : Int), ∀ x ∈ r, x.1 ∣ r.foldl (fun c d => c * d.1) c
  | y :: r, c, x, h => by
    rcases List.mem_cons.mp h with rfl | h
    · exact Int.dvd_trans (Int.dvd_mul_left c x.1) (dv_fold_dvd r (c * x.1))
    · exact dv_dvd r (c * y.1) x h
theorem dvRow_eq (k : Nat) (S : Int) (p : Int) : dvRow k (dvDivs k S) p = wRow (uRow k S) (dvPow k p) := by
  unfold dvRow wRow uRow
  rw [List.map_map]
  apply List.map_congr_left; intro d hd
  show dvPow k p * d.2 * dvCommon _ / d.1 = dvPow k p * (d.2 * (dvCommon _ / d.1))
  have h : d.1 ∣ dvCommon (dvDivs k S) := dv_dvd _ 1 d hd
  rw [Int.mul_ediv_assoc _ h, Int.mul_assoc]
theorem dvW_eq (k : Nat) (S : Int) (v : List Int) : dvW k (dvDivs k S) v = wRows (uRow k S) (v.map (dvPow k)) := by
  unfold dvW wRows
  rw [List.map_map]
  apply List.map_congr_left; intro p _
  exact dvRow_eq k S p
theorem dvDiv_dec : ∀ k < 6, ∀ i < 12, ∀ j < 12, i < j → (dvDiv k j).2 * (dvDiv k i).1 < (dvDiv k i).2 * (dvDiv k j).1 := by decide +kernel
theorem u_lt {c a b x y : Int} (hc : 0 < c) (ha : 0 < a) (hb : 0 < b) (da : a ∣ c) (db : b ∣ c) (h : y * a < x * b) : y * (c / b) < x * (c / a) := by
  have e1 : c / a * a = c := Int.ediv_mul_cancel da
  have e2 : c / b * b = c := Int.ediv_mul_cancel db
  have hab : 0 < a * b := Int.mul_pos ha hb
  refine Int.lt_of_mul_lt_mul_right (a := a * b) ?_ (Int.le_of_lt hab)
  have l1 : y * (c / b) * (a * b) = y * a * c := by
    rw [show y * (c / b) * (a * b) = y * a * (c / b * b) by ac_rfl, e2]
  have l2 : x * (c / a) * (a * b) = x * b * c := by
    rw [show x * (c / a) * (a * b) = x * b * (c / a * a) by ac_rfl, e1]
  rw [l1, l2]
  exact Int.mul_lt_mul_of_pos_right h hc
theorem pow_b {k : Nat} {p : Int} (h : 0 ≤ p) : 0 ≤ dvPow k p ∧ (0 < p → 0 < dvPow k p) := by
  unfold dvPow
  split
  · exact ⟨Int.mul_nonneg h h, fun q => Int.mul_pos q q⟩
  · exact ⟨h, id⟩
theorem pow_zero {k : Nat} : dvPow k 0 = 0 := by unfold dvPow; split <;> rfl

theorem init_le {k : Nat} {v : List Int} : (dvInit k v).sum ≤ v.length := by
  have hb := @init_b k v
  rw [← hb.1]
  have : ∀ l : List Int, (∀ x ∈ l, 0 ≤ x ∧ x ≤ 1) → l.sum ≤ l.length := by
    intro l
    induction l with
    | nil => intro _; simp
    | cons x l ih =>
      intro h
      have h1 := h x (by simp)
      have h2 := ih fun y hy => h y (by simp [hy])
      rw [List.sum_cons, List.length_cons]; omega
  exact this _ hb.2
theorem dv_aok {k : Nat} {v : List Int} {S : Int} (hk : k < 6) (hv : Vok v) (hV : 0 < v.sum) (h0 : v.length ≤ S) (h1 : S ≤ 12) : AOk (uRow k S) (v.map (dvPow k)) (dvInit k v) S := by
  have hD := dvDivs_b (k := k) (seats := S) hk h1
  have hl : (dvDivs k S).length = S.toNat := by simp [dvDivs]
  have hc := common_b (fun d hd => (hD d hd).1) (by rw [hl]; omega)
  have hq0 : ∀ d ∈ dvDivs k S, 0 < dvCommon (dvDivs k S) / d.1 := fun d hd => by
    have e := Int.ediv_mul_cancel (dv_dvd (dvDivs k S) 1 d hd)
    have h2 := (hD d hd).1
    have e : dvCommon (dvDivs k S) / d.1 * d.1 = dvCommon (dvDivs k S) := e
    by_cases h : 0 < dvCommon (dvDivs k S) / d.1
    · exact h
    · exfalso
      have := Int.mul_nonneg (a := -(dvCommon (dvDivs k S) / d.1)) (b := d.1) (by omega) (by omega)
      rw [Int.neg_mul] at this
      omega
  refine ⟨fun x hx => ?_, ?_, by simp [uRow, hl], fun q hq => ?_, ?_, by rw [init_b.1]; simp, fun x hx => (init_b.2 x hx).1, by have := @init_le k v; omega⟩
  · obtain ⟨d, hd, rfl⟩ := List.mem_map.mp hx
    exact Int.mul_pos (by have := (hD d hd).2; omega) (hq0 d hd)
  · unfold uRow
    rw [List.pairwise_map]
    generalize hds : dvCommon (dvDivs k S) = c at *
    have hdv : ∀ d ∈ dvDivs k S, d.1 ∣ c := fun d hd => by rw [← hds]; exact dv_dvd _ 1 d hd
    unfold dvDivs at hdv ⊢
    rw [List.pairwise_map]
    refine List.Pairwise.imp_of_mem ?_ List.pairwise_lt_range
    intro i j hi hj hij
    have hdi := hdv _ (List.mem_map.mpr ⟨i, hi, rfl⟩)
    have hdj := hdv _ (List.mem_map.mpr ⟨j, hj, rfl⟩)
    have hi := List.mem_range.mp hi
    have hj := List.mem_range.mp hj
    have bi := dvDiv_b k hk i (by omega)
    have bj := dvDiv_b k hk j (by omega)
    exact u_lt (by omega) (by omega) (by omega) hdi hdj (dvDiv_dec k hk i (by omega) j (by omega) hij)
  · obtain ⟨p, hp, rfl⟩ := List.mem_map.mp hq
    exact (pow_b (hv.nn p hp).1).1
  · have : ∃ p ∈ v, 0 < p := by
      by_cases h : ∃ p ∈ v, 0 < p
      · exact h
      · exfalso
        have : ∀ l : List Int, (∀ p ∈ l, 0 ≤ p) → (¬ ∃ p ∈ l, 0 < p) → l.sum = 0 := by
          intro l
          induction l with
          | nil => intro _ _; simp
          | cons x l ih =>
            intro h1 h2
            have h3 := h1 x (by simp)
            have h4 : ¬ 0 < x := fun q => h2 ⟨x, by simp, q⟩
            have h5 := ih (fun y hy => h1 y (by simp [hy])) fun ⟨y, hy, q⟩ => h2 ⟨y, by simp [hy], q⟩
            rw [List.sum_cons]; omega
        have := this v (fun p hp => (hv.nn p hp).1) h
        omega
    obtain ⟨p, hp, h⟩ := this
    exact ⟨_, List.mem_map.mpr ⟨p, hp, rfl⟩, (pow_b (by omega)).2 h⟩
theorem dvReps_eq {W : List (List Int)} {init : List Int} {mn : Int} (h : init.length = W.length) : dvReps W init mn W.length = List.zipWith (fun a row => a + (above mn row : Int)) init W := by
  unfold dvReps
  apply List.ext_getElem
  · simp [h]
  · intro i h1 h2
    have hi : i < W.length := by simpa using h1
    have hi' : i < init.length := by omega
    simp [List.getD, hi, hi', cnt, above, List.countP_eq_length_filter]
theorem dvRes_eq {k : Nat} {v : List Int} {S : Int} (hk : k < 6) (hv : Vok v) (hV : 0 < v.sum) (h0 : v.length ≤ S) (h1 : S ≤ 12) : dvRes k v S = aRes (uRow k S) (v.map (dvPow k)) (dvInit k v) S := by
  have A := dv_aok hk hv hV h0 h1
  unfold dvRes aRes
  by_cases hlt : (dvInit k v).sum < S
  · rw [if_pos hlt, if_pos hlt, dvW_eq]
    have hT := A.T hlt
    have hi0 := sum_nonneg A.ib
    have hWl : (wRows (uRow k S) (v.map (dvPow k))).length = v.length := by simp [wRows]
    have hmn : dvMin (wRows (uRow k S) (v.map (dvPow k))) (dvInit k v) S = aMn (uRow k S) (v.map (dvPow k)) (dvInit k v) S := by
      unfold dvMin aMn kth
      congr 1; omega
    unfold dvFin
    rw [hmn]
    have hr : dvReps (wRows (uRow k S) (v.map (dvPow k))) (dvInit k v) (aMn (uRow k S) (v.map (dvPow k)) (dvInit k v) S) v.length = aR (uRow k S) (v.map (dvPow k)) (dvInit k v) (aMn (uRow k S) (v.map (dvPow k)) (dvInit k v) S) := by
      unfold aR
      rw [← hWl]
      exact dvReps_eq (by rw [hWl]; exact init_b.1)
    rw [hr]
    have G := A.gok hlt
    generalize hm : aMn (uRow k S) (v.map (dvPow k)) (dvInit k v) S = mn at *
    generalize hR : aR (uRow k S) (v.map (dvPow k)) (dvInit k v) mn = r0 at *
    have hrl : r0.length = v.length := by rw [← hR]; unfold aR; rw [List.length_zipWith, hWl, init_b.1]; simp
    unfold gFin
    split
    · rename_i hlt2
      have e : ∀ i, i ≤ v.length → dvRun (wRows (uRow k S) (v.map (dvPow k))) mn S (r0, false) i = gRun S (aBs (uRow k S) (v.map (dvPow k)) mn) (r0, false) i := by
        intro i
        induction i with
        | zero => intro _; rfl
        | succ i ih =>
          intro hi
          show dvStep _ _ _ _ _ = gStep _ _ _ _
          rw [ih (by omega)]
          have hb : (aBs (uRow k S) (v.map (dvPow k)) mn).getD i false = ((wRows (uRow k S) (v.map (dvPow k))).getD i []).contains mn := by
            have : i < (wRows (uRow k S) (v.map (dvPow k))).length := by omega
            unfold aBs
            simp [List.getD, this]
          rw [hb]
          unfold dvStep gStep
          generalize gRun S (aBs (uRow k S) (v.map (dvPow k)) mn) (r0, false) i = st
          generalize ((wRows (uRow k S) (v.map (dvPow k))).getD i []).contains mn = b
          cases b with
          | false => simp
          | true =>
            have q0 : (true = true) := rfl
            by_cases a1 : st.1.sum = S
            · have n : ¬ (st.1.sum < S ∧ true = true) := fun h => by have := h.1; omega
              have y : st.1.sum = S ∧ true = true := ⟨a1, rfl⟩
              rw [if_neg n, if_pos y, decide_eq_true a1]; simp
            · have n : ¬ (st.1.sum = S ∧ true = true) := fun h => a1 h.1
              rw [if_neg n, decide_eq_false a1]
              by_cases a2 : st.1.sum < S
              · have y : st.1.sum < S ∧ true = true := ⟨a2, rfl⟩
                rw [if_pos y, if_pos y]; simp
              · have n2 : ¬ (st.1.sum < S ∧ true = true) := fun h => a2 h.1
                rw [if_neg n2, if_neg n2]; simp
      rw [e _ (Nat.le_refl _), ← hrl]
      exact gRun_all G.len G.le
    · rfl
  · rw [if_neg hlt, if_neg hlt]

theorem pow_scale {k : Nat} {t : Int} (ht : 0 < t) : ∃ t', 0 < t' ∧ ∀ p, dvPow k (p * t) = t' * dvPow k p := by
  unfold dvPow
  split
  · exact ⟨t * t, Int.mul_pos ht ht, fun p => by ac_rfl⟩
  · exact ⟨t, ht, fun p => Int.mul_comm p t⟩
theorem dv_scale {k : Nat} {v : List Int} {S t : Int} (hk : k < 6) (hv : Vok v) (hv' : Vok (v.map fun p => p * t)) (hV : 0 < v.sum) (ht : 0 < t) (h0 : v.length ≤ S) (h1 : S ≤ 12) : dvRes k (v.map fun p => p * t) S = dvRes k v S := by
  have hV' : 0 < (v.map fun p => p * t).sum := by rw [sum_scale]; exact Int.mul_pos hV ht
  rw [dvRes_eq hk hv' hV' (by simpa using h0) h1, dvRes_eq hk hv hV h0 h1]
  obtain ⟨t', ht', hp⟩ := @pow_scale k t ht
  have e1 : (v.map fun p => p * t).map (dvPow k) = (v.map (dvPow k)).map (t' * ·) := by
    rw [List.map_map, List.map_map]; apply List.map_congr_left; intro p _; exact hp p
  have e2 : dvInit k (v.map fun p => p * t) = dvInit k v := by
    unfold dvInit
    split
    · rw [List.length_map]
    · rw [List.map_map]; apply List.map_congr_left; intro p _
      show (if 0 < p * t then (1 : Int) else 0) = _
      have : 0 < p * t ↔ 0 < p := by
        constructor
        · intro h
          by_cases q : 0 < p
          · exact q
          · exfalso
            have := Int.mul_nonneg (a := -p) (b := t) (by omega) (by omega)
            rw [Int.neg_mul] at this; omega
        · exact fun h => Int.mul_pos h ht
      simp [this]
  rw [e1, e2]
  exact aRes_scale (dv_aok hk hv hV h0 h1) ht'
theorem dv_app {k : Nat} {v : List Int} {S : Int} (hk : k < 6) (hv : Vok v) (hv' : Vok (v ++ [0])) (hV : 0 < v.sum) (h0 : v.length + 1 ≤ S) (h1 : S ≤ 12) : (dvRes k (v ++ [0]) S).1 = (dvRes k v S).1 ++ [0] := by
  have hV' : 0 < (v ++ [0]).sum := by simpa using hV
  rw [dvRes_eq hk hv' hV' (by simp; omega) h1, dvRes_eq hk hv hV (by omega) h1]
  have e1 : (v ++ [0]).map (dvPow k) = v.map (dvPow k) ++ [0] := by rw [List.map_append]; simp [pow_zero]
  have e2 : dvInit k (v ++ [0]) = dvInit k v ++ [0] := by
    unfold dvInit
    split
    · simp [List.replicate_succ']
    · simp
  rw [e1, e2]
  exact aRes_app (dv_aok hk hv hV (by omega) h1)
theorem dv_rot {k : Nat} {v : List Int} {S : Int} (t : Nat) (hk : k < 6) (hv : Vok v) (hv' : Vok (rotL t v)) (hV : 0 < v.sum) (h0 : v.length ≤ S) (h1 : S ≤ 12) : (dvRes k (rotL t v) S).2 = (dvRes k v S).2 ∧ ((dvRes k v S).2 = false → (dvRes k (rotL t v) S).1 = rotL t (dvRes k v S).1) := by
  have hV' : 0 < (rotL t v).sum := by rw [rotL_sum]; exact hV
  rw [dvRes_eq hk hv' hV' (by rw [rotL_len]; exact h0) h1, dvRes_eq hk hv hV h0 h1]
  have e1 : (rotL t v).map (dvPow k) = rotL t (v.map (dvPow k)) := rotL_map _ _ _
  have e2 : dvInit k (rotL t v) = rotL t (dvInit k v) := by
    unfold dvInit
    split
    · have : ∀ l : List Int, List.replicate l.length (0 : Int) = l.map fun _ => 0 := fun l => by simp [List.map_const']
      rw [this, this, rotL_map]
    · rw [rotL_map]
  rw [e1, e2]
  exact aRes_rot (dv_aok hk hv hV h0 h1) t
/-! what law 01 calls beside -/
def keptOf (votes : List Int) (a b : Int) : List Int := votes.map fun p => if p * b < votes.sum * a then 0 else p

theorem thrT_ok {C : W0} {n : Nat} (hd : DefAt C (fdAt PW 3) []) {votes : List Int} {x y : Int} (hv : Vok votes) (hx : 0 ≤ x ∧ x ≤ 100) (hy : 0 ≤ y ∧ y ≤ 100) : CallOK C (n + 1) "apply_threshold" [intsD votes, .tup [.int x, .int y]] (intsD (keptOf votes x y)) := by
  refine CallOK.of hd (ddfl := []) (fun _ => RepL.nil) (Nat.le_of_ble_eq_true rfl) (Nat.le_of_ble_eq_true rfl) fun {h₀ A s L a cd E} R hc ho F => ?_
  have hhi := hv.hi
  have hvs := hv.sum
  have F : FS C h₀ (fEnv (fdAt PW 3) L a cd) [("votes", intsD votes), ("threshold", .tup [.int x, .int y])] none s.heap := F
  show wpAny _ _ (execs (_ :: _) _) _ _ _
  refine wpAny_execs_cons (x_if F R (Ts.cmp (by walk_at "nm") Ev.non CmpOk.isNotN) fun s₁ m₁ F₁ => ?_)
  rw [show (!(D.tup [.int x, .int y]).isNone) = true from rfl, if_pos rfl]
  refine wpAny_execs_cons (x_nil F₁ fun s₂ aR m₂ F₂ => ?_)
  refine wpAny_execs_cons (x_set (d := .int votes.sum) F₂ R (Ev.sum ho (by walk_at "nm") hv.Nn) (.inr rfl) (by walk_at "ne") fun s₃ m₃ F₃ => ?_)
  refine wpAny_execs_cons (x_set (d := .int (votes.sum * x)) F₃ R (Ev.mul (by walk_at "nm") (Ev.itemT (by walk_at "nm") Ev.int (by decide) (by decide) rfl) (by unfold Sm; omega) (by unfold Sm; omega)) (.inr rfl) (by walk_at "ne") fun s₄ m₄ F₄ => ?_)
  have F₄ : FS C h₀ (fEnv (fdAt PW 3) L a cd) [("min_votes", .int (votes.sum * x)), ("votes", intsD votes), ("threshold", .tup [.int x, .int y])] (some ⟨"v", aR, #[], [], true⟩) s₄.heap := F₄.sub (by walk_at "sub")
  have m04 := m₁.trans m₂ |>.trans m₃ |>.trans m₄
  have hkl : (keptOf votes x y).length = votes.length := by simp [keptOf]
  refine wpAny_execs_cons (x_for (xs := votes.map D.int) hc F₄ R (ItO.name (by walk_at "mm") (by simp; omega))
    (fun i ρ own => ρ = ([("min_votes", .int (votes.sum * x)), ("votes", intsD votes), ("threshold", .tup [.int x, .int y])] : Rho) ∧ ∃ items, own = some ⟨"v", aR, items, (keptOf votes x y).take i, true⟩) (fun _ _ _ => False) ⟨rfl, #[], rfl⟩ ?_ ?_ (.inr ?_) ?_ (fun _ _ _ _ h => h.elim) ?_)
  · rintro i ρ' own' ⟨_, it, rfl⟩; rfl
  · rintro i ρ' own' ⟨_, it, rfl⟩; walk_at "ne"
  · intro d hd
    obtain ⟨j, _, rfl⟩ := List.mem_map.mp hd
    rfl
  · rintro i d ρ' own' h₁ s₅ hd ⟨rfl, it, rfl⟩ kh m₅ F₅
    rw [List.getElem?_map] at hd
    obtain ⟨p, hp, rfl⟩ := Option.map_eq_some_iff.mp hd
    have hmem : p ∈ votes := List.mem_of_getElem? hp
    have hpb := hv.nn p hmem
    have e : (keptOf votes x y).take (i + 1) = (keptOf votes x y).take i ++ [if p * y < votes.sum * x then 0 else p] := by
      rw [List.take_add_one]; unfold keptOf; rw [List.getElem?_map, hp]; rfl
    have hlen : ((keptOf votes x y).take i).length ≤ 100000 := by rw [List.length_take]; omega
    refine wpAny_execs_cons (x_if F₅ R (Ts.cmp (Ev.mul (by walk_at "nm") (Ev.itemT (d := .int y) (by walk_at "nm") Ev.int (by decide) (by decide) rfl) (by unfold Sm; omega) (by unfold Sm; omega)) (by walk_at "nm") CmpOk.lt) fun s₆ m₆ F₆ => ?_)
    rw [e]
    by_cases c : p * y < votes.sum * x
    · rw [if_pos c, show decide (p * y < votes.sum * x) = true by simpa using c, if_pos rfl]
      refine wpAny_execs_cons (x_append (i := 0) F₆ R rfl rfl Ev.int hlen fun s₇ it' m₇ F₇ => wpAny_execs_nil (wpAny_execs_nil ⟨rfl, m₆.trans m₇, _, _, ⟨rfl, it', rfl⟩, F₇.sub (by walk_at "sub")⟩))
    · rw [if_neg c, show decide (p * y < votes.sum * x) = false by simpa using c, if_neg (by decide)]
      refine wpAny_execs_cons (x_append (i := p) F₆ R rfl rfl (by walk_at "nm") hlen fun s₇ it' m₇ F₇ => wpAny_execs_nil (wpAny_execs_nil ⟨rfl, m₆.trans m₇, _, _, ⟨rfl, it', rfl⟩, F₇.sub (by walk_at "sub")⟩))
  rintro ρ' own' s₅ ⟨rfl, it, rfl⟩ m₅ F₅
  rw [show (keptOf votes x y).take (votes.map D.int).length = keptOf votes x y by rw [List.length_map, ← hkl, List.take_length]] at F₅
  refine wpAny_execs_cons (x_ret F₅ R (by walk_at "nm") fun v s₆ m₆ kp r => ?_)
  exact ⟨v, rfl, (m04.trans m₅).trans m₆, kp, r⟩
abbrev NIE : Value := .type "NotImplementedError"
theorem qt_x {C : W0} {n : Nat} (hd : DefAt C (fdAt PW 7) [.bool true]) {votes : List Int} {seats : Int} : CallX C (n + 1) "quota" [intsD votes, .int seats, .bool false] NIE := by
  refine CallX.of hd (ddfl := []) (fun _ => RepL.nil) (Nat.le_of_ble_eq_true rfl) (Nat.le_of_ble_eq_true rfl) fun {h₀ A s L a cd base outer RE} R hc ho F fl k => ?_
  have F : FS C h₀ (fEnv (fdAt PW 7) L a cd) [("votes", intsD votes), ("seats", .int seats), ("tiesallowed", .bool false)] none s.heap := F
  show wpAny _ _ (execs (_ :: _) _) _ _ _
  refine wpAny_execs_cons (x_if F R (Ts.not (Ts.val (by walk_at "nm"))) fun s₁ m₁ F₁ => ?_)
  rw [show (!false) = true from rfl, if_pos rfl]
  exact wpAny_execs_cons (x_raiseN F₁ R fl Ev.str fun a t s' m' x1 x2 => k a t s' (m₁.trans m') x1 x2)
theorem str_app_len {a b : Str} : (a ++ b).length = a.length + b.length := by
  show (a.cps ++ b.cps).size = _
  rw [Array.size_append]; rfl
theorem cp_xN {C : W0} {n : Nat} (W : Defs C) {votes : List Int} {seats : Int} {m : Str} {allowed : Bool} (hm : m.length < 2 ^ 19) (h : (m = "quota" ∧ allowed = false) ∨ (m ≠ "quota" ∧ LRM.contains m = false ∧ DIV.contains m = false)) :
    CallX C (n + 2) "compute" [.str m, intsD votes, .int seats, .none, .bool allowed] NIE := by
  refine CallX.of W.d2 (ddfl := []) (fun _ => RepL.nil) (Nat.le_of_ble_eq_true rfl) (Nat.le_of_ble_eq_true rfl) fun {h₀ A s L a cd base outer RE} R hc ho F fl k => ?_
  refine cp_head (thr := .none) (allowed := allowed) W.d3 (thr0_ok W.d3) R ho F fun j hj s₁ m₁ F₁ => ?_
  rcases h with ⟨h1, h2⟩ | ⟨h1, h2, h3⟩
  · rw [if_pos h1] at hj; subst hj; subst h2
    show wpAny _ _ (execs [_] _) _ _ _
    exact wpAny_execs_cons (x_ret_callX F₁ R fl W.d7 (EvL.cons (by walk_at "nm") (EvL.cons (by walk_at "nm") (EvL.cons (by walk_at "nm") EvL.nil))) (qt_x W.d7) rfl fun a t s' m' x1 x2 => k a t s' (m₁.trans m') x1 x2)
  · rw [if_neg h1, h2, h3, if_neg (by decide), if_neg (by decide)] at hj; subst hj
    show wpAny _ _ (execs [_] _) _ _ _
    refine wpAny_execs_cons (x_raiseN F₁ R fl (Ev.adds (Ev.adds Ev.str (by walk_at "nm") (by decide +kernel) (by omega)) Ev.str ?_ (by decide +kernel)) fun a t s' m' x1 x2 => k a t s' (m₁.trans m') x1 x2)
    rw [str_app_len]
    have : (Str.ofString "apportionment method ").length < 30 := by decide +kernel
    omega
theorem dv_xN {C : W0} {n : Nat} (hd : DefAt C (fdAt PW 5) [.bool true]) {votes : List Int} {seats : Int} {m : Str} (hl1 : 1 ≤ votes.length) (hl5 : votes.length ≤ 5) (h0 : votes.length ≤ seats) (h1 : seats ≤ 12) (hm : m.length < 2 ^ 19) (hf : famOf m = 6) :
    CallX C (n + 1) "divisor" [intsD votes, .int seats, .str m] NIE := by
  refine CallX.of hd (ddfl := [.bool true]) (fun _ => RepL.cons rep_bool RepL.nil) (Nat.le_of_ble_eq_true rfl) (Nat.le_of_ble_eq_true rfl) fun {h₀ A s L a cd base outer RE} R hc ho F fl k => ?_
  refine dv_head (allowed := true) hl1 hl5 h0 h1 R hc ho F (fun h => by omega) hm fun _ ρ s' e x np cpos pos m' F' he hs => ?_
  exact x_raiseN F' R fl he (fun a t s'' m'' x1 x2 => k a t s'' (m'.trans m'') x1 x2) rfl hs

/-- a try around a call that raises, an except NotImplementedError that returns True -/
theorem nie_handler {C : W0} {h₀ base : Heap} {outer : List Env} {env : Env} {A : Around} {s' : Shared} {a t : Addr} {p₁ p₂ p₃ p₄ : Pos} {kk : Nat} {E : Value → Shared → Prop} {Q : Flow → Shared → Prop} (ho : EnvOk env) (G : GW C base) (fl : Fl base outer env A h₀) (x1 : Heap.FlyingW base (env :: outer) a NIE (.ref t) s'.heap)
    (k : ∀ s₂, Same s' s₂ → Kp base s₂.heap → s'.heap.UpToSlots s₂.heap → Q (.ret (.bool true)) s₂) (hk : env.kindOf "NotImplementedError" = some .globalImplicit := by rfl) :
    wpAny (model C.prog C.w) A (noteFrame (.ref a) env) (fun _ s₂ => wpAny (model C.prog C.w) A (setFlight (.ref a) none) (fun _ s₃ => wpAny (model C.prog C.w) A (handleBy (.ref a) env [.ExceptHandler (some (.Name "NotImplementedError" p₁)) none [.Return (some (.Constant (.bool true) kk p₂)) p₃] p₄]) Q E s₃) E s₂) E s' := by
  refine land fl.stack fl.fr x1 (fun s₁ A' E' k1 u1 hob => ?_) (fun s₁ A' E' m1 k1 u1 => ?_)
  · have G1 : GW C s₁.heap := G.kp k1
    obtain ⟨ob, ho1, ho2⟩ := hob
    refine Name_function_global ho.k hk (loadGlobal_builtin (env := env) (by rw [ho.g]; exact G1.g) (G1.nb _ (by decide)) (by rw [ho.b]; exact G1.b) ((G1.bi _ (by decide)).trans (show bootBuiltins "NotImplementedError" = some (.type "NotImplementedError") by decide +kernel)) ?_) (by decide)
    exact wpAny_excMatches_type (X := "NotImplementedError") (b := true) ⟨ob, ho1, ho2⟩ (by rfl) (by rfl) (by rfl) ⟨rfl, rfl⟩
  · refine wpAny_execs_cons (wpAny_Return_some (wpAny_Constant_bool ?_))
    exact k _ (m1.trans ⟨rfl, rfl, rfl⟩) k1 u1
theorem refused_ok {C : W0} {n : Nat} (W : Defs C) (d15 : DefAt C (fdAt PW 15) []) {votes : List Int} {seats : Int} {m : Str} {allowed : Bool} (hx : CallX C (n + 2) "compute" [.str m, intsD votes, .int seats, .none, .bool allowed] NIE) :
    CallS C (n + 3) "_law_refused" [.str m, intsD votes, .int seats, .bool allowed] (.bool true) := by
  refine CallS.of d15 (ddfl := []) (fun _ => RepL.nil) (Nat.le_of_ble_eq_true rfl) (Nat.le_of_ble_eq_true rfl) fun {h₀ A s L a cd base outer E} R hc ho G F fl => ?_
  have F : FS C h₀ (fEnv (fdAt PW 15) L a cd) [("name", .str m), ("votes", intsD votes), ("seats", .int seats), ("allowed", .bool allowed)] none s.heap := F
  show wpAny _ _ (execs (_ :: _) _) _ _ _
  refine wpAny_execs_cons (wpAny_Try_except ?_)
  refine wpAny_execs_cons (wpAny_Expr (x_try_callX F R fl W.d2 (EvL.cons (by walk_at "nm") (EvL.cons (by walk_at "nm") (EvL.cons (by walk_at "nm") (EvL.cons Ev.non (EvL.cons (by walk_at "nm") EvL.nil))))) hx rfl fun a' t s' m' x1 x2 => ?_) (by rfl) (by rfl))
  exact nie_handler ho G fl x1 fun s₂ m₂ k₂ u₂ => ⟨_, rfl, m'.trans m₂, k₂, x2.trans u₂, rep_bool⟩
theorem unknown_ok {C : W0} {n : Nat} (W : Defs C) (d16 : DefAt C (fdAt PW 16) []) {votes : List Int} {seats : Int} {m : Str} (hx : CallX C (n + 2) "divisor" [intsD votes, .int seats, .str m] NIE) :
    CallS C (n + 3) "_law_unknown" [intsD votes, .int seats, .str m] (.bool true) := by
  refine CallS.of d16 (ddfl := []) (fun _ => RepL.nil) (Nat.le_of_ble_eq_true rfl) (Nat.le_of_ble_eq_true rfl) fun {h₀ A s L a cd base outer E} R hc ho G F fl => ?_
  have F : FS C h₀ (fEnv (fdAt PW 16) L a cd) [("votes", intsD votes), ("seats", .int seats), ("name", .str m)] none s.heap := F
  show wpAny _ _ (execs (_ :: _) _) _ _ _
  refine wpAny_execs_cons (wpAny_Try_except ?_)
  refine wpAny_execs_cons (wpAny_Expr (x_try_callX F R fl W.d5 (EvL.cons (by walk_at "nm") (EvL.cons (by walk_at "nm") (EvL.cons (by walk_at "nm") EvL.nil))) hx rfl fun a' t s' m' x1 x2 => ?_) (by rfl) (by rfl))
  exact nie_handler ho G fl x1 fun s₂ m₂ k₂ u₂ => ⟨_, rfl, m'.trans m₂, k₂, x2.trans u₂, rep_bool⟩
def stepOf (m : Str) (k : Int) : Int × Int :=
  if L0.contains m = true then (k + 1, 1) else if L4.contains m = true then (k, 1) else if L5.contains m = true then (2 * k * (k + 1), 2 * k + 1) else if L3.contains m = true then (k * (k + 1), 1) else if m = "modified_saintelague" ∧ k = 0 then (7, 5) else (2 * k + 1, 1)

theorem step_ok {C : W0} {n : Nat} (hd : DefAt C (fdAt PW 12) []) {m : Str} {k : Int} (h0 : 0 ≤ k) (h1 : k ≤ 1000) : CallOK C (n + 1) "_law_step" [.str m, .int k] (pairD (stepOf m k)) := by
  refine CallOK.of hd (ddfl := []) (fun _ => RepL.nil) (Nat.le_of_ble_eq_true rfl) (Nat.le_of_ble_eq_true rfl) fun {h₀ A s L a cd E} R hc ho F => ?_
  have F : FS C h₀ (fEnv (fdAt PW 12) L a cd) [("name", .str m), ("k", .int k)] none s.heap := F
  have sm : ∀ x : Int, 0 ≤ x ∧ x ≤ 100000000 → Sm x := fun x h => by unfold Sm; omega
  show wpAny _ _ (execs (_ :: _) _) _ _ _
  unfold stepOf
  refine wpAny_execs_cons (x_if (b := L0.contains m) F R (by walk_at "inS") fun s₁ m₁ F₁ => ?_)
  cases c0 : L0.contains m with
  | true =>
    rw [if_pos rfl, if_pos rfl]
    exact wpAny_execs_cons (x_ret F₁ R (Ev.tup (EvL.cons (Ev.add (by walk_at "nm") Ev.int) (EvL.cons Ev.int EvL.nil))) fun v s₂ m₂ kp r => ⟨v, rfl, m₁.trans m₂, kp, r⟩)
  | false =>
  rw [if_neg (by decide), if_neg (by decide)]
  refine wpAny_execs_nil ?_
  refine wpAny_execs_cons (x_if (b := L4.contains m) F₁ R (by walk_at "inS") fun s₂ m₂ F₂ => ?_)
  cases c4 : L4.contains m with
  | true =>
    rw [if_pos rfl, if_pos rfl]
    exact wpAny_execs_cons (x_ret F₂ R (Ev.tup (EvL.cons (by walk_at "nm") (EvL.cons Ev.int EvL.nil))) fun v s₃ m₃ kp r => ⟨v, rfl, (m₁.trans m₂).trans m₃, kp, r⟩)
  | false =>
  rw [if_neg (by decide), if_neg (by decide)]
  refine wpAny_execs_nil ?_
  refine wpAny_execs_cons (x_if (b := L5.contains m) F₂ R (by walk_at "inS") fun s₃ m₃ F₃ => ?_)
  cases c5 : L5.contains m with
  | true =>
    rw [if_pos rfl, if_pos rfl]
    exact wpAny_execs_cons (x_ret F₃ R (Ev.tup (EvL.cons (Ev.mul (Ev.mul Ev.int (by walk_at "nm") (sm _ (by omega)) (sm _ (by omega))) (Ev.add (by walk_at "nm") Ev.int) (sm _ (by omega)) (sm _ (by omega))) (EvL.cons (Ev.add (Ev.mul Ev.int (by walk_at "nm") (sm _ (by omega)) (sm _ (by omega))) Ev.int) EvL.nil))) fun v s₄ m₄ kp r => ⟨v, rfl, ((m₁.trans m₂).trans m₃).trans m₄, kp, r⟩)
  | false =>
  rw [if_neg (by decide), if_neg (by decide)]
  refine wpAny_execs_nil ?_
  have m03 := (m₁.trans m₂).trans m₃
  refine wpAny_execs_cons (x_if (b := L3.contains m) F₃ R (by walk_at "inS") fun s₄ m₄ F₄ => ?_)
  cases c3 : L3.contains m with
  | true =>
    rw [if_pos rfl, if_pos rfl]
    exact wpAny_execs_cons (x_ret F₄ R (Ev.tup (EvL.cons (Ev.mul (by walk_at "nm") (Ev.add (by walk_at "nm") Ev.int) (sm _ (by omega)) (sm _ (by omega))) (EvL.cons Ev.int EvL.nil))) fun v s₅ m₅ kp r => ⟨v, rfl, (m03.trans m₄).trans m₅, kp, r⟩)
  | false =>
  rw [if_neg (by decide), if_neg (by decide)]
  refine wpAny_execs_nil ?_
  refine wpAny_execs_cons (x_if F₄ R (Ts.and2 (Ts.cmp (by walk_at "nm") Ev.str CmpOk.eqS) fun _ => Ts.cmp (by walk_at "nm") Ev.int CmpOk.eq) fun s₅ m₅ F₅ => ?_)
  by_cases c : m = "modified_saintelague" ∧ k = 0
  · rw [if_pos c, show (decide (m = ("modified_saintelague" : Str)) && decide (k = 0)) = true by simpa using c, if_pos rfl]
    exact wpAny_execs_cons (x_ret F₅ R (Ev.tup (EvL.cons Ev.int (EvL.cons Ev.int EvL.nil))) fun v s₆ m₆ kp r => ⟨v, rfl, ((m03.trans m₄).trans m₅).trans m₆, kp, r⟩)
  · have b : (decide (m = ("modified_saintelague" : Str)) && decide (k = 0)) = false := by
      rw [Bool.eq_false_iff]; intro h; apply c; simpa using h
    rw [if_neg c, b, if_neg (by decide)]
    refine wpAny_execs_nil ?_
    exact wpAny_execs_cons (x_ret F₅ R (Ev.tup (EvL.cons (Ev.add (Ev.mul Ev.int (by walk_at "nm") (sm _ (by omega)) (sm _ (by omega))) Ev.int) (EvL.cons Ev.int EvL.nil))) fun v s₆ m₆ kp r => ⟨v, rfl, ((m03.trans m₄).trans m₅).trans m₆, kp, r⟩)

theorem power_ok {C : W0} {n : Nat} (hd : DefAt C (fdAt PW 13) []) {m : Str} {p : Int} (hp : 0 ≤ p ∧ p < 2 ^ 50) : CallOK C (n + 1) "_law_power" [.str m, .int p] (.int (dvPow (famOf m) p)) := by
  refine CallOK.of hd (ddfl := []) (fun _ => RepL.nil) (Nat.le_of_ble_eq_true rfl) (Nat.le_of_ble_eq_true rfl) fun {h₀ A s L a cd E} R hc ho F => ?_
  have F : FS C h₀ (fEnv (fdAt PW 13) L a cd) [("name", .str m), ("vote", .int p)] none s.heap := F
  show wpAny _ _ (execs (_ :: _) _) _ _ _
  refine wpAny_execs_cons (x_if (b := L3.contains m) F R (by walk_at "inS") fun s₁ m₁ F₁ => ?_)
  rw [fam3]
  unfold dvPow
  by_cases h : famOf m = 3
  · rw [if_pos h, decide_eq_true h, if_pos rfl]
    exact wpAny_execs_cons (x_ret F₁ R (Ev.mul (by walk_at "nm") (by walk_at "nm") (by unfold Sm; omega) (by unfold Sm; omega)) fun v s₂ m₂ kp r => ⟨v, rfl, m₁.trans m₂, kp, r⟩)
  · rw [if_neg h, decide_eq_false h, if_neg (by decide)]
    refine wpAny_execs_nil ?_
    exact wpAny_execs_cons (x_ret F₁ R (by walk_at "nm") fun v s₂ m₂ kp r => ⟨v, rfl, m₁.trans m₂, kp, r⟩)

theorem step_b {m : Str} {k : Int} (h0 : 0 ≤ k) (h1 : k ≤ 100) : (0 ≤ (stepOf m k).1 ∧ (stepOf m k).1 ≤ 100000) ∧ (1 ≤ (stepOf m k).2 ∧ (stepOf m k).2 ≤ 1000) := by
  have a1 := mulB (a := k) (b := k + 1) (x := 100) (y := 101) (by omega) (by omega)
  have a2 : 2 * k * (k + 1) = 2 * (k * (k + 1)) := Int.mul_assoc _ _ _
  unfold stepOf
  repeat' split
  all_goals (dsimp only; omega)

/-- no seat should move -/
def Stay (m : Str) (votes told : List Int) (i j : Nat) : Prop := i ≠ j → 0 < told.getD j 0 →
  ¬ dvPow (famOf m) (votes.getD j 0) * (stepOf m (told.getD j 0 - 1)).2 * (stepOf m (told.getD i 0)).1 < dvPow (famOf m) (votes.getD i 0) * (stepOf m (told.getD i 0)).2 * (stepOf m (told.getD j 0 - 1)).1

set_option maxHeartbeats 4000000 in
theorem moves_ok {C : W0} {n : Nat} (d12 : DefAt C (fdAt PW 12) []) (d13 : DefAt C (fdAt PW 13) []) (d14 : DefAt C (fdAt PW 14) []) {m : Str} {votes told : List Int} (hv : Vok votes) (hl : told.length = votes.length) (ht : ∀ x ∈ told, 0 ≤ x ∧ x ≤ 100)
    (hs : ∀ i < votes.length, ∀ j < votes.length, Stay m votes told i j) : CallOK C (n + 2) "_law_moves" [.str m, intsD votes, intsD told] (.bool false) := by
  refine CallOK.of d14 (ddfl := []) (fun _ => RepL.nil) (Nat.le_of_ble_eq_true rfl) (Nat.le_of_ble_eq_true rfl) fun {h₀ A s L a cd E} R hc ho F => ?_
  have hhi := hv.hi
  have F : FS C h₀ (fEnv (fdAt PW 14) L a cd) [("name", .str m), ("votes", intsD votes), ("told", intsD told)] none s.heap := F
  show wpAny _ _ (execs (_ :: _) _) _ _ _
  refine wpAny_execs_cons (x_for (xs := (List.range votes.length).map fun (i : Nat) => D.int (i : Int)) hc F R (ItO.rangeN ho (Ev.cast (Ev.len ho (by walk_at "nm") (by simp; omega)) (by simp)) (by omega))
    (fun _ ρ own => ρ = ([("name", .str m), ("votes", intsD votes), ("told", intsD told)] : Rho) ∧ own = none) (fun _ _ _ => False) ⟨rfl, rfl⟩ ?_ ?_ (.inl rfl) ?_ (fun _ _ _ _ h => h.elim) ?_)
  · rintro i ρ' own' ⟨_, rfl⟩; rfl
  · rintro i ρ' own' ⟨_, rfl⟩ o e; cases e
  · rintro i d ρ' own' h₁ s₁ hd ⟨rfl, rfl⟩ kh m₁ F₁
    obtain ⟨hi, rfl⟩ := range_at hd
    have F₁ : FS C h₁ (fEnv (fdAt PW 14) L a cd) [("i", .int i), ("name", .str m), ("votes", intsD votes), ("told", intsD told)] none s₁.heap := F₁.sub (by walk_at "sub")
    refine wpAny_execs_cons (x_for (xs := (List.range votes.length).map fun (i : Nat) => D.int (i : Int)) hc F₁ R (ItO.rangeN ho (Ev.cast (Ev.len ho (by walk_at "nm") (by simp; omega)) (by simp)) (by omega))
      (fun _ ρ own => ρ = ([("i", .int i), ("name", .str m), ("votes", intsD votes), ("told", intsD told)] : Rho) ∧ own = none) (fun _ _ _ => False) ⟨rfl, rfl⟩ ?_ ?_ (.inl rfl) ?_ (fun _ _ _ _ h => h.elim) ?_)
    · rintro i ρ' own' ⟨_, rfl⟩; rfl
    · rintro i ρ' own' ⟨_, rfl⟩ o e; cases e
    · rintro j d ρ' own' h₂ s₂ hd ⟨rfl, rfl⟩ kh₂ m₂ F₂
      obtain ⟨hj, rfl⟩ := range_at hd
      have F₂ : FS C h₂ (fEnv (fdAt PW 14) L a cd) [("j", .int j), ("i", .int i), ("name", .str m), ("votes", intsD votes), ("told", intsD told)] none s₂.heap := F₂.sub (by walk_at "sub")
      have tj := ht _ (PySem.getD_mem (l := told) (j := j) (by omega))
      have ti := ht _ (PySem.getD_mem (l := told) (j := i) (by omega))
      have vi := hv.nn _ (PySem.getD_mem (l := votes) (j := i) hi)
      have vj := hv.nn _ (PySem.getD_mem (l := votes) (j := j) hj)
      have st := hs i hi j hj
      unfold Stay at st
      refine wpAny_execs_cons (x_if F₂ R (Ts.and2 (Ts.cmp (by walk_at "nm") (by walk_at "nm") CmpOk.ne) fun _ => Ts.cmp (Ev.at (by walk_at "nm") (by walk_at "nm") (by omega) (by omega)) Ev.int CmpOk.gt) fun s₃ m₃ F₃ => ?_)
      by_cases c : i ≠ j ∧ 0 < told.getD j 0
      · have b : ((!decide ((i : Int) = (j : Int))) && decide (0 < told.getD j 0)) = true := by
          have : ¬ ((i : Int) = (j : Int)) := by have := c.1; omega
          rw [decide_eq_false this, decide_eq_true c.2]; rfl
        rw [b, if_pos rfl]
        have st := st c.1 c.2
        have gb := step_b (m := m) (k := told.getD i 0) ti.1 ti.2
        have lb := step_b (m := m) (k := told.getD j 0 - 1) (by have := c.2; omega) (by omega)
        refine wpAny_execs_cons (x_set (d := pairD (stepOf m (told.getD i 0))) F₃ R (Ev.call ho d12 (EvL.cons (by walk_at "nm") (EvL.cons (Ev.at (by walk_at "nm") (by walk_at "nm") (by omega) (by omega)) EvL.nil)) (step_ok d12 ti.1 (by omega))) (.inl rfl) (by walk_at "ne") fun s₄ m₄ F₄ => ?_)
        refine wpAny_execs_cons (x_set (d := pairD (stepOf m (told.getD j 0 - 1))) F₄ R (Ev.call ho d12 (EvL.cons (by walk_at "nm") (EvL.cons (Ev.sub (Ev.at (by walk_at "nm") (by walk_at "nm") (by omega) (by omega)) Ev.int) EvL.nil)) (step_ok d12 (by have := c.2; omega) (by omega))) (.inl rfl) (by walk_at "ne") fun s₅ m₅ F₅ => ?_)
        generalize stepOf m (told.getD i 0) = g at *
        generalize stepOf m (told.getD j 0 - 1) = l at *
        have pw : ∀ p : Int, 0 ≤ p ∧ p < 2 ^ 50 → 0 ≤ dvPow (famOf m) p ∧ dvPow (famOf m) p ≤ 2 ^ 100 := fun p hp => by
          refine ⟨(pow_b hp.1).1, ?_⟩
          unfold dvPow
          split
          · have := mulB (a := p) (b := p) (x := 2 ^ 50) (y := 2 ^ 50) (by omega) (by omega); omega
          · omega
        have pi := pw _ vi
        have pj := pw _ vj
        have qi := mulB (b := g.2) (y := 1000) pi (by omega)
        have qj := mulB (b := l.2) (y := 1000) pj (by omega)
        refine wpAny_execs_cons (x_if F₅ R (Ts.cmp (Ev.mul (Ev.mul (Ev.call ho d13 (EvL.cons (by walk_at "nm") (EvL.cons (Ev.at (by walk_at "nm") (by walk_at "nm") (by omega) (by omega)) EvL.nil)) (power_ok d13 vi)) (Ev.itemT (d := .int g.2) (by walk_at "nm") Ev.int (by decide) (by decide) rfl) (by unfold Sm; omega) (by unfold Sm; omega)) (Ev.itemT (d := .int l.1) (by walk_at "nm") Ev.int (by decide) (by decide) rfl) (by unfold Sm; omega) (by unfold Sm; omega)) (Ev.mul (Ev.mul (Ev.call ho d13 (EvL.cons (by walk_at "nm") (EvL.cons (Ev.at (by walk_at "nm") (by walk_at "nm") (by omega) (by omega)) EvL.nil)) (power_ok d13 vj)) (Ev.itemT (d := .int l.2) (by walk_at "nm") Ev.int (by decide) (by decide) rfl) (by unfold Sm; omega) (by unfold Sm; omega)) (Ev.itemT (d := .int g.1) (by walk_at "nm") Ev.int (by decide) (by decide) rfl) (by unfold Sm; omega) (by unfold Sm; omega)) CmpOk.gt) fun s₆ m₆ F₆ => ?_)
        rw [decide_eq_false st, if_neg (by decide)]
        exact wpAny_execs_nil (wpAny_execs_nil (wpAny_execs_nil ⟨rfl, m₃.trans m₄ |>.trans m₅ |>.trans m₆, _, _, ⟨rfl, rfl⟩, F₆.sub (by walk_at "sub")⟩))
      · have b : ((!decide ((i : Int) = (j : Int))) && decide (0 < told.getD j 0)) = false := by
          rw [Bool.eq_false_iff]; intro h; apply c
          rw [Bool.and_eq_true, Bool.not_eq_true', decide_eq_false_iff_not, decide_eq_true_eq] at h
          exact ⟨by omega, h.2⟩
        rw [b, if_neg (by decide)]
        exact wpAny_execs_nil (wpAny_execs_nil ⟨rfl, m₃, _, _, ⟨rfl, rfl⟩, F₃.sub (by walk_at "sub")⟩)
    · rintro ρ' own' s₂ ⟨rfl, rfl⟩ m₂ F₂
      exact wpAny_execs_nil ⟨rfl, m₂, _, _, ⟨rfl, rfl⟩, F₂.sub (by walk_at "sub")⟩
  · rintro ρ' own' s₁ ⟨rfl, rfl⟩ m₁ F₁
    exact wpAny_execs_cons (x_ret F₁ R Ev.bool fun v s₂ m₂ kp r => ⟨v, rfl, m₁.trans m₂, kp, r⟩)
theorem lr_ok2 {C : W0} {n : Nat} (hd : DefAt C (fdAt PW 4) [.bool true]) {votes : List Int} {seats : Int} (hv : Vok votes) (hT : 0 < votes.sum) (h0 : 0 < seats) (h1 : seats ≤ 12) :
    CallOK C (n + 1) "largest_remainder" [intsD votes, .int seats] (intsD (lrRes votes seats).1) := by
  refine CallOK.of hd (ddfl := [.bool true]) (fun _ => RepL.cons rep_bool RepL.nil) (Nat.le_of_ble_eq_true rfl) (Nat.le_of_ble_eq_true rfl) fun {h₀ A s L a cd E} R hc ho F => ?_
  exact lr_body (allowed := true) hv hT h0 h1 R hc ho F (fun _ v s' m kp r => ⟨v, rfl, m, kp, r⟩) (fun h => by simp at h)
set_option maxHeartbeats 4000000 in
theorem lvF_ok {C : W0} {n : Nat} (W : Defs C) {script : List Int} {parties : Nat} {least : Int} (hp : parties ≤ 4) (hl : script.length ≤ 63) :
    CallF C (n + 2) "_law_votes" [intsD script, .int parties, .int least] (votesOf script parties least) := by
  refine CallF.of W.d10 (ddfl := []) (fun _ => RepL.nil) (Nat.le_of_ble_eq_true rfl) (Nat.le_of_ble_eq_true rfl) fun {h₀ A s L a cd E} R hc ho F => ?_
  have F : FS C h₀ (fEnv (fdAt PW 10) L a cd) [("script", intsD script), ("parties", .int parties), ("least", .int least)] none s.heap := F
  show wpAny _ _ (execs (_ :: _) _) _ _ _
  have hc1 : 0 ≤ cell script 1 % 4 := Int.emod_nonneg _ (by omega)
  have hc2 : cell script 1 % 4 < 4 := Int.emod_lt_of_pos _ (by omega)
  refine wpAny_execs_cons (x_set (d := .int (topOf script)) F R (Ev.itemI (xs := [4, 30, 1000, 1000000000000]) (Ev.list (EvL.cons Ev.int (EvL.cons Ev.int (EvL.cons Ev.int (EvL.cons Ev.pow10 EvL.nil))))) (Ev.mod (Ev.call ho W.d9 (EvL.cons (by walk_at "nm") (EvL.cons Ev.int EvL.nil)) (cell_ok W.d9 (k := 1) (by omega) hl)) Ev.int (by omega)) hc1 hc2 (by decide)) (.inl rfl) (by walk_at "ne") fun s₁ m₁ F₁ => ?_)
  have ht := @top_b script
  refine wpAny_execs_cons (x_retF F₁ R (EvN.toF (EvN.compI (xs := List.range parties) _ (fun k => least + cell script (3 + k) % topOf script) ho nat_inj (It.rangeN ho (by walk_at "nm") (by omega)) fun k hk C₀ => ?_)) fun b items s₂ m₂ kp hb hl hi => ⟨b, items, rfl, m₁.trans m₂, kp, hb, hl, hi⟩)
  have hk := List.mem_range.mp hk
  exact Ev.add (by walk_at "nm") (Ev.mod (Ev.call (by walk_at "ok") W.d9 (EvL.cons (by walk_at "nm") (EvL.cons (Ev.cast (Ev.add Ev.int (by walk_at "nm")) (by simp)) EvL.nil)) (cell_ok W.d9 (k := 3 + k) (by omega) hl)) (by walk_at "nm") (by omega))

def N01 : List Str := ["dhondt", "jefferson", "greatestdivisors", "saintelague", "webster", "majorfractions", "modified_saintelague", "adams", "smallestdivisor", "dean", "harmonicmean", "huntington", "hill", "equalproportions", "quota", "largest_remainder", "hamilton", "lrm"]
def S01 : List Str := ["", "Dhondt", "quotas", "hare", "dhondt "]
def par01 (s : List Int) : Nat := 2 + (cell s 0 % 3).toNat
def plc01 (s : List Int) : Nat := (cell s 1 / 4 % (par01 s : Int)).toNat
def vot01 (s : List Int) : List Int := (votesOf s (par01 s) 0).set (plc01 s) ((votesOf s (par01 s) 0).getD (plc01 s) 0 + 1)
def sea01 (s : List Int) : Int := par01 s + cell s 2 % 6
def bx01 (s : List Int) : Int := cell s 9 % 3
def by01 (s : List Int) : Int := 3 * (par01 s : Int) + cell s 9 / 3 % 50
def no01 (s : List Int) : Bool := decide (cell s 9 / 150 % 4 = 3)
def kep01 (s : List Int) : List Int := if no01 s = true then vot01 s else keptOf (vot01 s) (bx01 s) (by01 s)
def thr01 (s : List Int) : D := if no01 s = true then .none else .tup [.int (bx01 s), .int (by01 s)]
def nam01 (s : List Int) (k : Nat) : Str := N01.getD ((cell s 2 / 6 + 3 * k) % 18).toNat ""
def str01 (s : List Int) : Str := S01.getD (cell s 9 % 5).toNat ""

theorem N01_ok : ∀ m ∈ N01, m.length < 2 ^ 19 ∧ (m = "quota" ∨ LRM.contains m = true ∨ DIV.contains m = true) := by decide +kernel
theorem S01_ok : ∀ m ∈ S01, m.length < 2 ^ 19 ∧ (m ≠ "quota" ∧ LRM.contains m = false ∧ DIV.contains m = false) ∧ famOf m = 6 := by decide +kernel

/-- what the plain law has to show of one name -/
structure Good01 (s : List Int) (m : Str) : Prop where
  len : (cmpRes m (kep01 s) (sea01 s)).1.length = par01 s
  sum : (cmpRes m (kep01 s) (sea01 s)).1.sum = sea01 s
  nn : ∀ x ∈ (cmpRes m (kep01 s) (sea01 s)).1, 0 ≤ x ∧ x ≤ 100
  zero : ∀ j, j < par01 s → (kep01 s).getD j 0 = 0 → (cmpRes m (kep01 s) (sea01 s)).1.getD j 0 = 0
  stay : DIV.contains m = true → ∀ i < (kep01 s).length, ∀ j < (kep01 s).length, Stay m (kep01 s) (cmpRes m (kep01 s) (sea01 s)).1 i j

theorem par01_b {s : List Int} : 2 ≤ par01 s ∧ par01 s ≤ 4 := by
  unfold par01
  have h1 : 0 ≤ cell s 0 % 3 := Int.emod_nonneg _ (by omega)
  have h2 : cell s 0 % 3 < 3 := Int.emod_lt_of_pos _ (by omega)
  omega
theorem sea01_b {s : List Int} : (par01 s : Int) ≤ sea01 s ∧ sea01 s ≤ (par01 s : Int) + 5 := by
  unfold sea01
  have h1 : 0 ≤ cell s 2 % 6 := Int.emod_nonneg _ (by omega)
  have h2 : cell s 2 % 6 < 6 := Int.emod_lt_of_pos _ (by omega)
  omega
theorem plc01_b {s : List Int} : plc01 s < par01 s := by
  have hp := @par01_b s
  unfold plc01
  have h1 : 0 ≤ cell s 1 / 4 % (par01 s : Int) := Int.emod_nonneg _ (by omega)
  have h2 : cell s 1 / 4 % (par01 s : Int) < par01 s := Int.emod_lt_of_pos _ (by omega)
  omega
theorem bx01_b {s : List Int} : 0 ≤ bx01 s ∧ bx01 s ≤ 2 := by
  unfold bx01
  have h1 : 0 ≤ cell s 9 % 3 := Int.emod_nonneg _ (by omega)
  have h2 : cell s 9 % 3 < 3 := Int.emod_lt_of_pos _ (by omega)
  omega
theorem by01_b {s : List Int} : 3 * (par01 s : Int) ≤ by01 s ∧ by01 s ≤ 3 * (par01 s : Int) + 49 := by
  unfold by01
  have h1 : 0 ≤ cell s 9 / 3 % 50 := Int.emod_nonneg _ (by omega)
  have h2 : cell s 9 / 3 % 50 < 50 := Int.emod_lt_of_pos _ (by omega)
  omega
theorem vot01_b {s : List Int} : (vot01 s).length = par01 s ∧ (∀ p ∈ vot01 s, 0 ≤ p ∧ p < 2000000000000) ∧ 1 ≤ (vot01 s).getD (plc01 s) 0 := by
  have hb := @votesOf_b s (par01 s) 0
  have hp := @plc01_b s
  have h0 := hb.2 _ (PySem.getD_mem (l := votesOf s (par01 s) 0) (j := plc01 s) (by omega))
  refine ⟨by unfold vot01; rw [List.length_set]; exact hb.1, fun p hp => ?_, ?_⟩
  · unfold vot01 at hp
    rcases List.mem_or_eq_of_mem_set hp with hp | rfl
    · have := hb.2 p hp; omega
    · omega
  · unfold vot01
    have : plc01 s < (votesOf s (par01 s) 0).length := by omega
    rw [List.getD_eq_getElem?_getD, List.getElem?_set_self this]
    show 1 ≤ _ + 1
    omega
theorem vok01 {s : List Int} : Vok (vot01 s) := by
  have hb := @vot01_b s
  have hp := @par01_b s
  exact ⟨by omega, by omega, fun p h => by have := hb.2.1 p h; omega⟩
def LRN : List Str := ["largest_remainder", "hamilton", "lrm"]
def loop01 : List Stmt := match (fdAt PW 17).body.drop 14 with | .For _ _ b _ _ :: _ => b.drop 1 | _ => []
abbrev base01 (sc : List Int) : Rho := [("names", .list (N01.map .str)), ("handed", intsD (vot01 sc)), ("kept", intsD (kep01 sc)), ("bound", thr01 sc), ("script", intsD sc), ("parties", .int (par01 sc : Nat)), ("votes", intsD (vot01 sc)), ("seats", .int (sea01 sc)), ("more", .int (cell sc 9))]

set_option maxHeartbeats 4000000 in
theorem law01_turn {C : W0} {n : Nat} (W : Defs C) (d12 : DefAt C (fdAt PW 12) []) (d13 : DefAt C (fdAt PW 13) []) (d14 : DefAt C (fdAt PW 14) []) {sc : List Int} {m : Str} (hm : m ∈ N01) (K : Kept m (kep01 sc) (sea01 sc)) (hkl : (kep01 sc).length = par01 sc) (hthr : ∀ n, CallOK C (n + 1) "apply_threshold" [intsD (vot01 sc), thr01 sc] (intsD (kep01 sc))) (G : Good01 sc m)
    {h₁ : Heap} {A : Around} {s : Shared} {L a : Addr} {cd : Value} {E : Value → Shared → Prop} (R : Room (n + 4) A) (hc : EnvC (fEnv (fdAt PW 17) L a cd)) (ho : EnvOk (fEnv (fdAt PW 17) L a cd))
    (F : FS C h₁ (fEnv (fdAt PW 17) L a cd) (("name", .str m) :: base01 sc) none s.heap) :
    wpAny (model C.prog C.w) A (execs loop01 (fEnv (fdAt PW 17) L a cd)) (fun f s' => f = .next ∧ Same s s' ∧ FS C h₁ (fEnv (fdAt PW 17) L a cd) (base01 sc) none s'.heap) E s := by
  have hp := @par01_b sc
  have hs := @sea01_b sc
  have hvl := (@vot01_b sc).1
  have tl := G.len
  have tsum := G.sum
  have tnn := G.nn
  have tz := G.zero
  have tst := G.stay
  have hcr : ∀ x, cmpRes m (kep01 sc) (sea01 sc) = x → cmpRes m (kep01 sc) (sea01 sc) = x := fun _ h => h
  generalize htold : (cmpRes m (kep01 sc) (sea01 sc)) = told at *
  have nnT : Nn told.1 := ⟨by omega, fun x hx => by have := tnn x hx; omega⟩
  show wpAny _ _ (execs (_ :: _) _) _ _ _
  refine wpAny_execs_cons (x_set (d := intsD told.1) F R (Ev.cast (Ev.call ho W.d2 (EvL.cons (by walk_at "nm") (EvL.cons (by walk_at "nm") (EvL.cons (by walk_at "nm") (EvL.cons (by walk_at "nm") EvL.nil)))) (cp_ok4 (n := n + 2) W K (hthr (n + 2)))) (by rw [htold])) (.inl rfl) (by walk_at "ne") fun s₁ m₁ F₁ => ?_)
  have F₁ : FS C h₁ (fEnv (fdAt PW 17) L a cd) (("told", intsD told.1) :: ("name", .str m) :: base01 sc) none s₁.heap := F₁.sub (by walk_at "sub")
  refine wpAny_execs_cons (x_if F₁ R (Ts.or3 (Ts.cmp (by walk_at "nm") (by walk_at "nm") CmpOk.neL) (fun _ => Ts.cmp (Ev.len ho (by walk_at "nm") (by simp; omega)) (by walk_at "nm") CmpOk.ne) fun _ _ => Ts.cmp (Ev.sum ho (by walk_at "nm") nnT) (by walk_at "nm") CmpOk.ne) fun s₂ m₂ F₂ => ?_)
  rw [show (!decide (vot01 sc = vot01 sc) || !decide ((((told.1.map D.int).length : Nat) : Int) = ((par01 sc : Nat) : Int)) || !decide (told.1.sum = sea01 sc)) = false by simp [tl, tsum], if_neg (by decide)]
  refine wpAny_execs_nil ?_
  refine wpAny_execs_cons (x_if F₂ R (Ts.cmp (Ev.cast (d' := intsD []) (Ev.compF (xs := List.range (par01 sc)) (fun (j : Nat) => D.int (j : Int)) (fun (j : Nat) => D.int (j : Int)) (fun _ => false) ho nat_inj (It.rangeN ho (by walk_at "nm") (by omega)) (fun j hj C₀ => ?_) (fun j hj h => by cases h)) (by simp)) (Ev.cast (d' := intsD []) (Ev.list EvL.nil) rfl) CmpOk.neL) fun s₃ m₃ F₃ => ?_)
  · have hj := List.mem_range.mp hj
    refine TestsOk.one (Ts.cast (Ts.and2 (Ts.cmp (Ev.at (by walk_at "nm") (by walk_at "nm") (by omega) (by omega)) Ev.int CmpOk.eq) fun _ => Ts.cmp (Ev.at (by walk_at "nm") (by walk_at "nm") (by omega) (by omega)) Ev.int CmpOk.ne) ?_)
    by_cases hz : (kep01 sc).getD j 0 = 0
    · rw [tz j hj hz]; simp
    · simp only [decide_eq_false hz, Bool.false_and]
  rw [show (!decide (([] : List Int) = [])) = false from rfl, if_neg (by decide)]
  refine wpAny_execs_nil ?_
  have m03 := m₁.trans m₂ |>.trans m₃
  refine wpAny_execs_cons (x_if F₃ R (Ts.cmp (by walk_at "nm") Ev.str CmpOk.eqS) fun s₄ m₄ F₄ => ?_)
  unfold cmpRes at htold
  by_cases c0 : m = "quota"
  · rw [if_pos c0] at htold
    rw [decide_eq_true c0, if_pos rfl]
    refine wpAny_execs_cons (x_if F₄ R (Ts.cmp (by walk_at "nm") (Ev.call ho W.d7 (EvL.cons (Ev.listC ho (by walk_at "nm") (by simp; omega)) (EvL.cons (by walk_at "nm") EvL.nil)) (qt_ok2 W.d7 K.ok K.pos (by omega) K.hi)) CmpOk.neL) fun s₅ m₅ F₅ => ?_)
    rw [show (!decide (told.1 = qtRun (kep01 sc) (sea01 sc).toNat)) = false by rw [← htold]; simp, if_neg (by decide)]
    exact wpAny_execs_nil (wpAny_execs_nil (wpAny_execs_nil ⟨rfl, (m03.trans m₄).trans m₅, F₅.sub (by walk_at "sub")⟩))
  rw [if_neg c0] at htold
  rw [decide_eq_false c0, if_neg (by decide)]
  refine wpAny_execs_cons (x_if (b := LRN.contains m) F₄ R (by walk_at "inS") fun s₅ m₅ F₅ => ?_)
  have cl : LRN.contains m = LRM.contains m := by
    rw [Bool.eq_iff_iff, List.contains_iff_mem, List.contains_iff_mem]
    simp [LRM, LRN]; constructor <;> (rintro (h | h | h) <;> simp [h])
  rw [cl]
  cases c1 : LRM.contains m with
  | true =>
    rw [if_pos c1] at htold
    rw [if_pos rfl]
    refine wpAny_execs_cons (x_if F₅ R (Ts.cmp (by walk_at "nm") (Ev.call ho W.d4 (EvL.cons (Ev.listC ho (by walk_at "nm") (by simp; omega)) (EvL.cons (by walk_at "nm") EvL.nil)) (lr_ok2 W.d4 K.ok K.pos (by omega) K.hi)) CmpOk.neL) fun s₆ m₆ F₆ => ?_)
    rw [show (!decide (told.1 = (lrRes (kep01 sc) (sea01 sc)).1)) = false by rw [← htold]; simp, if_neg (by decide)]
    exact wpAny_execs_nil (wpAny_execs_nil (wpAny_execs_nil (wpAny_execs_nil ⟨rfl, ((m03.trans m₄).trans m₅).trans m₆, F₆.sub (by walk_at "sub")⟩)))
  | false =>
    rw [if_neg (by decide)]
    have c2 : DIV.contains m = true := K.name.elim (fun h => absurd h c0) fun h => h.elim (fun h => by rw [c1] at h; cases h) id
    refine wpAny_execs_cons (x_if F₅ R (Ts.val (Ev.call ho d14 (EvL.cons (by walk_at "nm") (EvL.cons (by walk_at "nm") (EvL.cons (by walk_at "nm") EvL.nil))) (moves_ok d12 d13 d14 K.ok (by rw [tl, hkl]) tnn (tst c2)))) fun s₆ m₆ F₆ => ?_)
    rw [if_neg (by decide)]
    exact wpAny_execs_nil (wpAny_execs_nil (wpAny_execs_nil (wpAny_execs_nil ⟨rfl, ((m03.trans m₄).trans m₅).trans m₆, F₆.sub (by walk_at "sub")⟩)))
set_option maxHeartbeats 8000000 in
theorem law01_body {C : W0} {n : Nat} (W : Defs C) (d12 : DefAt C (fdAt PW 12) []) (d13 : DefAt C (fdAt PW 13) []) (d14 : DefAt C (fdAt PW 14) []) (d15 : DefAt C (fdAt PW 15) []) (d16 : DefAt C (fdAt PW 16) []) {sc : List Int} (hl : sc.length ≤ 63) (hK : ∀ m ∈ N01, Kept m (kep01 sc) (sea01 sc)) (hg : ∀ m ∈ N01, Good01 sc m)
    {h₀ : Heap} {A : Around} {s : Shared} {L a : Addr} {cd : Value} {E : Value → Shared → Prop} (R : Room (n + 4) A) (hc : EnvC (fEnv (fdAt PW 17) L a cd)) (ho : EnvOk (fEnv (fdAt PW 17) L a cd)) (hA : A.frames = some [fEnv (fdAt PW 17) L a cd])
    (F : FS C h₀ (fEnv (fdAt PW 17) L a cd) [("script", intsD sc)] none s.heap) :
    wpAny (model C.prog C.w) A (execs (fdAt PW 17).body (fEnv (fdAt PW 17) L a cd)) (fun f s' => f = .ret (.bool true) ∧ Same s s' ∧ Kp h₀ s'.heap) E s := by
  have hp := @par01_b sc
  have hs := @sea01_b sc
  have hpl := @plc01_b sc
  have hbx := @bx01_b sc
  have hby := @by01_b sc
  have c1 := @cell_nn sc 1
  have c2 := @cell_nn sc 2
  have c9 := @cell_nn sc 9
  have c0 : 0 ≤ cell sc 0 % 3 := Int.emod_nonneg _ (by omega)
  have hvb := @vot01_b sc
  have hvk := @vok01 sc
  have hv0 := @votesOf_b sc (par01 sc) 0
  have hkl : (kep01 sc).length = par01 sc := by unfold kep01 keptOf; split <;> simp [hvb.1]
  have sm : ∀ x : Int, 0 ≤ x ∧ x < 2 ^ 60 → Sm x := fun x h => by unfold Sm; omega
  have hvs := hvk.sum
  show wpAny _ _ (execs (_ :: _) _) _ _ _
  refine wpAny_execs_cons (x_set (d := .int (par01 sc : Nat)) F R (Ev.cast (Ev.add Ev.int (Ev.mod (Ev.call ho W.d9 (EvL.cons (by walk_at "nm") (EvL.cons Ev.int EvL.nil)) (cell_ok W.d9 (k := 0) (by omega) hl)) Ev.int (by omega))) (by unfold par01; congr 1; omega)) (.inl rfl) (by walk_at "ne") fun s₁ m₁ F₁ => ?_)
  refine wpAny_execs_cons (x_own (xs := votesOf sc (par01 sc) 0) F₁ R (EvF.call ho W.d10 (EvL.cons (by walk_at "nm") (EvL.cons (by walk_at "nm") (EvL.cons Ev.int EvL.nil))) (lvF_ok W hp.2 hl)) fun s₂ aR items m₂ F₂ => ?_)
  refine wpAny_execs_cons (x_set (d := .int (plc01 sc : Nat)) F₂ R (Ev.cast (Ev.mod (Ev.fdiv (Ev.call ho W.d9 (EvL.cons (by walk_at "nm") (EvL.cons Ev.int EvL.nil)) (cell_ok W.d9 (k := 1) (by omega) hl)) Ev.int (by omega) (by unfold Sm; omega)) (by walk_at "nm") (by omega)) ?_) (.inr rfl) (by walk_at "ne") fun s₃ m₃ F₃ => ?_)
  · have h1 : 0 ≤ cell sc 1 / 4 % (par01 sc : Int) := Int.emod_nonneg _ (by omega)
    unfold plc01; congr 1; omega
  refine wpAny_execs_cons (x_setitem (i := ((plc01 sc : Nat) : Int)) (c := (votesOf sc (par01 sc) 0).getD (plc01 sc) 0 + 1) F₃ R rfl (by walk_at "nm") (Ev.add (Ev.at (by walk_at "nm") (by walk_at "nm") (by omega) (by omega)) Ev.int) (by omega) (by show ((plc01 sc : Nat) : Int) < (votesOf sc (par01 sc) 0).length; omega) (by show (votesOf sc (par01 sc) 0).length ≤ 100000; omega) fun s₄ items' m₄ F₄ => ?_)
  have F₄ : FS C h₀ (fEnv (fdAt PW 17) L a cd) [("votes", intsD (vot01 sc)), ("script", intsD sc), ("parties", .int (par01 sc : Nat))] none s₄.heap := F₄.free.sub (by walk_at "sub")
  have m04 := m₁.trans m₂ |>.trans m₃ |>.trans m₄
  refine wpAny_execs_cons (x_set (d := .int (sea01 sc)) F₄ R (Ev.add (by walk_at "nm") (Ev.mod (Ev.call ho W.d9 (EvL.cons (by walk_at "nm") (EvL.cons Ev.int EvL.nil)) (cell_ok W.d9 (k := 2) (by omega) hl)) Ev.int (by omega))) (.inl rfl) (by walk_at "ne") fun s₅ m₅ F₅ => ?_)
  refine wpAny_execs_cons (x_set (d := .int (cell sc 9)) F₅ R (Ev.call ho W.d9 (EvL.cons (by walk_at "nm") (EvL.cons Ev.int EvL.nil)) (cell_ok W.d9 (k := 9) (by omega) hl)) (.inl rfl) (by walk_at "ne") fun s₆ m₆ F₆ => ?_)
  refine wpAny_execs_cons (x_set (d := .tup [.int (bx01 sc), .int (by01 sc)]) F₆ R (Ev.tup (EvL.cons (Ev.mod (by walk_at "nm") Ev.int (by omega)) (EvL.cons (Ev.add (Ev.mul Ev.int (by walk_at "nm") (by unfold Sm; omega) (by unfold Sm; omega)) (Ev.mod (Ev.fdiv (by walk_at "nm") Ev.int (by omega) (by unfold Sm; omega)) Ev.int (by omega))) EvL.nil))) (.inl rfl) (by walk_at "ne") fun s₇ m₇ F₇ => ?_)
  refine wpAny_execs_cons (x_set (d := intsD (keptOf (vot01 sc) (bx01 sc) (by01 sc))) F₇ R (EvN.compI D.int (fun p => if p * by01 sc < (vot01 sc).sum * bx01 sc then 0 else p) ho int_inj (It.ints (by walk_at "nm") (by omega)) fun p hpm C₀ => ?_).ev (.inl rfl) (by walk_at "ne") fun s₈ m₈ F₈ => ?_)
  · have hpb := hvb.2.1 p hpm
    refine Ev.cast (Ev.mul (by walk_at "nm") (Ev.intB (by walk_at "ok") (Ev.cmp (Ev.mul (by walk_at "nm") (Ev.itemT (d := .int (by01 sc)) (by walk_at "nm") Ev.int (by decide) (by decide) rfl) (by unfold Sm; omega) (by unfold Sm; omega)) (Ev.mul (Ev.sum (by walk_at "ok") (by walk_at "nm") hvk.Nn) (Ev.itemT (d := .int (bx01 sc)) (by walk_at "nm") Ev.int (by decide) (by decide) rfl) (by unfold Sm; omega) (by unfold Sm; omega)) CmpOk.ge)) (by unfold Sm; omega) (by unfold Sm; split <;> decide)) ?_
    congr 1
    by_cases h : p * by01 sc < (vot01 sc).sum * bx01 sc
    · rw [if_pos h, decide_eq_false (by omega)]; simp
    · rw [if_neg h, decide_eq_true (by omega)]; simp
  have F₈ : FS C h₀ (fEnv (fdAt PW 17) L a cd) [("kept", intsD (keptOf (vot01 sc) (bx01 sc) (by01 sc))), ("bound", .tup [.int (bx01 sc), .int (by01 sc)]), ("script", intsD sc), ("parties", .int (par01 sc : Nat)), ("votes", intsD (vot01 sc)), ("seats", .int (sea01 sc)), ("more", .int (cell sc 9))] none s₈.heap := F₈.sub (by walk_at "sub")
  have m08 := m04.trans m₅ |>.trans m₆ |>.trans m₇ |>.trans m₈
  refine wpAny_execs_cons (wpAny_mono (Q := fun f s' => f = .next ∧ Same s s' ∧ FS C h₀ (fEnv (fdAt PW 17) L a cd) [("kept", intsD (kep01 sc)), ("bound", thr01 sc), ("script", intsD sc), ("parties", .int (par01 sc : Nat)), ("votes", intsD (vot01 sc)), ("seats", .int (sea01 sc)), ("more", .int (cell sc 9))] none s'.heap) ?_ (fun f s₉ ⟨e, m₉, F₉⟩ => ?_) fun _ _ x => x)
  · refine x_if F₈ R (Ts.cmp (Ev.mod (Ev.fdiv (by walk_at "nm") Ev.int (by omega) (by unfold Sm; omega)) Ev.int (by omega)) Ev.int CmpOk.eq) fun s₉ m₉ F₉ => ?_
    by_cases h : cell sc 9 / 150 % 4 = 3
    · have hn : no01 sc = true := by unfold no01; exact decide_eq_true h
      rw [decide_eq_true h, if_pos rfl]
      refine wpAny_execs_cons (x_set (d := .none) F₉ R Ev.non (.inl rfl) (by walk_at "ne") fun s₁₀ m₁₀ F₁₀ => ?_)
      refine wpAny_execs_cons (x_set (d := intsD (vot01 sc)) F₁₀ R (Ev.listC ho (by walk_at "nm") (by simp; omega)) (.inl rfl) (by walk_at "ne") fun s₁₁ m₁₁ F₁₁ => wpAny_execs_nil ⟨rfl, m08.trans m₉ |>.trans m₁₀ |>.trans m₁₁, ?_⟩)
      unfold kep01 thr01
      rw [if_pos hn, if_pos hn]
      exact F₁₁.sub (by walk_at "sub")
    · have hn : ¬ no01 sc = true := by unfold no01; simpa using h
      rw [decide_eq_false h, if_neg (by decide)]
      refine wpAny_execs_nil ⟨rfl, m08.trans m₉, ?_⟩
      unfold kep01 thr01
      rw [if_neg hn, if_neg hn]
      exact F₉
  subst e
  have hthr : ∀ n, CallOK C (n + 1) "apply_threshold" [intsD (vot01 sc), thr01 sc] (intsD (kep01 sc)) := fun n => by
    unfold kep01 thr01
    split
    · exact thr0_ok W.d3
    · exact thrT_ok W.d3 hvk (by omega) (by omega)
  refine wpAny_execs_cons (x_set (d := intsD (vot01 sc)) F₉ R (Ev.listC ho (by walk_at "nm") (by simp; omega)) (.inl rfl) (by walk_at "ne") fun s₁₀ m₁₀ F₁₀ => ?_)
  refine wpAny_execs_cons (x_if F₁₀ R (Ts.or2 (Ts.cmp (Ev.call ho W.d3 (EvL.cons (by walk_at "nm") (EvL.cons (by walk_at "nm") EvL.nil)) (hthr (n + 3))) (by walk_at "nm") CmpOk.neL) fun _ => Ts.cmp (by walk_at "nm") (by walk_at "nm") CmpOk.neL) fun s₁₁ m₁₁ F₁₁ => ?_)
  rw [show (!decide (kep01 sc = kep01 sc) || !decide (vot01 sc = vot01 sc)) = false by simp, if_neg (by decide)]
  refine wpAny_execs_nil ?_
  refine wpAny_execs_cons (x_set (d := .list ((N01.take 7).map .str)) F₁₁ R (Ev.cast (Ev.list (by walk_at "strs")) rfl) (.inl rfl) (by walk_at "ne") fun s₁₂ m₁₂ F₁₂ => ?_)
  refine wpAny_execs_cons (x_set (d := .list ((N01.take 14).map .str)) F₁₂ R (Ev.cast (Ev.cat (ys := ((N01.drop 7).take 7).map .str) (by walk_at "nm") (Ev.cast (Ev.list (by walk_at "strs")) rfl) (by decide)) rfl) (.inl rfl) (by walk_at "ne") fun s₁₃ m₁₃ F₁₃ => ?_)
  refine wpAny_execs_cons (x_set (d := .list (N01.map .str)) F₁₃ R (Ev.cast (Ev.cat (ys := (N01.drop 14).map .str) (by walk_at "nm") (Ev.cast (Ev.list (by walk_at "strs")) rfl) (by decide)) rfl) (.inl rfl) (by walk_at "ne") fun s₁₄ m₁₄ F₁₄ => ?_)
  have F₁₄ : FS C h₀ (fEnv (fdAt PW 17) L a cd) (base01 sc) none s₁₄.heap := F₁₄.sub (by walk_at "sub")
  have m014 := m₉.trans m₁₀ |>.trans m₁₁ |>.trans m₁₂ |>.trans m₁₃ |>.trans m₁₄
  refine wpAny_execs_cons (x_for (xs := (List.range 6).map fun (i : Nat) => D.int (i : Int)) hc F₁₄ R (ItO.rangeN ho Ev.int (by omega))
    (fun i ρ own => ρ = base01 sc ∧ own = none) (fun _ _ _ => False) ⟨rfl, rfl⟩ ?_ ?_ (.inl rfl) ?_ (fun _ _ _ _ h => h.elim) ?_)
  · rintro i ρ' own' ⟨_, rfl⟩; rfl
  · rintro i ρ' own' ⟨_, rfl⟩ o e; cases e
  · rintro i d ρ' own' h₁ s₁₅ hd ⟨rfl, rfl⟩ kh m₁₅ F₁₅
    obtain ⟨hi, rfl⟩ := range_at hd
    have F₁₅ : FS C h₁ (fEnv (fdAt PW 17) L a cd) (("k", .int i) :: base01 sc) none s₁₅.heap := F₁₅.sub (by walk_at "sub")
    have hn1 : 0 ≤ (cell sc 2 / 6 + 3 * i) % 18 := Int.emod_nonneg _ (by omega)
    have hn2 : (cell sc 2 / 6 + 3 * i) % 18 < 18 := Int.emod_lt_of_pos _ (by omega)
    have hnl : ((cell sc 2 / 6 + 3 * i) % 18).toNat < N01.length := by show _ < 18; omega
    have hnm : nam01 sc i ∈ N01 := by unfold nam01; rw [List.getD_eq_getElem?_getD, List.getElem?_eq_getElem hnl]; exact List.getElem_mem hnl
    refine wpAny_execs_cons (x_set (d := .str (nam01 sc i)) F₁₅ R (Ev.item (by walk_at "nm") (Ev.mod (Ev.add (Ev.fdiv (Ev.call ho W.d9 (EvL.cons (by walk_at "nm") (EvL.cons Ev.int EvL.nil)) (cell_ok W.d9 (k := 2) (by omega) hl)) Ev.int (by omega) (by unfold Sm; omega)) (Ev.mul Ev.int (by walk_at "nm") (by unfold Sm; omega) (by unfold Sm; omega))) Ev.int (by omega)) hn1 (by omega) (by
      rw [List.getElem?_map, List.getElem?_eq_getElem hnl]; unfold nam01; rw [List.getD_eq_getElem?_getD, List.getElem?_eq_getElem hnl]; rfl)) (.inl rfl) (by walk_at "ne") fun s₁₆ m₁₆ F₁₆ => ?_)
    exact wpAny_mono (law01_turn (s := s₁₆) W d12 d13 d14 hnm (hK _ hnm) hkl hthr (hg _ hnm) R hc ho (F₁₆.sub (by walk_at "sub"))) (fun f s' ⟨e, m', F'⟩ => ⟨e, m₁₆.trans m', _, _, ⟨rfl, rfl⟩, F'⟩) fun _ _ x => x
  rintro ρ' own' s₁₅ ⟨rfl, rfl⟩ m₁₅ F₁₅
  have hs1 : 0 ≤ cell sc 9 % 5 := Int.emod_nonneg _ (by omega)
  have hs2 : cell sc 9 % 5 < 5 := Int.emod_lt_of_pos _ (by omega)
  have hsl : (cell sc 9 % 5).toNat < S01.length := by show _ < 5; omega
  have hsm : str01 sc ∈ S01 := by unfold str01; rw [List.getD_eq_getElem?_getD, List.getElem?_eq_getElem hsl]; exact List.getElem_mem hsl
  obtain ⟨so1, so2, so3⟩ := S01_ok _ hsm
  refine wpAny_execs_cons (x_set (d := .str (str01 sc)) F₁₅ R (Ev.item (Ev.cast (d' := .list (S01.map .str)) (Ev.list (by walk_at "strs")) rfl) (Ev.mod (by walk_at "nm") Ev.int (by omega)) hs1 (by omega) (by
      rw [List.getElem?_map, List.getElem?_eq_getElem hsl]; unfold str01; rw [List.getD_eq_getElem?_getD, List.getElem?_eq_getElem hsl]; rfl)) (.inl rfl) (by walk_at "ne") fun s₁₆ m₁₆ F₁₆ => ?_)
  have fl : Fl h₀ [] (fEnv (fdAt PW 17) L a cd) A h₀ := ⟨hA, Kp.rfl' _, trivial, rfl⟩
  have F₁₆ : FS C h₀ (fEnv (fdAt PW 17) L a cd) [("strange", .str (str01 sc)), ("votes", intsD (vot01 sc)), ("seats", .int (sea01 sc))] none s₁₆.heap := F₁₆.sub (by walk_at "sub")
  have m016 := m014.trans m₁₅ |>.trans m₁₆
  have hlv := hvb.1
  refine wpAny_execs_cons (wpAny_Return_some (BoolOp_and (x_callS F₁₆ R fl d15 (EvL.cons (by walk_at "nm") (EvL.cons (by walk_at "nm") (EvL.cons (by walk_at "nm") (EvL.cons Ev.bool EvL.nil)))) (refused_ok W d15 (cp_xN W so1 (.inr so2))) rfl fun v s₁₇ m₁₇ F₁₇ r => ?_)))
  rw [r.toBool]
  refine wpAny_truthy_bool ?_
  rw [if_pos rfl]
  refine BoolOp_and (x_callS F₁₇ R fl d15 (EvL.cons Ev.str (EvL.cons (by walk_at "nm") (EvL.cons (by walk_at "nm") (EvL.cons Ev.bool EvL.nil)))) (refused_ok W d15 (cp_xN W (by decide +kernel) (.inl ⟨rfl, rfl⟩))) rfl fun v s₁₈ m₁₈ F₁₈ r => ?_)
  rw [r.toBool]
  refine wpAny_truthy_bool ?_
  rw [if_pos rfl]
  refine BoolOp_one (x_callS F₁₈ R fl d16 (EvL.cons (by walk_at "nm") (EvL.cons (by walk_at "nm") (EvL.cons (by walk_at "nm") EvL.nil))) (unknown_ok W d16 (dv_xN W.d5 (by omega) (by omega) (by omega) (by omega) so1 so3)) rfl fun v s₁₉ m₁₉ F₁₉ r => ?_)
  exact ⟨by rw [r.toBool], (m016.trans m₁₇).trans (m₁₈.trans m₁₉), F₁₉.keep⟩
/-! the threshold keeps the largest -/
theorem sum_le_max : ∀ (l : List Int) (M : Int), (∀ x ∈ l, x ≤ M) → l.sum ≤ l.length * M
  | [], M, _ => by simp
  | x :: l, M, h => by
    have h1 := h x (by simp)
    have h2 := sum_le_max l M fun y hy => h y (by simp [hy])
    rw [List.sum_cons, List.length_cons, Int.natCast_add, Int.add_mul]; simp; omega
theorem sum_posQ {xs : List Int} (h : ∀ x ∈ xs, 0 ≤ x) {y : Int} (hy : y ∈ xs) (hp : 0 < y) : 0 < xs.sum := by
  have := le_sum h y hy; omega
theorem kept_pos {s : List Int} : (∀ p ∈ kep01 s, 0 ≤ p ∧ p < 2 ^ 50) ∧ (kep01 s).length = par01 s ∧ 0 < (kep01 s).sum := by
  have hb := @vot01_b s
  have hp := @par01_b s
  have hpl := @plc01_b s
  have hx := @bx01_b s
  have hy := @by01_b s
  have hm1 := PySem.getD_mem (l := vot01 s) (j := plc01 s) (by omega)
  unfold kep01
  split
  · exact ⟨fun p h => by have := hb.2.1 p h; omega, hb.1, sum_posQ (fun p h => (hb.2.1 p h).1) hm1 (by omega)⟩
  · have hne : vot01 s ≠ [] := by intro h; rw [h] at hm1; cases hm1
    have hM := lmax_mem hne
    have hMge := lmax_le hm1
    have h2 := sum_le_max (vot01 s) (lmax (vot01 s)) fun x hx => lmax_le hx
    have hMb := hb.2.1 _ hM
    generalize hMd : lmax (vot01 s) = M at *
    have hk : ∀ p ∈ keptOf (vot01 s) (bx01 s) (by01 s), 0 ≤ p ∧ p < 2 ^ 50 := fun p h => by
      obtain ⟨q, hq, rfl⟩ := List.mem_map.mp h
      have := hb.2.1 q hq
      split <;> omega
    refine ⟨hk, by unfold keptOf; rw [List.length_map]; exact hb.1, ?_⟩
    have hs0 := sum_nonneg fun p h => (hb.2.1 p h).1
    have l1 : M * (3 * (par01 s : Int)) ≤ M * by01 s := Int.mul_le_mul_of_nonneg_left hy.1 (by omega)
    have l2 : M * (3 * (par01 s : Int)) = 3 * ((par01 s : Int) * M) := by ac_rfl
    have l3 : (vot01 s).sum * bx01 s ≤ (vot01 s).sum * 2 := Int.mul_le_mul_of_nonneg_left hx.2 hs0
    rw [hb.1] at h2
    have hpass : ¬ M * by01 s < (vot01 s).sum * bx01 s := by omega
    have hmem : M ∈ keptOf (vot01 s) (bx01 s) (by01 s) := List.mem_map.mpr ⟨M, hM, by rw [if_neg hpass]⟩
    exact sum_posQ (fun p h => (hk p h).1) hmem (by omega)
theorem kept01 {s : List Int} {m : Str} (hm : m ∈ N01) : Kept m (kep01 s) (sea01 s) := by
  obtain ⟨a, b, c⟩ := @kept_pos s
  have hp := @par01_b s
  have hs := @sea01_b s
  exact ⟨⟨by omega, by omega, a⟩, c, by omega, by omega, (N01_ok m hm).1, (N01_ok m hm).2⟩

/-! quota: none for the parties without votes -/
theorem sum_le_sum : ∀ (xs ys : List Int), xs.length = ys.length → (∀ i, i < xs.length → xs.getD i 0 ≤ ys.getD i 0) → xs.sum ≤ ys.sum
  | [], [], _, _ => by simp
  | x :: xs, y :: ys, h, hh => by
    have h0 : x ≤ y := by simpa using hh 0 (by simp)
    have := sum_le_sum xs ys (by simpa using h) fun i hi => by simpa using hh (i + 1) (by simp; omega)
    simp; omega
theorem up_sum {v r : List Int} (hV : 0 < v.sum) : r.sum + 1 ≤ (qtUp v r).sum := by
  have h : ∀ l : List Int, l.sum * (r.sum + 1) ≤ (l.map fun p => -(-p * (r.sum + 1) / v.sum)).sum * v.sum := by
    intro l
    induction l with
    | nil => simp
    | cons p l ih =>
      rw [List.sum_cons, List.map_cons, List.sum_cons, Int.add_mul, Int.add_mul]
      have e := Int.ediv_mul_le (-p * (r.sum + 1)) (show v.sum ≠ 0 by omega)
      rw [Int.neg_mul] at e ⊢
      rw [Int.neg_mul]
      omega
  have := h v
  have h2 : (r.sum + 1) * v.sum ≤ (qtUp v r).sum * v.sum := by rw [Int.mul_comm]; exact this
  exact Int.le_of_mul_le_mul_right h2 hV
theorem next_pos {v r : List Int} (hv : Vok v) (hV : 0 < v.sum) (hl : r.length = v.length) (hr : ∀ x ∈ r, 0 ≤ x) : v.getD (qtNext v r) 0 ≠ 0 := by
  have hlo := hv.lo
  have hul : (qtUp v r).length = v.length := by simp [qtUp]
  have h2l : (qtQ2 v r).length = v.length := by simp [qtQ2]
  have gq : ∀ i, i < v.length → (qtQ v r).getD i 0 = v.getD i 0 * qtCommon r / (r.getD i 0 + 1) := fun i hi => by unfold qtQ; simp [List.getD, hi]
  have g2 : ∀ i, i < v.length → (qtQ2 v r).getD i 0 = if (qtUp v r).getD i 0 ≤ r.getD i 0 then 0 else (qtQ v r).getD i 0 := fun i hi => by unfold qtQ2; rw [List.getD_eq_getElem?_getD, List.getElem?_map, List.getElem?_range hi]; rfl
  have gu : ∀ i, i < v.length → (qtUp v r).getD i 0 = -(-(v.getD i 0) * (r.sum + 1) / v.sum) := fun i hi => by unfold qtUp; simp [List.getD, hi]
  have hex : ∃ i, i < v.length ∧ r.getD i 0 < (qtUp v r).getD i 0 := by
    by_cases h : ∃ i, i < v.length ∧ r.getD i 0 < (qtUp v r).getD i 0
    · exact h
    · exfalso
      have h1 := sum_le_sum (qtUp v r) r (by omega) fun i hi => by
        by_cases q : (qtUp v r).getD i 0 ≤ r.getD i 0
        · exact q
        · exact absurd ⟨i, by omega, by omega⟩ h
      have := up_sum (r := r) hV
      omega
  obtain ⟨i, hi, hiu⟩ := hex
  have hri := hr _ (PySem.getD_mem (l := r) (j := i) (by omega))
  have hvi : 0 < v.getD i 0 := by
    have h0 := (hv.nn _ (PySem.getD_mem (l := v) (j := i) hi)).1
    by_cases e : v.getD i 0 = 0
    · rw [gu i hi, e] at hiu
      have e0 : -(-(0 : Int) * (r.sum + 1) / v.sum) = 0 := by simp
      rw [e0] at hiu; omega
    · omega
  have hq1 : 1 ≤ (qtQ2 v r).getD i 0 := by
    rw [g2 i hi, if_neg (by omega), gq i hi]
    have hd : (r.getD i 0 + 1) ∣ qtCommon r := common_dvd r 1 _ (PySem.getD_mem (by omega))
    rw [Int.mul_ediv_assoc _ hd]
    have hc1 : 1 ≤ qtCommon r := common_ge r 1 (by omega) hr
    have e := Int.ediv_mul_cancel hd
    have hpos : 0 < qtCommon r / (r.getD i 0 + 1) := by
      by_cases q : 0 < qtCommon r / (r.getD i 0 + 1)
      · exact q
      · exfalso
        have := Int.mul_nonneg (a := -(qtCommon r / (r.getD i 0 + 1))) (b := r.getD i 0 + 1) (by omega) (by omega)
        rw [Int.neg_mul] at this; omega
    have := Int.mul_pos hvi hpos
    omega
  have hmx := lmax_le (PySem.getD_mem (l := qtQ2 v r) (j := i) (by omega))
  obtain ⟨hn, hn0⟩ := qtNext_lt (r := r) hlo
  have hmem := List.mem_of_getElem? hn0
  unfold qtIdx at hmem
  have heq : (qtQ2 v r).getD (qtNext v r) 0 = lmax (qtQ2 v r) := by simpa using (List.mem_filter.mp hmem).2
  intro hz
  rw [g2 _ hn, gq _ hn, hz] at heq
  split at heq
  · omega
  · simp at heq; omega
theorem qt_zero {v : List Int} (hv : Vok v) (hV : 0 < v.sum) {j : Nat} (hj : v.getD j 0 = 0) : ∀ k, (qtRun v k).getD j 0 = 0
  | 0 => by
    show (List.replicate v.length (0 : Int)).getD j 0 = 0
    by_cases h : j < v.length <;> simp [List.getD, h]
  | k + 1 => by
    obtain ⟨a, b, c⟩ := qtRun_ok hv.lo k
    have hn := next_pos hv hV a fun x hx => (c x hx).1
    have hne : qtNext v (qtRun v k) ≠ j := fun e => hn (by rw [e]; exact hj)
    show (qtStep v (qtRun v k)).getD j 0 = 0
    unfold qtStep
    rw [List.getD_eq_getElem?_getD, List.getElem?_set_ne hne, ← List.getD_eq_getElem?_getD]
    exact qt_zero hv hV hj k
/-! highest averages: no seat should move -/
theorem dec_above {m : Int} : ∀ {row : List Int}, row.Pairwise (· > ·) → ∀ t, t < row.length → (m < row.getD t 0 ↔ t < above m row)
  | x :: xs, h, t, ht => by
    obtain ⟨h1, h2⟩ := List.pairwise_cons.mp h
    unfold above
    rw [List.countP_cons]
    by_cases hx : m < x
    · rw [if_pos (by simpa using hx)]
      cases t with
      | zero => simp [hx]
      | succ t =>
        have := dec_above (m := m) h2 t (by simpa using ht)
        unfold above at this
        rw [List.getD_cons_succ, this]; omega
    · have z : xs.countP (fun w => decide (m < w)) = 0 := List.countP_eq_zero.mpr fun y hy => by have := h1 y hy; simp; omega
      rw [if_neg (by simpa using hx), z]
      cases t with
      | zero => simp; omega
      | succ t =>
        have ht' : t < xs.length := by simpa using ht
        have := h1 _ (PySem.getD_mem (l := xs) (j := t) ht')
        rw [List.getD_cons_succ]
        omega
theorem wRow_dec {U : List Int} (h : U.Pairwise (· > ·)) {q : Int} (hq : 0 < q) : (wRow U q).Pairwise (· > ·) := by
  unfold wRow
  rw [List.pairwise_map]
  exact h.imp fun {a b} hab => Int.mul_lt_mul_of_pos_left hab hq
theorem pair_mono {row : List Int} (h : row.Pairwise (· > ·)) {i j : Nat} (hij : i < j) (hj : j < row.length) : row.getD j 0 < row.getD i 0 := by
  have := List.pairwise_iff_getElem.mp h i j (by omega) hj hij
  have e1 : row.getD i 0 = row[i] := by simp [List.getD, show i < row.length by omega]
  have e2 : row.getD j 0 = row[j] := by simp [List.getD, hj]
  rw [e1, e2]; exact this

section
variable {U qs init : List Int} {S : Int}
/-- how many of a party's weights were taken -/
theorem aRes_part (h : AOk U qs init S) {i : Nat} (hi : i < qs.length) : ∃ a : Nat, (aRes U qs init S).1.getD i 0 = init.getD i 0 + a ∧ (qs.getD i 0 = 0 → a = 0) ∧
    ∃ mn : Int, (∀ mn', mn' = (if init.sum < S then aMn U qs init S else 0) → mn = mn') ∧ (0 < qs.getD i 0 → (1 ≤ a → init.sum < S ∧ a ≤ U.length ∧ mn ≤ qs.getD i 0 * U.getD (a - 1) 0) ∧ (init.sum < S → a < U.length → qs.getD i 0 * U.getD a 0 ≤ mn)) := by
  unfold aRes
  by_cases hlt : init.sum < S
  · rw [if_pos hlt, if_pos hlt]
    have hp := h.pos hlt
    generalize aMn U qs init S = mn at *
    have hW : (wRows U qs).getD i [] = wRow U (qs.getD i 0) := by unfold wRows; simp [List.getD, hi]
    have hWl : i < (wRows U qs).length := by simpa [wRows] using hi
    have hil : i < init.length := by rw [h.il]; exact hi
    have hR : (aR U qs init mn).getD i 0 = init.getD i 0 + (above mn (wRow U (qs.getD i 0)) : Int) := by
      rw [← hW]
      unfold aR
      have hlen : i < (List.zipWith (fun a row => a + (above mn row : Int)) init (wRows U qs)).length := by rw [List.length_zipWith]; omega
      rw [List.getD_eq_getElem?_getD, List.getElem?_eq_getElem hlen, List.getElem_zipWith]
      simp [List.getD, hWl, hil]
    have hB : (aBs U qs mn).getD i false = (wRow U (qs.getD i 0)).contains mn := by
      rw [← hW]
      unfold aBs
      simp [List.getD, hWl]
    have hUl : (wRow U (qs.getD i 0)).length = U.length := by simp [wRow]
    have hUg : ∀ t, t < U.length → (wRow U (qs.getD i 0)).getD t 0 = qs.getD i 0 * U.getD t 0 := fun t ht => by unfold wRow; simp [List.getD, ht]
    have hcl : above mn (wRow U (qs.getD i 0)) ≤ U.length := by rw [← hUl]; exact List.countP_le_length
    have hz : qs.getD i 0 = 0 → above mn (wRow U (qs.getD i 0)) = 0 ∧ (wRow U (qs.getD i 0)).contains mn = false := fun e => by
      rw [e]
      refine ⟨List.countP_eq_zero.mpr fun x hx => by rw [wRow_zero x hx]; simp; omega, ?_⟩
      rw [Bool.eq_false_iff]; intro hc
      have := wRow_zero _ (List.contains_iff_mem.mp hc); omega
    have hdec : 0 < qs.getD i 0 → (wRow U (qs.getD i 0)).Pairwise (· > ·) := fun hq => wRow_dec h.dec hq
    generalize wRow U (qs.getD i 0) = row at *
    rcases @gFin_get (aR U qs init mn) S (aBs U qs mn) i with q | ⟨qb, q⟩
    · refine ⟨above mn row, by rw [q, hR], fun e => (hz e).1, mn, fun _ e => e.symm, fun hq => ⟨fun h1 => ?_, fun _ h2 => ?_⟩⟩
      · have hd := (dec_above (m := mn) (hdec hq) (above mn row - 1) (by omega)).mpr (by omega)
        rw [hUg _ (by omega)] at hd
        exact ⟨hlt, hcl, by omega⟩
      · have hd := dec_above (m := mn) (hdec hq) (above mn row) (by omega)
        rw [hUg _ h2] at hd
        omega
    · rw [hB] at qb
      refine ⟨above mn row + 1, by rw [q, hR]; omega, fun e => (by rw [(hz e).2] at qb; cases qb), mn, fun _ e => e.symm, fun hq => ?_⟩
      have hmem : mn ∈ row := List.contains_iff_mem.mp qb
      obtain ⟨t, ht, et⟩ := List.mem_iff_getElem.mp hmem
      have et' : row.getD t 0 = mn := by simp [List.getD, ht, et]
      have hd := dec_above (m := mn) (hdec hq) t ht
      rw [et'] at hd
      have htc : t = above mn row := by
        by_cases e : t = above mn row
        · exact e
        · exfalso
          have hlt2 : above mn row < t := by omega
          have h3 := pair_mono (hdec hq) hlt2 ht
          have h4 := dec_above (m := mn) (hdec hq) (above mn row) (by omega)
          rw [et'] at h3
          omega
      refine ⟨fun _ => ⟨hlt, by omega, ?_⟩, fun _ h2 => ?_⟩
      · rw [Nat.add_sub_cancel, ← htc, ← hUg t (by omega), et']; exact Int.le_refl _
      · have h3 := pair_mono (hdec hq) (show t < above mn row + 1 by omega) (by omega)
        rw [et', hUg _ h2] at h3
        omega
  · rw [if_neg hlt, if_neg hlt]
    refine ⟨0, by simp, fun _ => rfl, 0, fun _ e => e.symm, fun _ => ⟨fun h1 => by omega, fun h1 => absurd h1 hlt⟩⟩
end
theorem two_le_sum : ∀ {xs : List Int} {i j : Nat}, (∀ x ∈ xs, 0 ≤ x) → i < xs.length → j < xs.length → i ≠ j → xs.getD i 0 + xs.getD j 0 ≤ xs.sum := fun {xs i j} h hi hj hne => by
  have h1 := set_sum (xs := xs) (i := i) (c := 0) hi
  have h2 : ∀ x ∈ xs.set i 0, 0 ≤ x := fun x hx => by
    rcases List.mem_or_eq_of_mem_set hx with hx | rfl
    · exact h x hx
    · omega
  have h3 := le_sum h2 _ (PySem.getD_mem (l := xs.set i 0) (j := j) (by rw [List.length_set]; exact hj))
  have h4 : (xs.set i 0).getD j 0 = xs.getD j 0 := by rw [List.getD_eq_getElem?_getD, List.getElem?_set_ne hne, ← List.getD_eq_getElem?_getD]
  omega

theorem step_rel : ∀ m ∈ DIV, ∀ t : Nat, t < 13 → (famOf m < 3 → stepOf m (t : Int) = dvDiv (famOf m) t) ∧ (3 ≤ famOf m → stepOf m ((t : Int) + 1) = dvDiv (famOf m) t) ∧ (3 ≤ famOf m → stepOf m 0 = (0, 1)) := by decide +kernel
theorem u_at {k : Nat} {S : Int} {t : Nat} (ht : t < S.toNat) : (uRow k S).getD t 0 = (dvDiv k t).2 * (dvCommon (dvDivs k S) / (dvDiv k t).1) ∧ (dvDiv k t).1 ∣ dvCommon (dvDivs k S) := by
  refine ⟨?_, dv_dvd _ 1 _ (List.mem_map.mpr ⟨t, List.mem_range.mpr ht, rfl⟩)⟩
  have hl : t < (dvDivs k S).length := by simpa [dvDivs] using ht
  unfold uRow
  rw [List.getD_eq_getElem?_getD, List.getElem?_map, List.getElem?_eq_getElem hl]
  have e : (dvDivs k S)[t] = dvDiv k t := by simp [dvDivs]
  rw [e]; rfl
theorem cross {P P' c g1 g2 l1 l2 : Int} (hc : 0 < c) (hg : g1 ∣ c) (hl : l1 ∣ c) (h0 : 0 < g1) (h1 : 0 < l1) (h : P * (g2 * (c / g1)) ≤ P' * (l2 * (c / l1))) : P * g2 * l1 ≤ P' * l2 * g1 := by
  have e1 : c / g1 * g1 = c := Int.ediv_mul_cancel hg
  have e2 : c / l1 * l1 = c := Int.ediv_mul_cancel hl
  have h2 : 0 < g1 * l1 := Int.mul_pos h0 h1
  have h3 := Int.mul_le_mul_of_nonneg_right h (Int.le_of_lt h2)
  rw [show P * (g2 * (c / g1)) * (g1 * l1) = P * g2 * l1 * (c / g1 * g1) by ac_rfl, show P' * (l2 * (c / l1)) * (g1 * l1) = P' * l2 * g1 * (c / l1 * l1) by ac_rfl, e1, e2] at h3
  exact Int.le_of_mul_le_mul_right h3 hc
theorem init_at {k : Nat} {v : List Int} {i : Nat} (hi : i < v.length) : (dvInit k v).getD i 0 = if k < 3 then 0 else if 0 < v.getD i 0 then 1 else 0 := by
  unfold dvInit
  split
  · simp [List.getD, hi]
  · rw [List.getD_eq_getElem?_getD, List.getElem?_map, List.getElem?_eq_getElem hi, List.getD_eq_getElem?_getD, List.getElem?_eq_getElem hi]; rfl
theorem qs_at {k : Nat} {v : List Int} {i : Nat} (hi : i < v.length) : (v.map (dvPow k)).getD i 0 = dvPow k (v.getD i 0) := by simp [List.getD, hi]

theorem stay01 {m : Str} (hm : DIV.contains m = true) {v : List Int} {S : Int} (hv : Vok v) (hV : 0 < v.sum) (h0 : v.length ≤ S) (h1 : S ≤ 12) {i j : Nat} (hi : i < v.length) (hj : j < v.length) : Stay m v (dvRes (famOf m) v S).1 i j := by
  have hk := div_fam hm
  have hm' : m ∈ DIV := List.contains_iff_mem.mp hm
  have A := dv_aok hk hv hV h0 h1
  rw [dvRes_eq hk hv hV h0 h1]
  have hsum := (aRes_sum A).1
  have hlen := (aRes_sum A).2
  have hbd := aRes_bd A
  obtain ⟨ai, ti, zi, mn, mi, bi⟩ := aRes_part A (i := i) (by simpa using hi)
  obtain ⟨aj, tj, zj, mn', mj, bj⟩ := aRes_part A (i := j) (by simpa using hj)
  have emn : mn = mn' := by rw [mi _ rfl, mj _ rfl]
  subst emn
  have hUl := A.ul
  have hD := dvDivs_b (k := famOf m) (seats := S) hk h1
  have hdl : (dvDivs (famOf m) S).length = S.toNat := by simp [dvDivs]
  have hC := common_b (fun d hd => (hD d hd).1) (by rw [hdl]; omega)
  intro hne htj
  have h2 := two_le_sum (fun x hx => (hbd x hx).1) (by rw [hlen]; simpa using hi) (by rw [hlen]; simpa using hj) hne
  rw [hsum] at h2
  have hti := (hbd _ (PySem.getD_mem (j := i) (by rw [hlen]; simpa using hi))).1
  generalize (aRes (uRow (famOf m) S) (v.map (dvPow (famOf m))) (dvInit (famOf m) v) S).1 = told at *
  have vi := (hv.nn _ (PySem.getD_mem (l := v) (j := i) hi)).1
  have vj := (hv.nn _ (PySem.getD_mem (l := v) (j := j) hj)).1
  rw [init_at hi] at ti
  rw [init_at hj] at tj
  rw [qs_at hi] at zi bi
  rw [qs_at hj] at zj bj
  have sgb := step_b (m := m) (k := told.getD i 0) hti (by omega)
  have slb := step_b (m := m) (k := told.getD j 0 - 1) (by omega) (by omega)
  have pj := (pow_b (k := famOf m) vj).1
  have lhs : 0 ≤ dvPow (famOf m) (v.getD j 0) * (stepOf m (told.getD j 0 - 1)).2 * (stepOf m (told.getD i 0)).1 := Int.mul_nonneg (Int.mul_nonneg pj (by omega)) (by omega)
  -- who has no votes gains nothing
  by_cases vi0 : v.getD i 0 = 0
  · rw [vi0, pow_zero, Int.zero_mul, Int.zero_mul]; rw [Int.not_lt]; exact lhs
  have vj0 : 0 < v.getD j 0 := by
    by_cases e : v.getD j 0 = 0
    · exfalso
      have := zj (by rw [e]; exact pow_zero)
      rw [tj, e, this] at htj
      split at htj <;> simp at htj
    · omega
  have vi1 : 0 < v.getD i 0 := by omega
  have qi := (pow_b (k := famOf m) vi).2 vi1
  have qj := (pow_b (k := famOf m) vj).2 vj0
  rw [if_pos vi1] at ti
  rw [if_pos vj0] at tj
  obtain ⟨bi1, bi2⟩ := bi qi
  obtain ⟨bj1, bj2⟩ := bj qj
  by_cases aj0 : aj = 0
  · -- the first seat of the families that give one to each
    subst aj0
    have k3 : ¬ famOf m < 3 := fun h => by rw [if_pos h] at tj; omega
    rw [if_neg k3] at tj
    have sr := (step_rel m hm' 0 (by omega)).2.2 (by omega)
    rw [show told.getD j 0 - 1 = 0 by omega, sr]
    rw [Int.mul_zero, Int.not_lt]
    rw [show told.getD j 0 - 1 = 0 by omega, sr] at lhs
    exact lhs
  obtain ⟨hlt, hajU, bj3⟩ := bj1 (by omega)
  have haiU : ai < (uRow (famOf m) S).length := by
    rw [hUl]
    split at ti <;> split at tj <;> omega
  have bi3 := bi2 hlt haiU
  have hle := Int.le_trans bi3 bj3
  obtain ⟨ui, di⟩ := u_at (k := famOf m) (S := S) (t := ai) (by omega)
  obtain ⟨uj, dj⟩ := u_at (k := famOf m) (S := S) (t := aj - 1) (by omega)
  rw [ui, uj] at hle
  have b1 := dvDiv_b (famOf m) hk ai (by omega)
  have b2 := dvDiv_b (famOf m) hk (aj - 1) (by omega)
  have key := cross (by omega) di dj (by omega) (by omega) hle
  have eg : stepOf m (told.getD i 0) = dvDiv (famOf m) ai := by
    have sr := step_rel m hm' ai (by omega)
    by_cases k3 : famOf m < 3
    · rw [if_pos k3] at ti
      rw [← sr.1 k3]; congr 1; omega
    · rw [if_neg k3] at ti
      rw [← sr.2.1 (by omega)]; congr 1; omega
  have el : stepOf m (told.getD j 0 - 1) = dvDiv (famOf m) (aj - 1) := by
    have sr := step_rel m hm' (aj - 1) (by omega)
    by_cases k3 : famOf m < 3
    · rw [if_pos k3] at tj
      rw [← sr.1 k3]; congr 1; omega
    · rw [if_neg k3] at tj
      rw [← sr.2.1 (by omega)]; congr 1; omega
  rw [eg, el, Int.not_lt]
  exact key

theorem good01 {sc : List Int} {m : Str} (hm : m ∈ N01) : Good01 sc m := by
  have K := kept01 (s := sc) hm
  have hkl := (@kept_pos sc).2.1
  have hp := @par01_b sc
  have hs := @sea01_b sc
  have h0 : 0 < sea01 sc := by omega
  by_cases c0 : m = "quota"
  · have e : cmpRes m (kep01 sc) (sea01 sc) = (qtRun (kep01 sc) (sea01 sc).toNat, false) := by unfold cmpRes; rw [if_pos c0]
    obtain ⟨q1, q2, q3⟩ := qtRun_ok K.ok.lo (sea01 sc).toNat
    refine ⟨?_, ?_, ?_, ?_, fun h => ?_⟩
    · rw [e]; exact q1.trans hkl
    · rw [e]; show (qtRun _ _).sum = _; omega
    · rw [e]; intro x hx; have := q3 x hx; omega
    · rw [e]; intro j hj hz; exact qt_zero K.ok K.pos hz _
    · subst c0; exact absurd h (by decide +kernel)
  by_cases c1 : LRM.contains m = true
  · have e : cmpRes m (kep01 sc) (sea01 sc) = lrRes (kep01 sc) (sea01 sc) := by unfold cmpRes; rw [if_neg c0, if_pos c1]
    obtain ⟨q1, q2⟩ := lr_sum K.ok K.pos h0
    have q3 := lr_bd K.ok K.pos h0
    refine ⟨?_, ?_, ?_, ?_, fun h => ?_⟩
    · rw [e]; exact q2.trans hkl
    · rw [e]; exact q1
    · rw [e]; intro x hx; have := q3 x hx; omega
    · rw [e]; intro j hj hz; exact lr_zero K.ok K.pos h0 j hz
    · have : ∀ m ∈ LRM, DIV.contains m = false := by decide +kernel
      rw [this m (List.contains_iff_mem.mp c1)] at h; cases h
  have c2 : DIV.contains m = true := K.name.elim (fun h => absurd h c0) fun h => h.elim (fun h => absurd h c1) id
  have hk := div_fam c2
  have e : cmpRes m (kep01 sc) (sea01 sc) = dvRes (famOf m) (kep01 sc) (sea01 sc) := by unfold cmpRes; rw [if_neg c0, if_neg c1]
  have A := dv_aok hk K.ok K.pos K.lo K.hi
  have q := dvRes_eq hk K.ok K.pos K.lo K.hi
  obtain ⟨q1, q2⟩ := aRes_sum A
  have q3 := aRes_bd A
  rw [← q] at q1 q2 q3
  refine ⟨?_, ?_, ?_, ?_, fun _ i hi j hj => ?_⟩
  · rw [e, q2]; simpa using hkl
  · rw [e]; exact q1
  · rw [e]; intro x hx; have := q3 x hx; omega
  · rw [e]; intro j hj hz
    have hj' : j < (kep01 sc).length := by omega
    obtain ⟨a, t, z, _⟩ := aRes_part A (i := j) (by simpa using hj')
    rw [q, t, z (by rw [qs_at hj', hz]; exact pow_zero), init_at hj', hz]
    simp
  · rw [e]; exact stay01 c2 K.ok K.pos K.lo K.hi hi hj
theorem ofLen1 {α : Type} {vs : List α} (h : vs.length = 1) : ∃ a, vs = [a] := by
  match vs, h with
  | [a], _ => exact ⟨a, rfl⟩
theorem ofLen2 {α : Type} {vs : List α} (h : vs.length = 2) : ∃ a b, vs = [a, b] := by
  match vs, h with
  | [a, b], _ => exact ⟨a, b, rfl⟩
theorem ofLen3 {α : Type} {vs : List α} (h : vs.length = 3) : ∃ a b c, vs = [a, b, c] := by
  match vs, h with
  | [a, b, c], _ => exact ⟨a, b, c, rfl⟩
theorem ofLen4 {α : Type} {vs : List α} (h : vs.length = 4) : ∃ a b c d, vs = [a, b, c, d] := by
  match vs, h with
  | [a, b, c, d], _ => exact ⟨a, b, c, d, rfl⟩
theorem ofLen5 {α : Type} {vs : List α} (h : vs.length = 5) : ∃ a b c d e, vs = [a, b, c, d, e] := by
  match vs, h with
  | [a, b, c, d, e], _ => exact ⟨a, b, c, d, e, rfl⟩
theorem or23 {n : Nat} (h : n ≤ 3) (h' : 3 ≤ n + 1) : n = 2 ∨ n = 3 := by omega
theorem or34 {n : Nat} (h : n ≤ 4) (h' : 4 ≤ n + 1) : n = 3 ∨ n = 4 := by omega
theorem or345 {n : Nat} (h : n ≤ 5) (h' : 5 ≤ n + 2) : n = 3 ∨ n = 4 ∨ n = 5 := by omega

theorem j01 : PySem.Challenge.rw_ab5006_01.Holds := Mine.hd01 (by
  k_fill
  intro w s₀ s₁ mg mb G Y fa o pm cd doc dV kV ho hd hcd hD hmg hg args vals as hpre hlay hrd hwl hlo
  have KX := kIn_of Y
  refine Ground.open G ?_
  intro T B D TE TW
  wrow_args hpre hlay hrd hwl hlo
  all_goals (
    refine enter_call ?_
    let C : W0 := ⟨PySem.Challenge.rw_ab5006_01.row.prog, w, hd01.heap_39 w.params, mg, mb⟩
    have d9 : DefAt C (fdAt PW 9) [] := by
      refine ⟨⟨_, _, _, _, _, _, _, _, _, _, _, mg_of KX T.g (by k_is), (show (hd01.heap_39 w.params).lookup _ = some _ by k_is), (show codeIn (hd01.heap_39 w.params) _ _ = true by k_is), fun s vs G h1 h2 => ?_⟩, by rfl⟩
      obtain ⟨a, b, rfl⟩ := ofLen2 (Nat.le_antisymm h1 h2)
      exact BindsTo.of_eq rfl
    have d3 : DefAt C (fdAt PW 3) [] := by
      refine ⟨⟨_, _, _, _, _, _, _, _, _, _, _, mg_of KX T.g (by k_is), (show (hd01.heap_39 w.params).lookup _ = some _ by k_is), (show codeIn (hd01.heap_39 w.params) _ _ = true by k_is), fun s vs G h1 h2 => ?_⟩, by rfl⟩
      obtain ⟨a, b, rfl⟩ := ofLen2 (Nat.le_antisymm h1 h2)
      exact BindsTo.of_eq rfl
    have d10 : DefAt C (fdAt PW 10) [] := by
      refine ⟨⟨_, _, _, _, _, _, _, _, _, _, _, mg_of KX T.g (by k_is), (show (hd01.heap_39 w.params).lookup _ = some _ by k_is), (show codeIn (hd01.heap_39 w.params) _ _ = true by k_is), fun s vs G h1 h2 => ?_⟩, by rfl⟩
      obtain ⟨a, b, c, rfl⟩ := ofLen3 (Nat.le_antisymm h1 h2)
      exact BindsTo.of_eq rfl
    have d12 : DefAt C (fdAt PW 12) [] := by
      refine ⟨⟨_, _, _, _, _, _, _, _, _, _, _, mg_of KX T.g (by k_is), (show (hd01.heap_39 w.params).lookup _ = some _ by k_is), (show codeIn (hd01.heap_39 w.params) _ _ = true by k_is), fun s vs G h1 h2 => ?_⟩, by rfl⟩
      obtain ⟨a, b, rfl⟩ := ofLen2 (Nat.le_antisymm h1 h2)
      exact BindsTo.of_eq rfl
    have d13 : DefAt C (fdAt PW 13) [] := by
      refine ⟨⟨_, _, _, _, _, _, _, _, _, _, _, mg_of KX T.g (by k_is), (show (hd01.heap_39 w.params).lookup _ = some _ by k_is), (show codeIn (hd01.heap_39 w.params) _ _ = true by k_is), fun s vs G h1 h2 => ?_⟩, by rfl⟩
      obtain ⟨a, b, rfl⟩ := ofLen2 (Nat.le_antisymm h1 h2)
      exact BindsTo.of_eq rfl
    have d14 : DefAt C (fdAt PW 14) [] := by
      refine ⟨⟨_, _, _, _, _, _, _, _, _, _, _, mg_of KX T.g (by k_is), (show (hd01.heap_39 w.params).lookup _ = some _ by k_is), (show codeIn (hd01.heap_39 w.params) _ _ = true by k_is), fun s vs G h1 h2 => ?_⟩, by rfl⟩
      obtain ⟨a, b, c, rfl⟩ := ofLen3 (Nat.le_antisymm h1 h2)
      exact BindsTo.of_eq rfl
    have d15 : DefAt C (fdAt PW 15) [] := by
      refine ⟨⟨_, _, _, _, _, _, _, _, _, _, _, mg_of KX T.g (by k_is), (show (hd01.heap_39 w.params).lookup _ = some _ by k_is), (show codeIn (hd01.heap_39 w.params) _ _ = true by k_is), fun s vs G h1 h2 => ?_⟩, by rfl⟩
      obtain ⟨a, b, c, d, rfl⟩ := ofLen4 (Nat.le_antisymm h1 h2)
      exact BindsTo.of_eq rfl
    have d16 : DefAt C (fdAt PW 16) [] := by
      refine ⟨⟨_, _, _, _, _, _, _, _, _, _, _, mg_of KX T.g (by k_is), (show (hd01.heap_39 w.params).lookup _ = some _ by k_is), (show codeIn (hd01.heap_39 w.params) _ _ = true by k_is), fun s vs G h1 h2 => ?_⟩, by rfl⟩
      obtain ⟨a, b, c, rfl⟩ := ofLen3 (Nat.le_antisymm h1 h2)
      exact BindsTo.of_eq rfl
    have d4 : DefAt C (fdAt PW 4) [.bool true] := by
      refine ⟨⟨_, _, _, _, _, _, _, _, _, _, _, mg_of KX T.g (by k_is), (show (hd01.heap_39 w.params).lookup _ = some _ by k_is), (show codeIn (hd01.heap_39 w.params) _ _ = true by k_is), fun s vs G h1 h2 => ?_⟩, by rfl⟩
      have X : (hd01.heap_39 w.params).In s.heap := G.X
      rcases or23 h1 h2 with h | h
      · obtain ⟨a, b, rfl⟩ := ofLen2 h
        exact binds_K X rfl (by k_is) rfl rfl rfl
      · obtain ⟨a, b, c, rfl⟩ := ofLen3 h
        exact binds_K X rfl (by k_is) rfl rfl rfl
    have d7 : DefAt C (fdAt PW 7) [.bool true] := by
      refine ⟨⟨_, _, _, _, _, _, _, _, _, _, _, mg_of KX T.g (by k_is), (show (hd01.heap_39 w.params).lookup _ = some _ by k_is), (show codeIn (hd01.heap_39 w.params) _ _ = true by k_is), fun s vs G h1 h2 => ?_⟩, by rfl⟩
      have X : (hd01.heap_39 w.params).In s.heap := G.X
      rcases or23 h1 h2 with h | h
      · obtain ⟨a, b, rfl⟩ := ofLen2 h
        exact binds_K X rfl (by k_is) rfl rfl rfl
      · obtain ⟨a, b, c, rfl⟩ := ofLen3 h
        exact binds_K X rfl (by k_is) rfl rfl rfl
    have d5 : DefAt C (fdAt PW 5) [.bool true] := by
      refine ⟨⟨_, _, _, _, _, _, _, _, _, _, _, mg_of KX T.g (by k_is), (show (hd01.heap_39 w.params).lookup _ = some _ by k_is), (show codeIn (hd01.heap_39 w.params) _ _ = true by k_is), fun s vs G h1 h2 => ?_⟩, by rfl⟩
      have X : (hd01.heap_39 w.params).In s.heap := G.X
      rcases or34 h1 h2 with h | h
      · obtain ⟨a, b, c, rfl⟩ := ofLen3 h
        exact binds_K X rfl (by k_is) rfl rfl rfl
      · obtain ⟨a, b, c, d, rfl⟩ := ofLen4 h
        exact binds_K X rfl (by k_is) rfl rfl rfl
    have d2 : DefAt C (fdAt PW 2) [.none, .bool true] := by
      refine ⟨⟨_, _, _, _, _, _, _, _, _, _, _, mg_of KX T.g (by k_is), (show (hd01.heap_39 w.params).lookup _ = some _ by k_is), (show codeIn (hd01.heap_39 w.params) _ _ = true by k_is), fun s vs G h1 h2 => ?_⟩, by rfl⟩
      have X : (hd01.heap_39 w.params).In s.heap := G.X
      rcases or345 h1 h2 with h | h | h
      · obtain ⟨a, b, c, rfl⟩ := ofLen3 h
        exact binds_K X rfl (by k_is) rfl rfl rfl
      · obtain ⟨a, b, c, d, rfl⟩ := ofLen4 h
        exact binds_K X rfl (by k_is) rfl rfl rfl
      · obtain ⟨a, b, c, d, e, rfl⟩ := ofLen5 h
        exact binds_K X rfl (by k_is) rfl rfl rfl
    have dl : DefAt C (fdAt PW 17) [] := by
      refine ⟨⟨_, _, _, _, _, _, _, _, _, _, _, mg_of KX T.g (by k_is), (show (hd01.heap_39 w.params).lookup _ = some _ by k_is), (show codeIn (hd01.heap_39 w.params) _ _ = true by k_is), fun s vs G h1 h2 => ?_⟩, by rfl⟩
      obtain ⟨a, rfl⟩ := ofLen1 (Nat.le_antisymm h1 h2)
      exact BindsTo.of_eq rfl
    have GC : GW C s₁.heap := ⟨T.g, T.b, T.nolimit, T.builtins, KX, fun x hx => by
      simp only [bNames, List.mem_cons, List.not_mem_nil, or_false] at hx
      rcases hx with rfl | rfl | rfl | rfl | rfl | rfl | rfl | rfl | rfl <;> exact mg_none_of KX T.g (by k_is)⟩
    rename_i ws _ _ _ _ _ _ _ lst vs _ hL _ _ _ hI _ hcond _
    exact call_def (C := C) (A := callerA) (ds := [intsD ws]) (ddfl := []) dl (by decide) GC (RepL.cons (rep_ints hL hI) RepL.nil) (Nat.le_of_ble_eq_true rfl) (Nat.le_of_ble_eq_true rfl) RepL.nil (fun L a cd s' hma hsm _ F _ => by
      refine wpAny_mono (law01_body (n := 0) ⟨d2, d3, d4, d5, d7, d9, d10⟩ d12 d13 d14 d15 d16 (sc := ws) (by omega) (fun _ h => kept01 h) (fun _ h => good01 h) ⟨by show (1 + claimMargin) + 1 + 4 < recursionLimit; decide, by show 4 + 3 + 10 * 4 + 400 < cLine; decide, rfl⟩ (fEnv_ok dl.good).2 (fEnv_ok dl.good).1 rfl F) (fun fl s'' ⟨e, m, kp⟩ => ?_) (fun _ _ h => h)
      subst e
      exact GoodW.toG ⟨.inl ⟨_, _, [], rfl, fun _ => rfl, ReadsW.bool _, (by kernel_rfl), fun _ => ⟨List.nodup_nil, fun _ h => nomatch h⟩⟩, kp, (hsm.trans m).os, (hsm.trans m).gens.trans hg⟩) fa hmg))
end Mine
open PySem PySem.W PyProof.Rows
theorem PySem.Challenge.cw_ab5006_01_holds : PySem.Challenge.rw_ab5006_01.Holds :=
  Mine.j01
