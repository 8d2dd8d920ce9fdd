import PyProof.Rows.All
import Wide.All
import OpenK.AllK
import Wide.FinOn
import PySem.Challenge.RW_oy0100_01
open PySem PySem.W PyProof.Rows PySem.Calls PySem.Spec
set_option Elab.async false
set_option linter.unusedVariables false
namespace Mine
/-- the text's statements, all but the four that name it -/
noncomputable def bd : List Stmt := PySem.Challenge.pw_oy0100_01.main.body
noncomputable def vw : Program := { PySem.Challenge.pw_oy0100_01 with main := { PySem.Challenge.pw_oy0100_01.main with body := (bd.drop 1).take 2 ++ ((bd.drop 4).take 10 ++ ((bd.drop 15).take 23 ++ bd.drop 39)) } }
/-- data by value -/
inductive D where
  | int (i : Int)
  | bool (b : Bool)
  | str (s : Str)
  | none
  | list (l : List D)
  | tup (l : List D)

mutual
/-- in the heap h the value v stands for the datum d -/
inductive Is (h : Heap) : Value → D → Prop
  | int {i t} : Is h (.int i t) (.int i)
  | bool {b} : Is h (.bool b) (.bool b)
  | str {x t} : Is h (.str x t) (.str x)
  | none : Is h .none .none
  | list {a vs ds} : h.IsList a vs.toArray → IsL h vs ds → Is h (.ref a) (.list ds)
  | tup {a vs ds} : IsTup h a vs.toArray → IsL h vs ds → Is h (.ref a) (.tup ds)
inductive IsL (h : Heap) : List Value → List D → Prop
  | nil : IsL h [] []
  | cons {v d vs ds} : Is h v d → IsL h vs ds → IsL h (v :: vs) (d :: ds)
end

abbrev Kp (h h' : Heap) : Prop := ∀ b o, h.get? b = some o → h'.get? b = some o
theorem Kp.refl (h : Heap) : Kp h h := fun _ _ e => e
theorem Kp.trans {a b c : Heap} (x : Kp a b) (y : Kp b c) : Kp a c := fun i o e => y i o (x i o e)
theorem Kp.push (h : Heap) (o : Obj) : Kp h (h.push o) := fun _ _ e => Heap.get?_push_of_some o e

/-- every list or tuple of h lies in h' -/
noncomputable def KpS (h h' : Heap) : Prop := ∀ b o vs n, h.get? b = some o → o.data = .seq vs n → h'.get? b = some o
theorem Kp.s {h h' : Heap} (k : Kp h h') : KpS h h' := fun b o _ _ e _ => k b o e
theorem KpS.trans {a b c : Heap} (x : KpS a b) (y : KpS b c) : KpS a c := fun i o v n e d => y i o v n (x i o v n e d) d
theorem KpS.but_dict {h h' : Heap} {a : Addr} {m} (hn : h.Ns a m) (hs : Heap.SameBut a h h') : KpS h h' := fun b o vs n e hd => by
  obtain ⟨o', es, ep, ho, hd', _⟩ := hn
  refine (hs.2 b ?_).trans e
  rintro rfl
  rw [ho] at e; cases e
  rw [hd'] at hd; cases hd
theorem KpS.but_cell {h h' : Heap} {a : Addr} {v} (hn : h.IsCell a v) (hs : Heap.SameBut a h h') : KpS h h' := fun b o vs n e hd => by
  obtain ⟨o', ho, hd'⟩ := hn
  refine (hs.2 b ?_).trans e
  rintro rfl
  rw [ho] at e; cases e
  rw [hd'] at hd; cases hd

mutual
theorem Is.keepsS {h h' : Heap} (k : KpS h h') : ∀ {v d}, Is h v d → Is h' v d
  | _, _, .int => .int
  | _, _, .bool => .bool
  | _, _, .str => .str
  | _, _, .none => .none
  | _, _, .list ⟨o, e, c, n, hd⟩ r => .list ⟨o, k _ _ _ _ e hd, c, n, hd⟩ (IsL.keepsS k r)
  | _, _, .tup ⟨o, e, c, n, hd⟩ r => .tup ⟨o, k _ _ _ _ e hd, c, n, hd⟩ (IsL.keepsS k r)
theorem IsL.keepsS {h h' : Heap} (k : KpS h h') : ∀ {v d}, IsL h v d → IsL h' v d
  | _, _, .nil => .nil
  | _, _, .cons a r => .cons (a.keepsS k) (r.keepsS k)
end
theorem Is.keeps {h h' : Heap} (k : Kp h h') {v d} (x : Is h v d) : Is h' v d := x.keepsS k.s
theorem IsL.keeps {h h' : Heap} (k : Kp h h') {v d} (x : IsL h v d) : IsL h' v d := x.keepsS k.s
theorem IsL.length {h : Heap} : ∀ {vs ds}, IsL h vs ds → vs.length = ds.length
  | _, _, .nil => rfl
  | _, _, .cons _ r => by simp [r.length]
theorem IsL.get {h : Heap} : ∀ {vs ds}, IsL h vs ds → ∀ {i : Nat} {d : D}, ds[i]? = some d → ∃ v, vs[i]? = some v ∧ Is h v d
  | _, _, .nil, _, _, e => by simp at e
  | _, _, .cons a r, 0, _, e => by simp at e; subst e; exact ⟨_, rfl, a⟩
  | _, _, .cons a r, i + 1, _, e => by
    obtain ⟨v, h1, h2⟩ := r.get (i := i) (by simpa using e)
    exact ⟨v, by simpa using h1, h2⟩
theorem IsL.append {h : Heap} : ∀ {vs ds}, IsL h vs ds → ∀ {vs' ds'}, IsL h vs' ds' → IsL h (vs ++ vs') (ds ++ ds')
  | _, _, .nil, _, _, y => y
  | _, _, .cons a r, _, _, y => .cons a (r.append y)
theorem IsL.snoc {h : Heap} {vs ds v d} (x : IsL h vs ds) (y : Is h v d) : IsL h (vs ++ [v]) (ds ++ [d]) := x.append (.cons y .nil)
theorem IsL.reverse {h : Heap} : ∀ {vs ds}, IsL h vs ds → IsL h vs.reverse ds.reverse
  | _, _, .nil => .nil
  | _, _, .cons a r => by simpa using r.reverse.append (.cons a .nil)

/-- what a value is to meet, kept while lists and tuples stand and tokens go on -/
structure Pd where
  P : Heap → Nat → Value → Prop
  mono : ∀ {h h' k k' v}, KpS h h' → k ≤ k' → P h k v → P h' k' v
noncomputable def is (d : D) : Pd := ⟨fun h _ v => Is h v d, fun k _ x => x.keepsS k⟩
noncomputable def same (v : Value) : Pd := ⟨fun _ _ u => u = v, fun _ _ x => x⟩
theorem Pd.keeps (p : Pd) {h h' : Heap} {k k' : Nat} {v : Value} (x : p.P h k v) (hk : Kp h h') (hl : k ≤ k') : p.P h' k' v := p.mono hk.s hl x
inductive All (h : Heap) (k : Nat) : List Value → List Pd → Prop
  | nil : All h k [] []
  | cons {v p vs ps} : p.P h k v → All h k vs ps → All h k (v :: vs) (p :: ps)
theorem All.keeps {h h' : Heap} {k k' : Nat} (hk : Kp h h') (hl : k ≤ k') : ∀ {vs ps}, All h k vs ps → All h' k' vs ps
  | _, _, .nil => .nil
  | _, _, .cons (p := p) a r => .cons (p.keeps a hk hl) (r.keeps hk hl)
theorem All.isL {h : Heap} {k : Nat} : ∀ {vs} {ds : List D}, All h k vs (ds.map is) → IsL h vs ds
  | _, [], .nil => .nil
  | _, _ :: _, .cons a r => .cons a (All.isL r)
theorem All.of_isL {h : Heap} {k : Nat} : ∀ {vs} {ds : List D}, IsL h vs ds → All h k vs (ds.map is)
  | _, [], .nil => .nil
  | _, _ :: _, .cons a r => .cons a (All.of_isL r)

/-- what stands at the text's top -/
structure Base where
  prog : Program
  w : World
  b₀ : Heap
  view : Program
  loose : List Str
  mean : ExcName → Option Value
  mg : Str → Option Value
  mb : Str → Option Value
  T : Top view loose mean mg mb b₀
  lo : Nat

noncomputable def Room (A : Around) (n : Nat) : Prop := A.handled = none ∧ A.depth + n < recursionLimit ∧ A.units + 8 * n + 64 < cLine
theorem Room.deeper {A : Around} {n : Nat} {env : Env} (r : Room A (n + 1)) : Room (A.deeper env) n :=
  ⟨r.1, by have := r.2.1; show A.depth + 1 + n < _; omega, by have := r.2.2; show A.units + 3 + 8 * n + 64 < _; omega⟩
theorem Room.le {A : Around} {n k : Nat} (r : Room A n) (h : k ≤ n) : Room A k := ⟨r.1, by have := r.2.1; omega, by have := r.2.2; omega⟩
theorem Room.depth {A : Around} {n : Nat} (r : Room A n) : A.depth < recursionLimit := by have := r.2.1; omega
theorem Room.units {A : Around} {n : Nat} (r : Room A n) : A.units + 64 < cLine := by have := r.2.2; omega

theorem toks_go {α : Type} {M : Model} {A : Around} {t : Sem α} {Q : α → Shared → Prop} {E : Value → Shared → Prop} {s : Shared} (h : wpAny M A t (fun a s' => s.toks ≤ s'.toks → Q a s') E s) : wpAny M A t Q E s :=
  wpAny_mono (wpAny_toks_of (Nat.le_refl _) h) (fun _ _ x => x.2 x.1) fun _ _ x => x.2

noncomputable def VarIs (env : Env) (h : Heap) (k : Nat) (m : Str → Option Value) (x : Str) (p : Pd) : Prop :=
  ∃ v, p.P h k v ∧ ((env.kindOf x = some .local ∧ m x = some v) ∨ (env.kindOf x = some .cell ∧ ∃ c, env.cells.lookup x = some c ∧ h.IsCell c (some v)))

structure EnvOk (env : Env) : Prop where
  g : env.globals = mainGlobals
  b : env.builtins = builtinsNs
  k : env.scope.kind = .function

abbrev Rho := List (Str × Pd)
structure Rd (B : Base) (env : Env) (h : Heap) (k : Nat) (ρ : Rho) : Prop where
  ok : EnvOk env
  base : Kp B.b₀ h
  pos : B.lo ≤ k
  ns : ∃ m, h.Ns env.locals m ∧ ∀ x d, (x, d) ∈ ρ → VarIs env h k m x d
theorem Rd.keeps {B : Base} {env : Env} {h h' : Heap} {k k' : Nat} {ρ : Rho} (r : Rd B env h k ρ) (hk : Kp h h') (hl : k ≤ k') : Rd B env h' k' ρ := by
  obtain ⟨m, hn, hv⟩ := r.ns
  refine ⟨r.ok, r.base.trans hk, Nat.le_trans r.pos hl, m, hn.keeps hk, fun x d hm => ?_⟩
  obtain ⟨v, hi, hw⟩ := hv x d hm
  refine ⟨v, d.keeps hi hk hl, hw.imp id fun ⟨hk', c, hc, hcell⟩ => ⟨hk', c, hc, hcell.keeps hk⟩⟩
theorem Rd.sub {B : Base} {env : Env} {h : Heap} {k : Nat} {ρ ρ' : Rho} (r : Rd B env h k ρ) (hs : ∀ p ∈ ρ', p ∈ ρ) : Rd B env h k ρ' := by
  obtain ⟨m, hn, hv⟩ := r.ns
  exact ⟨r.ok, r.base, r.pos, m, hn, fun x d hm => hv x d (hs _ hm)⟩

section
variable (B : Base)
/-- the expression meets p where the names meet ρ; it makes new objects alone -/
noncomputable def Ev (n : Nat) (env : Env) (ρ : Rho) (e : Expr) (p : Pd) : Prop :=
  ∀ (A : Around) (s : Shared) (Q E : Value → Shared → Prop), Room A n → Rd B env s.heap s.toks ρ →
    (∀ v h' tk', Kp s.heap h' → s.toks ≤ tk' → p.P h' tk' v → Q v { s with heap := h', toks := tk' }) → wpAny (model B.prog B.w) A (eval e env) Q E s
/-- an int of a token of its own -/
noncomputable def EvF (n : Nat) (env : Env) (ρ : Rho) (e : Expr) (i : Int) : Prop :=
  ∀ (A : Around) (s : Shared) (Q E : Value → Shared → Prop), Room A n → Rd B env s.heap s.toks ρ →
    (∀ t h' tk', Kp s.heap h' → s.toks ≤ t → t < tk' → Q (.int i t) { s with heap := h', toks := tk' }) → wpAny (model B.prog B.w) A (eval e env) Q E s
/-- its truth -/
noncomputable def Tr (n : Nat) (env : Env) (ρ : Rho) (e : Expr) (b : Bool) : Prop :=
  ∀ (A : Around) (s : Shared) (Q : Bool → Shared → Prop) (E : Value → Shared → Prop), Room A n → Rd B env s.heap s.toks ρ →
    (∀ h' tk', Kp s.heap h' → s.toks ≤ tk' → Q b { s with heap := h', toks := tk' }) → wpAny (model B.prog B.w) A (isTrue e env (eval e env)) Q E s
/-- several, from the left -/
noncomputable def EvL (n : Nat) (env : Env) (ρ : Rho) (es : List Expr) (ps : List Pd) : Prop :=
  ∀ (A : Around) (s : Shared) (pos : Pos) (Q : List Value → Shared → Prop) (E : Value → Shared → Prop), Room A n → Rd B env s.heap s.toks ρ →
    (∀ vs h' tk', Kp s.heap h' → s.toks ≤ tk' → All h' tk' vs ps → Q vs { s with heap := h', toks := tk' }) → wpAny (model B.prog B.w) A (spliced (backTo pos (starEach es env))) Q E s
/-- a def of the text's, called -/
noncomputable def Fn (n : Nat) (x : Str) (ps : List Pd) (p : Pd) : Prop :=
  ∃ a o fd, B.mg x = some (.ref a) ∧ B.b₀.get? a = some o ∧ o.data = .func fd ∧
  ∀ (A : Around) (s : Shared) (vs : List Value) (Q E : Value → Shared → Prop), Room A n → Kp B.b₀ s.heap → B.lo ≤ s.toks → All s.heap s.toks vs ps →
    (∀ v h' tk', Kp s.heap h' → s.toks ≤ tk' → p.P h' tk' v → Q v { s with heap := h', toks := tk' }) → wpAny (model B.prog B.w) A (call (.ref a) vs) Q E s
noncomputable def FnF (n : Nat) (x : Str) (ps : List Pd) (i : Int) : Prop :=
  ∃ a o fd, B.mg x = some (.ref a) ∧ B.b₀.get? a = some o ∧ o.data = .func fd ∧
  ∀ (A : Around) (s : Shared) (vs : List Value) (Q E : Value → Shared → Prop), Room A n → Kp B.b₀ s.heap → B.lo ≤ s.toks → All s.heap s.toks vs ps →
    (∀ t h' tk', Kp s.heap h' → s.toks ≤ t → t < tk' → Q (.int i t) { s with heap := h', toks := tk' }) → wpAny (model B.prog B.w) A (call (.ref a) vs) Q E s
end

section
variable {B : Base} {n : Nat} {env : Env} {ρ : Rho}

theorem Ev.mono {e : Expr} {p q : Pd} (x : Ev B n env ρ e p) (h : ∀ hp k v, p.P hp k v → q.P hp k v) : Ev B n env ρ e q :=
  fun A s Q E ro rd hq => x A s Q E ro rd fun v h' tk' k l i => hq v h' tk' k l (h _ _ _ i)
theorem Ev.le {m : Nat} {e : Expr} {p : Pd} (x : Ev B n env ρ e p) (h : n ≤ m) : Ev B m env ρ e p := fun A s Q E ro rd hq => x A s Q E (ro.le h) rd hq
theorem EvF.ev {e : Expr} {i : Int} (x : EvF B n env ρ e i) : Ev B n env ρ e (is (.int i)) :=
  fun A s Q E ro rd hq => x A s Q E ro rd fun t h' tk' k l1 l2 => hq _ h' tk' k (Nat.le_trans l1 (Nat.le_of_lt l2)) .int
theorem Ev.const_int {i : Int} {k : Nat} {pos : Pos} : Ev B n env ρ (.Constant (.int i) k pos) (is (.int i)) :=
  fun _ _ _ _ _ _ h => wpAny_Constant_int (h _ _ _ (Kp.refl _) (Nat.le_succ _) .int)
theorem Ev.const_str {x : Str} {k : Nat} {pos : Pos} : Ev B n env ρ (.Constant (.str x) k pos) (is (.str x)) :=
  fun _ _ _ _ _ _ h => Constant_str (h _ _ _ (Kp.refl _) (Nat.le_succ _) .str)
theorem Ev.const_bool {b : Bool} {k : Nat} {pos : Pos} : Ev B n env ρ (.Constant (.bool b) k pos) (is (.bool b)) :=
  fun _ s _ _ _ _ h => Constant_bool (h (.bool b) s.heap s.toks (Kp.refl _) (Nat.le_refl _) .bool)

theorem Ev.name {x : Str} {pos : Pos} {p : Pd} (hm : (x, p) ∈ ρ) (hd : (x == ("__debug__" : Str)) = false := by decide) : Ev B n env ρ (.Name x pos) p :=
  fun _ s Q _ _ r h => by
    obtain ⟨m, hn, hv⟩ := r.ns
    obtain ⟨v, hi, hw⟩ := hv x p hm
    have hq : Q v s := h v s.heap s.toks (Kp.refl _) (Nat.le_refl _) hi
    rcases hw with ⟨hl, e⟩ | ⟨hl, c, hc, hcell⟩
    · exact wpAny_Name (wpAny_loadName_local r.ok.k hl hn e hq) hd
    · exact wpAny_Name (wpAny_loadName_cell r.ok.k hl hc hcell hq) hd

/-- a binary operator by a rule for its two values -/
noncomputable def Op2 (B : Base) (op : Operator) (a b c : Pd) : Prop :=
  ∀ (A : Around) (s : Shared) (u v : Value) (Q E : Value → Shared → Prop), A.handled = none → a.P s.heap s.toks u → b.P s.heap s.toks v →
    (∀ v h' tk', Kp s.heap h' → s.toks ≤ tk' → c.P h' tk' v → Q v { s with heap := h', toks := tk' }) → wpAny (model B.prog B.w) A (binaryOp op u v) Q E s
noncomputable def Op2F (B : Base) (op : Operator) (a b : Int) (c : Int) : Prop :=
  ∀ (A : Around) (s : Shared) (t u : Tok) (Q E : Value → Shared → Prop), A.handled = none →
    (∀ t tk', s.toks ≤ t → t < tk' → Q (.int c t) { s with toks := tk' }) → wpAny (model B.prog B.w) A (binaryOp op (.int a t) (.int b u)) Q E s
theorem Ev.bin {l r : Expr} {op : Operator} {pos : Pos} {a b c : Pd} (ho : Op2 B op a b c) (hl : Ev B n env ρ l a) (hr : Ev B n env ρ r b) : Ev B n env ρ (.BinOp l op r pos) c :=
  fun A s Q E ro rd h => wpAny_BinOp (hl A s _ E ro rd fun u h₁ tk₁ k₁ l₁ i₁ => hr A _ _ E ro (rd.keeps k₁ l₁) fun v h₂ tk₂ k₂ l₂ i₂ =>
    ho A _ u v Q E ro.1 (a.keeps i₁ k₂ l₂) i₂ fun w h₃ tk₃ k₃ l₃ i₃ => h w h₃ tk₃ ((k₁.trans k₂).trans k₃) (Nat.le_trans (Nat.le_trans l₁ l₂) l₃) i₃)
theorem EvF.bin {l r : Expr} {op : Operator} {pos : Pos} {a b c : Int} (ho : Op2F B op a b c) (hl : Ev B n env ρ l (is (.int a))) (hr : Ev B n env ρ r (is (.int b))) : EvF B n env ρ (.BinOp l op r pos) c :=
  fun A s Q E ro rd h => wpAny_BinOp (hl A s _ E ro rd fun u h₁ tk₁ k₁ l₁ i₁ => hr A _ _ E ro (rd.keeps k₁ l₁) fun v h₂ tk₂ k₂ l₂ i₂ => by
    cases i₁; cases i₂
    exact ho A _ _ _ Q E ro.1 fun t tk' l3 l4 => h t h₂ tk' (k₁.trans k₂) (Nat.le_trans (Nat.le_trans l₁ l₂) l3) l4)

theorem op_add {a b : Int} : Op2F B .Add a b (a + b) := fun _ s _ _ _ _ _ h => add_int (h _ _ (Nat.le_refl _) (Nat.lt_succ_self _))
theorem op_sub {a b : Int} : Op2F B .Sub a b (a - b) := fun _ s _ _ _ _ _ h => sub_int (h _ _ (Nat.le_refl _) (Nat.lt_succ_self _))
theorem op_mod {a b : Int} (hb : b ≠ 0) : Op2F B .Mod a b (a.fmod b) := fun _ s _ _ _ _ _ h => mod_int hb (h _ _ (Nat.le_refl _) (Nat.lt_succ_self _))
theorem op_div {a b : Int} (hb : b ≠ 0) (hs : b.natAbs < 1073741824) : Op2F B .FloorDiv a b (a.fdiv b) := fun _ s _ _ _ _ _ h =>
  floordiv_int hb (h _ _ (Nat.le_refl _) (Nat.lt_succ_self _)) (hp := .inl (PyProof.noPylong_small hs))
theorem op_and {a b : Int} : Op2F B .BitAnd a b (Builtin.bitAnd a b) := fun _ s _ _ _ _ _ h => and_int (h _ _ (Nat.le_refl _) (Nat.lt_succ_self _))
theorem op_or {a b : Int} : Op2F B .BitOr a b (Builtin.bitOr a b) := fun _ s _ _ _ _ _ h => or_int (h _ _ (Nat.le_refl _) (Nat.lt_succ_self _))
theorem op_xor {a b : Int} : Op2F B .BitXor a b (Builtin.bitXor a b) := fun _ s _ _ _ _ _ h => xor_int (h _ _ (Nat.le_refl _) (Nat.lt_succ_self _))
theorem op_shl {a b : Int} (hn : 0 ≤ b) (hn2 : b ≤ 1000000) (ha : a.natAbs < 2 ^ 64) : Op2F B .LShift a b (a * 2 ^ b.toNat) := fun _ s _ _ _ _ _ h =>
  lshift_int_small hn hn2 ha (h _ _ (Nat.le_refl _) (Nat.lt_succ_self _))
end
section
variable {B : Base} {n : Nat} {env : Env} {ρ : Rho}

theorem op_mul {a b : Int} (h : IntMulOk a b) : Op2F B .Mult a b (a * b) := fun _ s _ _ _ _ _ hq => mul_int (hq _ _ (Nat.le_refl _) (Nat.lt_succ_self _)) h
theorem op_shr {a b : Int} (ha : 0 ≤ a) (hb : 0 ≤ b) : Op2F B .RShift a b (a.fdiv (2 ^ b.toNat)) := fun _ s _ _ _ _ _ hq => by
  by_cases hc : b ≥ ((Builtin.Int.intBits a : Nat) : Int)
  · refine AutoIntOps.rshift_1 (by omega) hc ?_
    have h1 : a.natAbs < 2 ^ b.toNat := intBits_le_iff.mp (by omega)
    have h2 : a.fdiv (2 ^ b.toNat) = 0 := by
      have h3 : a < 2 ^ b.toNat := by
        have : ((a.natAbs : Nat) : Int) < ((2 ^ b.toNat : Nat) : Int) := by exact_mod_cast h1
        rw [kbt_cast] at this
        omega
      rw [Int.fdiv_eq_ediv_of_nonneg _ (Int.le_of_lt (kbt_pos _))]
      exact Int.ediv_eq_zero_of_lt ha h3
    have h4 := hq s.toks (s.toks + 1) (Nat.le_refl _) (Nat.lt_succ_self _)
    rw [h2] at h4
    rw [if_neg (by omega)]
    exact h4
  · exact AutoIntOps.rshift_2 (by omega) hc (hq _ _ (Nat.le_refl _) (Nat.lt_succ_self _))

theorem EvF.neg {e : Expr} {pos : Pos} {a : Int} (h : Ev B n env ρ e (is (.int a))) : EvF B n env ρ (.UnaryOp .USub e pos) (-a) :=
  fun A s Q E ro rd hq => UnaryOp_ (h A s _ E ro rd fun v h₁ tk₁ k₁ l₁ i₁ => by
    cases i₁
    exact PyProof.Rows.neg_int (hq _ h₁ _ k₁ l₁ (Nat.lt_succ_self _)))

/-- a comparison by a rule for its two values -/
noncomputable def Cm (B : Base) (op : CmpOp) (a b : Pd) (c : Bool) : Prop :=
  ∀ (A : Around) (s : Shared) (u v : Value) (Q E : Value → Shared → Prop), A.handled = none → A.units + 64 < cLine → a.P s.heap s.toks u → b.P s.heap s.toks v → Kp B.b₀ s.heap →
    (∀ h' tk', Kp s.heap h' → s.toks ≤ tk' → Q (.bool c) { s with heap := h', toks := tk' }) → wpAny (model B.prog B.w) A (compareOp op u v) Q E s
theorem Ev.cmp {l r : Expr} {op : CmpOp} {pos : Pos} {a b : Pd} {c : Bool} (ho : Cm B op a b c) (hl : Ev B n env ρ l a) (hr : Ev B n env ρ r b) (hm : behindInMarks op r = false := by with_unfolding_all rfl) :
    Ev B n env ρ (.Compare l [op] [r] pos) (is (.bool c)) :=
  fun A s Q E ro rd h => wpAny_Compare1 (hl A s _ E ro rd fun u h₁ tk₁ k₁ l₁ i₁ => hr A _ _ E ro (rd.keeps k₁ l₁) fun v h₂ tk₂ k₂ l₂ i₂ =>
    ho A _ u v Q E ro.1 ro.units (a.keeps i₁ k₂ l₂) i₂ (rd.base.trans (k₁.trans k₂)) fun h₃ tk₃ k₃ l₃ => h _ h₃ tk₃ ((k₁.trans k₂).trans k₃) (Nat.le_trans (Nat.le_trans l₁ l₂) l₃) .bool) hm
theorem Tr.cmp {l r : Expr} {op : CmpOp} {pos : Pos} {a b : Pd} {c : Bool} (ho : Cm B op a b c) (hl : Ev B n env ρ l a) (hr : Ev B n env ρ r b) (hm : behindInMarks op r = false := by with_unfolding_all rfl) :
    Tr B n env ρ (.Compare l [op] [r] pos) c :=
  fun A s Q E ro rd h => wpAny_isTrue_Compare1 (hl A s _ E ro rd fun u h₁ tk₁ k₁ l₁ i₁ => hr A _ _ E ro (rd.keeps k₁ l₁) fun v h₂ tk₂ k₂ l₂ i₂ =>
    ho A _ u v _ E ro.1 ro.units (a.keeps i₁ k₂ l₂) i₂ (rd.base.trans (k₁.trans k₂)) fun h₃ tk₃ k₃ l₃ => wpAny_truthy_bool (h h₃ tk₃ ((k₁.trans k₂).trans k₃) (Nat.le_trans (Nat.le_trans l₁ l₂) l₃))) hm

theorem cm_eq {a b : Int} : Cm B .Eq (is (.int a)) (is (.int b)) (a == b) := fun _ s _ _ _ _ _ _ i j _ h => by
  cases i; cases j; exact PyProof.Rows.eq_int (h _ _ (Kp.refl _) (Nat.le_refl _))
theorem cm_ne {a b : Int} : Cm B .NotEq (is (.int a)) (is (.int b)) (a != b) := fun _ s _ _ _ _ _ _ i j _ h => by
  cases i; cases j; exact PyProof.Rows.ne_int (h _ _ (Kp.refl _) (Nat.le_refl _))
theorem cm_lt {a b : Int} : Cm B .Lt (is (.int a)) (is (.int b)) (decide (a < b)) := fun _ s _ _ _ _ _ _ i j _ h => by
  cases i; cases j; exact PyProof.Rows.lt_int (h _ _ (Kp.refl _) (Nat.le_refl _))
theorem cm_gt {a b : Int} : Cm B .Gt (is (.int a)) (is (.int b)) (decide (b < a)) := fun _ s _ _ _ _ _ _ i j _ h => by
  cases i; cases j; exact PyProof.Rows.gt_int (h _ _ (Kp.refl _) (Nat.le_refl _))
theorem cm_eqs {a b : Str} : Cm B .Eq (is (.str a)) (is (.str b)) (a.cps.toList == b.cps.toList) := fun _ s _ _ _ _ _ _ i j _ h => by
  cases i; cases j; exact P.eq_str (h _ _ (Kp.refl _) (Nat.le_refl _))
theorem cm_nes {a b : Str} : Cm B .NotEq (is (.str a)) (is (.str b)) (a.cps.toList != b.cps.toList) := fun _ s _ _ _ _ _ _ i j _ h => by
  cases i; cases j; exact P.ne_str (h _ _ (Kp.refl _) (Nat.le_refl _))
theorem cm_ins {a b : Str} : Cm B .In (is (.str a)) (is (.str b)) (!(Builtin.Str.occurrences b a 0 b.length 1).isEmpty) := fun _ s _ _ _ _ _ _ i j _ h => by
  cases i; cases j; exact PyProof.Rows.in_str (h _ _ (Kp.refl _) (Nat.le_refl _))

theorem ints_are {h : Heap} : ∀ {vs : List Value} {ns : List Int}, IsL h vs (ns.map .int) → IntsAre vs ns
  | _, [], .nil => .nil
  | _, _ :: _, .cons .int r => .cons _ _ (ints_are r)
theorem are_ints {h : Heap} : ∀ {vs : List Value} {ns : List Int}, IntsAre vs ns → IsL h vs (ns.map .int)
  | _, _, .nil => .nil
  | _, _, .cons _ _ r => .cons .int (are_ints r)
/-- a list of ints -/
abbrev intsD (ns : List Int) : D := .list (ns.map .int)
theorem cm_inl {a : Int} {ns : List Int} : Cm B .In (is (.int a)) (is (intsD ns)) (ns.any (· == a)) := fun _ s _ _ _ _ _ _ i j _ h => by
  cases i
  cases j with | list hl r => exact in_list_ints hl (ints_are r) (h _ _ (Kp.refl _) (Nat.le_refl _))
theorem cm_eql {ns ms : List Int} : Cm B .Eq (is (intsD ns)) (is (intsD ms)) (decide (ns = ms)) := fun _ s _ _ _ _ _ hu i j _ h => by
  cases i with | list hl r => cases j with | list hl' r' => exact eq_intsK hl (ints_are r) hl' (ints_are r') hu (h _ _ (Kp.refl _) (Nat.le_refl _))
theorem cm_nel {ns ms : List Int} : Cm B .NotEq (is (intsD ns)) (is (intsD ms)) (!decide (ns = ms)) := fun _ s _ _ _ _ _ hu i j _ h => by
  cases i with | list hl r => cases j with | list hl' r' => exact ne_intsK hl (ints_are r) hl' (ints_are r') hu (h _ _ (Kp.refl _) (Nat.le_refl _))

theorem Tr.not {e : Expr} {pos : Pos} {b : Bool} (h : Tr B n env ρ e b) : Tr B n env ρ (.UnaryOp .Not e pos) (!b) :=
  fun A s Q E ro rd hq => isTrue_not (h A s _ E ro rd hq)
theorem Tr.or2 {e f : Expr} {pos : Pos} {b c : Bool} (h : Tr B n env ρ e b) (h' : b = false → Tr B n env ρ f c) : Tr B n env ρ (.BoolOp .Or [e, f] pos) (b || c) :=
  fun A s Q E ro rd hq => isTrue_or (h A s _ E ro rd fun h₁ tk₁ k₁ l₁ => by
    cases b with
    | true => exact hq h₁ tk₁ k₁ l₁
    | false => exact isTrue_or (h' rfl A _ _ E ro (rd.keeps k₁ l₁) fun h₂ tk₂ k₂ l₂ => by
        cases c with
        | true => exact hq h₂ tk₂ (k₁.trans k₂) (Nat.le_trans l₁ l₂)
        | false => exact isTrue_or_nil (hq h₂ tk₂ (k₁.trans k₂) (Nat.le_trans l₁ l₂))))
theorem Ev.or2 {e f : Expr} {pos : Pos} {b c : Bool} (h : Ev B n env ρ e (is (.bool b))) (h' : b = false → Ev B n env ρ f (is (.bool c))) : Ev B n env ρ (.BoolOp .Or [e, f] pos) (is (.bool (b || c))) :=
  fun A s Q E ro rd hq => BoolOp_or (h A s _ E ro rd fun v h₁ tk₁ k₁ l₁ i₁ => by
    cases i₁
    refine wpAny_truthy_bool ?_
    cases b with
    | true => exact hq _ h₁ tk₁ k₁ l₁ .bool
    | false => exact BoolOp_one (h' rfl A _ _ E ro (rd.keeps k₁ l₁) fun v h₂ tk₂ k₂ l₂ i₂ => hq v h₂ tk₂ (k₁.trans k₂) (Nat.le_trans l₁ l₂) (by simpa [is] using i₂)))
theorem Ev.ite {t a b : Expr} {pos : Pos} {c : Bool} {p : Pd} (h : Tr B n env ρ t c) (h1 : c = true → Ev B n env ρ a p) (h2 : c = false → Ev B n env ρ b p) : Ev B n env ρ (.IfExp t a b pos) p :=
  fun A s Q E ro rd hq => IfExp_ (h A s _ E ro rd fun h₁ tk₁ k₁ l₁ => by
    cases c with
    | true => exact h1 rfl A _ Q E ro (rd.keeps k₁ l₁) fun v h₂ tk₂ k₂ l₂ i₂ => hq v h₂ tk₂ (k₁.trans k₂) (Nat.le_trans l₁ l₂) i₂
    | false => exact h2 rfl A _ Q E ro (rd.keeps k₁ l₁) fun v h₂ tk₂ k₂ l₂ i₂ => hq v h₂ tk₂ (k₁.trans k₂) (Nat.le_trans l₁ l₂) i₂)
theorem EvF.ite {t a b : Expr} {pos : Pos} {c : Bool} {p : Int} (h : Tr B n env ρ t c) (h1 : c = true → EvF B n env ρ a p) (h2 : c = false → EvF B n env ρ b p) : EvF B n env ρ (.IfExp t a b pos) p :=
  fun A s Q E ro rd hq => IfExp_ (h A s _ E ro rd fun h₁ tk₁ k₁ l₁ => by
    cases c with
    | true => exact h1 rfl A _ Q E ro (rd.keeps k₁ l₁) fun v h₂ tk₂ k₂ l₂ i₂ => hq v h₂ tk₂ (k₁.trans k₂) (Nat.le_trans l₁ l₂) i₂
    | false => exact h2 rfl A _ Q E ro (rd.keeps k₁ l₁) fun v h₂ tk₂ k₂ l₂ i₂ => hq v h₂ tk₂ (k₁.trans k₂) (Nat.le_trans l₁ l₂) i₂)

theorem star_cons {e : Expr} (es : List Expr) (env : Env) (h : isStarred e = false) : starEach (e :: es) env = (false, eval e env) :: starEach es env := by
  cases e <;> first | rfl | cases h
/-- arguments -/
theorem EvL.nil : EvL B n env ρ [] [] := fun _ _ _ _ _ _ _ h => spliced_nil (h _ _ _ (Kp.refl _) (Nat.le_refl _) .nil)
theorem EvL.cons {e : Expr} {es : List Expr} {p : Pd} {ps : List Pd} (h : Ev B n env ρ e p) (t : EvL B n env ρ es ps) (hs : isStarred e = false := by rfl) : EvL B n env ρ (e :: es) (p :: ps) :=
  fun A s pos Q E ro rd hq => by
    rw [star_cons es env hs]
    show wpAny _ A (spliced ((false, eval e env) :: backTo pos (starEach es env))) Q E s
    refine spliced_cons (h A s _ E ro rd fun v h₁ tk₁ k₁ l₁ i₁ => t A _ pos _ E ro (rd.keeps k₁ l₁) fun vs h₂ tk₂ k₂ l₂ i₂ => ?_)
    exact hq _ h₂ tk₂ (k₁.trans k₂) (Nat.le_trans l₁ l₂) (.cons (p.keeps i₁ k₂ l₂) i₂)

/-- names of the top and of the interpreter -/
theorem glob_name {x : Str} {pos : Pos} {v : Value} {A : Around} {s : Shared} {Q E : Value → Shared → Prop} (rd : Rd B env s.heap s.toks ρ) (hx : env.kindOf x = some .globalImplicit) (hg : B.mg x = some v) (h : Q v s)
    (hd : (x == ("__debug__" : Str)) = false := by decide) : wpAny (model B.prog B.w) A (eval (.Name x pos) env) Q E s :=
  Name_function_global rd.ok.k hx (loadGlobal_global (by rw [rd.ok.g]; exact B.T.g.keeps rd.base) hg h) hd
theorem built_name {x : Str} {pos : Pos} {v : Value} {A : Around} {s : Shared} {Q E : Value → Shared → Prop} (rd : Rd B env s.heap s.toks ρ) (hx : env.kindOf x = some .globalImplicit) (hg : B.mg x = none) (hb : B.mb x = some v) (h : Q v s)
    (hd : (x == ("__debug__" : Str)) = false := by decide) : wpAny (model B.prog B.w) A (eval (.Name x pos) env) Q E s :=
  Name_function_global rd.ok.k hx (loadGlobal_builtin (by rw [rd.ok.g]; exact B.T.g.keeps rd.base) hg (by rw [rd.ok.b]; exact B.T.b.keeps rd.base) hb h) hd

theorem Ev.call {x : Str} {np pos : Pos} {e : Expr} {es : List Expr} {ps : List Pd} {p : Pd} (hf : Fn B n x ps p) (ha : EvL B n env ρ (e :: es) ps) (hx : env.kindOf x = some .globalImplicit := by rfl)
    (hs : isStarred e = false := by rfl) (hd : (x == ("__debug__" : Str)) = false := by decide) : Ev B n env ρ (.Call (.Name x np) (e :: es) [] pos) p :=
  fun A s Q E ro rd hq => by
    obtain ⟨a, o, fd, hg, ho, hdat, hc⟩ := hf
    refine Call_ (glob_name rd hx hg ?_ hd)
    refine callWith_function (o := o) (fd := fd) ?_
    have ha' := ha A s pos (fun vs s₁ => (s₁.heap.get? a = some o ∧ o.data = .func fd) ∧ wpAny (model B.prog B.w) A (PySem.call (.ref a) vs) Q E s₁) E ro rd fun vs h₁ tk₁ k₁ l₁ i₁ =>
      ⟨⟨(rd.base.trans k₁) _ _ ho, hdat⟩, hc A _ vs Q E ro (rd.base.trans k₁) (Nat.le_trans rd.pos l₁) i₁ fun v h₂ tk₂ k₂ l₂ i₂ => hq v h₂ tk₂ (k₁.trans k₂) (Nat.le_trans l₁ l₂) i₂⟩
    rw [star_cons es env hs] at ha' ⊢
    exact evalArgs_plain ha'
theorem EvF.call {x : Str} {np pos : Pos} {e : Expr} {es : List Expr} {ps : List Pd} {p : Int} (hf : FnF B n x ps p) (ha : EvL B n env ρ (e :: es) ps) (hx : env.kindOf x = some .globalImplicit := by rfl)
    (hs : isStarred e = false := by rfl) (hd : (x == ("__debug__" : Str)) = false := by decide) : EvF B n env ρ (.Call (.Name x np) (e :: es) [] pos) p :=
  fun A s Q E ro rd hq => by
    obtain ⟨a, o, fd, hg, ho, hdat, hc⟩ := hf
    refine Call_ (glob_name rd hx hg ?_ hd)
    refine callWith_function (o := o) (fd := fd) ?_
    have ha' := ha A s pos (fun vs s₁ => (s₁.heap.get? a = some o ∧ o.data = .func fd) ∧ wpAny (model B.prog B.w) A (PySem.call (.ref a) vs) Q E s₁) E ro rd fun vs h₁ tk₁ k₁ l₁ i₁ =>
      ⟨⟨(rd.base.trans k₁) _ _ ho, hdat⟩, hc A _ vs Q E ro (rd.base.trans k₁) (Nat.le_trans rd.pos l₁) i₁ fun v h₂ tk₂ k₂ l₂ i₂ => hq v h₂ tk₂ (k₁.trans k₂) (Nat.le_trans l₁ l₂) i₂⟩
    rw [star_cons es env hs] at ha' ⊢
    exact evalArgs_plain ha'

/-- a call of the interpreter's own, by a rule -/
noncomputable def Bi (B : Base) (f : Value) (ps : List Pd) (p : Pd) : Prop :=
  ∀ (A : Around) (s : Shared) (vs : List Value) (Q E : Value → Shared → Prop), A.handled = none → All s.heap s.toks vs ps →
    (∀ v h' tk', Kp s.heap h' → s.toks ≤ tk' → p.P h' tk' v → Q v { s with heap := h', toks := tk' }) → wpAny (model B.prog B.w) A (call f vs) Q E s
theorem Ev.callB {x : Str} {id : String} {np pos : Pos} {e : Expr} {es : List Expr} {ps : List Pd} {p : Pd} (hf : Bi B (.builtin id) ps p) (hg : B.mg x = none) (hb : B.mb x = some (.builtin id)) (ha : EvL B n env ρ (e :: es) ps)
    (hx : env.kindOf x = some .globalImplicit := by rfl)
    (hs : isStarred e = false := by rfl) (hpl : (backTo pos (starEach es env)).any (·.1) = false := by rfl) (hd : (x == ("__debug__" : Str)) = false := by decide) : Ev B n env ρ (.Call (.Name x np) (e :: es) [] pos) p :=
  fun A s Q E ro rd hq => by
    refine Call_ (built_name rd hx hg hb ?_ hd)
    have ha' := ha A s pos (fun vs s₁ => wpAny (model B.prog B.w) A (PySem.call (.builtin id) vs) Q E s₁) E ro rd fun vs h₁ tk₁ k₁ l₁ i₁ =>
      hf A _ vs Q E ro.1 i₁ fun v h₂ tk₂ k₂ l₂ i₂ => hq v h₂ tk₂ (k₁.trans k₂) (Nat.le_trans l₁ l₂) i₂
    rw [star_cons es env hs] at ha' ⊢
    exact callWith_builtin (by show (false || (backTo pos (starEach es env)).any (·.1)) = false; rw [hpl]; rfl) (evalArgs_plain ha')
end
section
variable {B : Base} {n : Nat} {env : Env} {ρ : Rho}

/-- len -/
theorem bi_len {ds : List D} (hsz : ds.length ≤ sizeLine) : Bi B (.builtin "len") [is (.list ds)] (is (.int ds.length)) := fun A s vs Q E hh al hq => by
  cases al with | cons i r =>
  cases r
  cases i with | list hl hr =>
  have e : hr.length = hr.length := rfl
  have hlen := hr.length
  refine call_len_list hl (by simp only [List.size_toArray, hlen]; have : sizeLine = 16777216 := sizeLine_eq; omega) ?_
  have := hq (.int ds.length (s.toks + 1)) s.heap (s.toks + 1 + 1) (Kp.refl _) (by omega) .int
  simpa only [List.size_toArray, hlen] using this
theorem bi_lens {x : Str} (hsz : x.length ≤ sizeLine) : Bi B (.builtin "len") [is (.str x)] (is (.int x.length)) := fun A s vs Q E hh al hq => by
  cases al with | cons i r =>
  cases r
  cases i
  exact P.len_str (by have : sizeLine = 16777216 := sizeLine_eq; omega) (hq _ s.heap _ (Kp.refl _) (by omega) .int)

/-- an item of a list, of a tuple, of a str -/
theorem Ev.item {v i : Expr} {pos : Pos} {ds : List D} {k : Int} {d : D} (hv : Ev B n env ρ v (is (.list ds))) (hi : Ev B n env ρ i (is (.int k))) (h0 : 0 ≤ k) (hk : k < 2 ^ 63) (hd : ds[k.toNat]? = some d)
    (hs : ∀ o j t, subscripted i false o (.int j t) = operate [o, .int j t] (getItem o (.int j t)) := by intro _ _ _; with_unfolding_all rfl) : Ev B n env ρ (.Subscript v i pos) (is d) :=
  fun A s Q E ro rd hq => Subscript_ (hv A s _ E ro rd fun u h₁ tk₁ k₁ l₁ i₁ => hi A _ _ E ro (rd.keeps k₁ l₁) fun w h₂ tk₂ k₂ l₂ i₂ => by
    cases i₂
    have i₁' := (is (.list ds)).keeps i₁ k₂ l₂
    cases i₁' with | list hl r =>
    obtain ⟨x, hx, hxi⟩ := r.get hd
    refine tail_any hl.typeIs slot_list_getitem.lookup (wpAny_getItem_list hl h0 hk (by simpa using hx) ?_) (hs _ _ _)
    exact hq x h₂ tk₂ (k₁.trans k₂) (Nat.le_trans l₁ l₂) hxi)
theorem Ev.itemT {v i : Expr} {pos : Pos} {ds : List D} {k : Int} {d : D} (hv : Ev B n env ρ v (is (.tup ds))) (hi : Ev B n env ρ i (is (.int k))) (h0 : 0 ≤ k) (hk : k < 2 ^ 63) (hd : ds[k.toNat]? = some d)
    (hs : ∀ o j t, subscripted i false o (.int j t) = operate [o, .int j t] (getItem o (.int j t)) := by intro _ _ _; with_unfolding_all rfl) : Ev B n env ρ (.Subscript v i pos) (is d) :=
  fun A s Q E ro rd hq => Subscript_ (hv A s _ E ro rd fun u h₁ tk₁ k₁ l₁ i₁ => hi A _ _ E ro (rd.keeps k₁ l₁) fun w h₂ tk₂ k₂ l₂ i₂ => by
    cases i₂
    have i₁' := (is (.tup ds)).keeps i₁ k₂ l₂
    cases i₁' with | tup hl r =>
    obtain ⟨x, hx, hxi⟩ := r.get hd
    have hlt : k.toNat < ds.length := by
      rcases Nat.lt_or_ge k.toNat ds.length with h | h
      · exact h
      · rw [List.getElem?_eq_none h] at hd; cases hd
    refine item_tupleT hl (by omega) hk (j := k.toNat) ?_ hx (hq x h₂ tk₂ (k₁.trans k₂) (Nat.le_trans l₁ l₂) hxi) (hs _ _ _)
    unfold seqIndex?
    rw [r.length]
    simp only [show ¬ k < 0 by omega, if_false]
    rw [if_pos (by simp; omega)])
theorem Ev.itemS {v i : Expr} {pos : Pos} {x : Str} {k : Int} {c : Nat} (hv : Ev B n env ρ v (is (.str x))) (hi : Ev B n env ρ i (is (.int k))) (h0 : 0 ≤ k) (hk : k < 2 ^ 63) (hc : x.cps[k.toNat]? = some c)
    (hs : ∀ o j t, subscripted i false o (.int j t) = operate [o, .int j t] (getItem o (.int j t)) := by intro _ _ _; with_unfolding_all rfl) : Ev B n env ρ (.Subscript v i pos) (is (.str ⟨#[c]⟩)) :=
  fun A s Q E ro rd hq => Subscript_ (hv A s _ E ro rd fun u h₁ tk₁ k₁ l₁ i₁ => hi A _ _ E ro (rd.keeps k₁ l₁) fun w h₂ tk₂ k₂ l₂ i₂ => by
    cases i₂
    cases i₁
    have hlt : k.toNat < x.length := by
      rcases Nat.lt_or_ge k.toNat x.cps.size with h | h
      · exact h
      · rw [Array.getElem?_eq_none h] at hc; cases hc
    refine tail_any (typeIs_str _ _ _) F.slot_str_getitem.lookup (P.getItem_str (by simp; omega) (c := c) ?_ ?_) (hs _ _ _)
    · unfold seqIndex?
      simp only [show ¬ k < 0 by omega, if_false]
      rw [if_pos (by simp; omega)]
      exact hc
    · exact hq _ h₂ _ (k₁.trans k₂) (Nat.le_succ_of_le (Nat.le_trans l₁ l₂)) .str)

/-- a part of a slice -/
noncomputable def EvP (B : Base) (n : Nat) (env : Env) (ρ : Rho) (e : Option Expr) (o : Option Int) : Prop :=
  ∀ (A : Around) (s : Shared) (Q E : Value → Shared → Prop), Room A n → Rd B env s.heap s.toks ρ →
    (∀ v h' tk', Kp s.heap h' → s.toks ≤ tk' → IsPart v o → Q v { s with heap := h', toks := tk' }) → wpAny (model B.prog B.w) A (evalPart e env) Q E s
theorem EvP.none : EvP B n env ρ none none := fun A s Q E ro rd hq => by rw [evalPart_none]; exact wpAny_pure (hq _ s.heap s.toks (Kp.refl _) (Nat.le_refl _) .none)
theorem EvP.some {e : Expr} {i : Int} (h : Ev B n env ρ e (is (.int i))) : EvP B n env ρ (.some e) (.some i) := fun A s Q E ro rd hq => by
  rw [evalPart_some]
  exact h A s Q E ro rd fun v h' tk' k l x => by cases x; exact hq _ h' tk' k l (.int _ _)
theorem Ev.slice {v : Expr} {lo hi st : Option Expr} {p pos : Pos} {ns : List Int} {a b c : Option Int} (hv : Ev B n env ρ v (is (intsD ns))) (h1 : EvP B n env ρ lo a) (h2 : EvP B n env ρ hi b) (h3 : EvP B n env ρ st c) (h0 : c ≠ .some 0)
    (hsz : ns.length ≤ sizeLine) (hs : ∀ o i, ∃ ops, subscripted (.Slice lo hi st p) false o i = operate ops (getItem o i) := by intro o i; exact ⟨_, rfl⟩) :
    Ev B n env ρ (.Subscript v (.Slice lo hi st p) pos) (is (intsD (pickNums ns a b c))) :=
  fun A s Q E ro rd hq => Subscript_ (hv A s _ E ro rd fun u h₁ tk₁ k₁ l₁ i₁ => wpAny_Slice (h1 A _ _ E ro (rd.keeps k₁ l₁) fun x h₂ tk₂ k₂ l₂ p₁ => h2 A _ _ E ro (rd.keeps (k₁.trans k₂) (Nat.le_trans l₁ l₂)) fun y h₃ tk₃ k₃ l₃ p₂ =>
    h3 A _ _ E ro (rd.keeps ((k₁.trans k₂).trans k₃) (Nat.le_trans (Nat.le_trans l₁ l₂) l₃)) fun z h₄ tk₄ k₄ l₄ p₃ => by
    have i' := (is (intsD ns)).keeps i₁ ((k₂.trans k₃).trans k₄) (Nat.le_trans (Nat.le_trans l₂ l₃) l₄)
    cases i' with | list hl r =>
    rename_i a vs
    obtain ⟨ops, hs⟩ := hs (.ref a) (.ref h₄.objs.size)
    have hi := ints_are r
    have hl' : (h₄.push { cls := .type "slice", data := .fields #[x, y, z] }).IsList a vs.toArray := hl.push _
    refine tail_any (Heap.IsList.typeIs (s := { s with heap := h₄.push { cls := .type "slice", data := .fields #[x, y, z] }, toks := tk₄ }) hl') slot_list_getitem.lookup
      (wpAny_getItem_list_slice hl' (Heap.IsSliceOf.new ..) p₁ p₂ p₃ h0 ?_ (by simp only [List.size_toArray]; rw [hi.length]; exact hsz)) hs
    refine hq _ _ tk₄ ((((k₁.trans k₂).trans k₃).trans k₄).trans ((Kp.push _ _).trans (Kp.push _ _))) (Nat.le_trans (Nat.le_trans (Nat.le_trans l₁ l₂) l₃) l₄) (Is.list (vs := (slicePick vs.toArray _ _ _).toList) ?_ (are_ints (hi.pick _ _ _)))
    exact ⟨_, Heap.get?_push_size _ rfl, rfl, 0, by simp⟩))

/-- displays -/
theorem Ev.list {es : List Expr} {pos : Pos} {ds : List D} (h : EvL B n env ρ es (ds.map is)) (hsz : ds.length ≤ sizeLine) : Ev B n env ρ (.List es pos) (is (.list ds)) :=
  fun A s Q E ro rd hq => List_ (h A s pos _ E ro rd fun vs h₁ tk₁ k₁ l₁ al => by
    have hi := al.isL
    refine wpAny_newObj_type ?_ (by show vs.toArray.size ≤ sizeLine; rw [List.size_toArray, hi.length]; exact hsz)
    exact hq _ _ tk₁ (k₁.trans (Kp.push _ _)) l₁ (.list ⟨_, Heap.get?_push_size _ rfl, rfl, _, rfl⟩ (hi.keeps (Kp.push _ _))))
theorem Ev.tup {es : List Expr} {k : Nat} {pos : Pos} {ds : List D} (h : EvL B n env ρ es (ds.map is)) (hsz : ds.length ≤ sizeLine) : Ev B n env ρ (.Tuple es k pos) (is (.tup ds)) :=
  fun A s Q E ro rd hq => Tuple_ (h A s pos _ E ro rd fun vs h₁ tk₁ k₁ l₁ al => by
    have hi := al.isL
    refine wpAny_newObj_type ?_ (by show vs.toArray.size ≤ sizeLine; rw [List.size_toArray, hi.length]; exact hsz)
    exact hq _ _ tk₁ (k₁.trans (Kp.push _ _)) l₁ (.tup ⟨_, Heap.get?_push_size _ rfl, rfl, _, rfl⟩ (hi.keeps (Kp.push _ _))))

/-- two lists joined -/
theorem op_cat {ds es : List D} (hsz : ds.length + es.length ≤ sizeLine) : Op2 B .Add (is (.list ds)) (is (.list es)) (is (.list (ds ++ es))) := fun A s u v Q E hh i j h => by
  cases i with | list hl r =>
  cases j with | list hb q =>
  rename_i l vs b ws
  obtain ⟨⟨cls, dd, data, sl⟩, ho, hc, n, hd⟩ := id hl
  obtain ⟨⟨cls2, dd2, data2, sl2⟩, ho2, hc2, n2, hd2⟩ := id hb
  simp only at hc hd hc2 hd2
  subst hc hd hc2 hd2
  have e : vs.toArray ++ ws.toArray = (vs ++ ws).toArray := by simp
  refine concat_meets ⟨_, ho, rfl⟩ ⟨_, ho2, rfl⟩ noFill_list_add seq_list_add PySem.F.slot_list_add PySem.F.entry_list_add (PySem.F.args_list_add_2 _ _) (list_addW l b vs.toArray ws.toArray n n2 dd dd2 sl sl2 (by simpa [r.length, q.length] using hsz)) ⟨ho, ho2, ?_⟩
  rw [e]
  exact h _ _ s.toks (Kp.push _ _) (Nat.le_refl _) (.list ⟨_, Heap.get?_push_size _ rfl, rfl, _, rfl⟩ ((r.append q).keeps (Kp.push _ _)))

/-- what is walked -/
structure Wk (B : Base) (A : Around) (h₀ : Heap) (items : List Pd) (I : Addr) (fp wr : List Addr) (P : Nat → Value → Prop) (St : Nat → Heap → Prop) (h : Heap) (k : Nat) : Prop where
  W : Walks B.prog B.w A I fp wr items.length P St
  sz : items.length ≤ sizeLine
  st : St 0 h
  lt : ∀ b ∈ fp, b < h.objs.size
  new : ∀ b ∈ wr, h₀.get? b = none
  kind : ∀ i h, St i h → ∀ b ∈ fp, ∃ o, h.get? b = some o ∧ ((∃ fs, o.data = .fields fs) ∨ ∃ vs n, o.data = .seq vs n)
  kindw : ∀ i h, St i h → ∀ b ∈ wr, ∃ o fs, h.get? b = some o ∧ o.data = .fields fs
  item : ∀ i v p, P i v → items[i]? = some p → p.P h k v
  quiet : ∀ i h, St i h → ∃ o nm, h.get? I = some o ∧ o.cls = .type nm ∧ (["enumerate", "zip", "dict_itemiterator", "dict_reverseitemiterator", "odict_iterator", "itertools.zip_longest", "itertools.pairwise"].contains nm) = false
noncomputable def It (B : Base) (n : Nat) (env : Env) (ρ : Rho) (e : Expr) (items : List Pd) : Prop :=
  ∀ (A : Around) (s : Shared) (Q E : Value → Shared → Prop), Room A n → Rd B env s.heap s.toks ρ →
    (∀ I fp wr P St h' tk', Wk B A s.heap items I fp wr P St h' tk' → Kp s.heap h' → s.toks ≤ tk' → Q (.ref I) { s with heap := h', toks := tk' }) →
    wpAny (model B.prog B.w) A (eval e env) (fun xv s₁ => wpAny (model B.prog B.w) A (pyIter xv) Q E s₁) E s

theorem It.tup {e : Expr} {ds : List D} (h : Ev B n env ρ e (is (.tup ds))) (hsz : ds.length ≤ sizeLine) : It B n env ρ e (ds.map is) :=
  fun A s Q E ro rd hq => h A s _ E ro rd fun v h₁ tk₁ k₁ l₁ i₁ => by
    cases i₁ with | tup hl r =>
    rename_i a vs
    have hlt : a < h₁.objs.size := by obtain ⟨_, e, _⟩ := hl; exact Heap.lt_size e
    refine wpAny_pyIter_tuple hl ?_
    have up := Kp.push h₁ { cls := .type "tuple_iterator", data := .fields #[.ref a, .int 0 0] }
    have W := Walks.tuple (prog := B.prog) (w := B.w) ro.1 h₁.objs.size a (Nat.ne_of_lt hlt) vs.toArray
    have hlen : vs.toArray.size = (ds.map is).length := by simp [r.length]
    rw [hlen] at W
    have hl' : (h₁.push { cls := .type "tuple_iterator", data := .fields #[.ref a, .int 0 0] }).IsTuple a vs.toArray := by obtain ⟨o, e, r⟩ := hl; exact ⟨o, up _ _ e, r⟩
    refine hq _ _ _ _ _ _ tk₁ ⟨W, by simpa using hsz, ⟨⟨_, Heap.get?_push_size _ rfl, rfl, rfl⟩, hl'⟩, fun b hb => ?_, fun b hb => ?_, fun i h st b hb => ?_, fun i h st b hb => ?_, fun i v p hP hp => ?_, fun i h st => ?_⟩ (k₁.trans up) l₁
    · rw [Heap.size_push]
      rcases List.mem_cons.mp hb with rfl | hb
      · exact Nat.lt_succ_self _
      · rw [List.mem_singleton.mp hb]; exact Nat.lt_succ_of_lt hlt
    · rw [List.mem_singleton.mp hb]
      cases q : s.heap.get? h₁.objs.size with
      | none => rfl
      | some o => exact absurd (Heap.lt_size (k₁ _ _ q)) (Nat.lt_irrefl _)
    · rcases List.mem_cons.mp hb with rfl | hb
      · obtain ⟨o, e, _, d⟩ := st.1; exact ⟨o, e, .inl ⟨_, d⟩⟩
      · rw [List.mem_singleton.mp hb]
        obtain ⟨o, e, _, n, d⟩ := st.2; exact ⟨o, e, .inr ⟨_, _, d⟩⟩
    · rw [List.mem_singleton.mp hb]
      obtain ⟨o, e, _, d⟩ := st.1; exact ⟨o, _, e, d⟩
    · simp only [List.getElem?_map, Option.map_eq_some_iff] at hp
      obtain ⟨d, hd, rfl⟩ := hp
      obtain ⟨v', hv', hi⟩ := r.get hd
      have : v' = v := by simpa [hv'] using hP
      subst this
      exact hi.keeps up
    · obtain ⟨o, e, c, _⟩ := st.1; exact ⟨o, _, e, c, by decide⟩

/-- the ints a, a + c, .. of a range -/
noncomputable def rangeD (a c : Int) (m : Nat) : List D := (List.range m).map fun (i : Nat) => D.int (a + i * c)
theorem range_wk {A : Around} {s : Shared} {h₁ : Heap} {tk₁ : Nat} {r : Addr} {a b c : Int} {t u v : Tok} {m : Nat} {Q E : Value → Shared → Prop} (hh : A.handled = none) (k₁ : Kp s.heap h₁) (l₁ : s.toks ≤ tk₁) (hr : IsRange h₁ r a b c t u v)
    (hsm : Builtin.Range.small a b c = true) (hn : Builtin.Range.rangeSize a b c = (m : Int)) (hsz : m ≤ sizeLine)
    (hq : ∀ I fp wr P St h' tk', Wk B A s.heap ((rangeD a c m).map is) I fp wr P St h' tk' → Kp s.heap h' → s.toks ≤ tk' → Q (.ref I) { s with heap := h', toks := tk' }) :
    wpAny (model B.prog B.w) A (pyIter (.ref r)) Q E { s with heap := h₁, toks := tk₁ } := by
  refine wpAny_pyIter_range hr hsm ?_
  rw [hn]
  have up := Kp.push h₁ { cls := .type "range_iterator", data := .fields #[rawInt a, rawInt (m : Int), rawInt c] }
  have W := Walks.range (prog := B.prog) (w := B.w) hh h₁.objs.size a c m
  have hlen : m = ((rangeD a c m).map is).length := by simp [rangeD]
  have W' : Walks B.prog B.w A h₁.objs.size _ _ ((rangeD a c m).map is).length _ _ := hlen ▸ W
  refine hq _ _ _ _ _ _ tk₁ ⟨W', by rw [← hlen]; exact hsz, ?_, fun b hb => ?_, fun b hb => ?_, fun i h st b hb => ?_, fun i h st b hb => ?_, fun i v p hP hp => ?_, fun i h st => ?_⟩ (k₁.trans up) l₁
  · show IsRangeIter _ _ _ _ _
    have e := Heap.get?_push_size h₁ (o := { cls := .type "range_iterator", data := .fields #[rawInt a, rawInt (m : Int), rawInt c] }) rfl
    have hl2 : (rangeD a c m).length = m := by simp [rangeD]
    unfold IsRangeIter
    simpa [hl2] using e
  · rw [List.mem_singleton.mp hb, Heap.size_push]; exact Nat.lt_succ_self _
  · rw [List.mem_singleton.mp hb]
    cases q : s.heap.get? h₁.objs.size with
    | none => rfl
    | some o => exact absurd (Heap.lt_size (k₁ _ _ q)) (Nat.lt_irrefl _)
  · rw [List.mem_singleton.mp hb]
    exact ⟨_, st, .inl ⟨_, rfl⟩⟩
  · rw [List.mem_singleton.mp hb]
    exact ⟨_, _, st, rfl⟩
  · obtain ⟨t, rfl⟩ := hP
    simp only [rangeD, List.map_map, List.getElem?_map, Option.map_eq_some_iff] at hp
    obtain ⟨j, hj, rfl⟩ := hp
    have : j = i := by
      have := List.getElem?_eq_some_iff.mp hj
      obtain ⟨hlt, e⟩ := this
      simpa using e.symm
    subst this
    exact .int
  · exact ⟨_, _, st, rfl, by decide⟩
theorem It.range1 {x : Str} {np pos : Pos} {e : Expr} {m : Nat} (h : Ev B n env ρ e (is (.int m))) (hg : B.mg x = none) (hb : B.mb x = some (.type "range")) (hsz : m ≤ 1000) (hx : env.kindOf x = some .globalImplicit := by rfl)
    (hs : starEach [e] env = [(false, eval e env)] := by rfl) (hst : isStarred e = false := by rfl) (hd : (x == ("__debug__" : Str)) = false := by decide) : It B n env ρ (.Call (.Name x np) [e] [] pos) ((rangeD 0 1 m).map is) :=
  fun A s Q E ro rd hq => by
    refine Call_ (built_name rd hx hg hb ?_ hd)
    have ha := (EvL.cons h EvL.nil hst) A s pos (fun vs s₁ => wpAny (model B.prog B.w) A (PySem.call (.type "range") vs) (fun xv s₂ => wpAny (model B.prog B.w) A (pyIter xv) Q E s₂) E s₁) E ro rd fun vs h₁ tk₁ k₁ l₁ al => by
      cases al with | cons i r =>
      cases r
      cases i
      refine call_range_1 ?_
      refine range_wk (s := s) (m := m) ro.1 (k₁.trans (Kp.push _ _)) (by show s.toks ≤ tk₁ + 1 + 1; omega) (IsRange.new ..) (small_one (by omega) (by omega) (by omega) (by omega)) ?_ (by rw [sizeLine_eq]; omega) hq
      rw [rangeSize_one]; split <;> omega
    rw [hs] at ha ⊢
    exact PyProof.Rows.callWith_type rfl (evalArgs_plain ha)
theorem It.range3 {x : Str} {np pos : Pos} {e1 e2 e3 : Expr} {a b c : Int} {m : Nat} (h1 : Ev B n env ρ e1 (is (.int a))) (h2 : Ev B n env ρ e2 (is (.int b))) (h3 : Ev B n env ρ e3 (is (.int c))) (hg : B.mg x = none) (hb : B.mb x = some (.type "range"))
    (hc : c ≠ 0) (hc2 : c.natAbs < 1073741824) (hsm : Builtin.Range.small a b c = true) (hn : Builtin.Range.rangeSize a b c = (m : Int)) (hsz : m ≤ 1000) (hx : env.kindOf x = some .globalImplicit := by rfl)
    (hs : starEach [e1, e2, e3] env = [(false, eval e1 env), (false, eval e2 env), (false, eval e3 env)] := by rfl) (ht1 : isStarred e1 = false := by rfl) (ht2 : isStarred e2 = false := by rfl) (ht3 : isStarred e3 = false := by rfl) (hd : (x == ("__debug__" : Str)) = false := by decide) :
    It B n env ρ (.Call (.Name x np) [e1, e2, e3] [] pos) ((rangeD a c m).map is) :=
  fun A s Q E ro rd hq => by
    refine Call_ (built_name rd hx hg hb ?_ hd)
    have ha := (EvL.cons h1 (EvL.cons h2 (EvL.cons h3 EvL.nil ht3) ht2) ht1) A s pos (fun vs s₁ => wpAny (model B.prog B.w) A (PySem.call (.type "range") vs) (fun xv s₂ => wpAny (model B.prog B.w) A (pyIter xv) Q E s₂) E s₁) E ro rd fun vs h₁ tk₁ k₁ l₁ al => by
      cases al with | cons i r =>
      cases r with | cons i2 r =>
      cases r with | cons i3 r =>
      cases r
      cases i; cases i2; cases i3
      refine call_range_3 hc ?_ (.inl (PyProof.noPylong_small hc2))
      exact range_wk (s := s) (m := m) ro.1 (k₁.trans (Kp.push _ _)) (by show s.toks ≤ tk₁; omega) (IsRange.new ..) hsm hn (by rw [sizeLine_eq]; omega) hq
    rw [hs] at ha ⊢
    exact PyProof.Rows.callWith_type rfl (evalArgs_plain ha)
end
theorem KpS.of_wr {h h' : Heap} {wr : List Addr} (hk : ∀ b o, b ∉ wr → h.get? b = some o → h'.get? b = some o) (hw : ∀ b ∈ wr, ∃ o fs, h.get? b = some o ∧ o.data = .fields fs) : KpS h h' := fun b o vs n e hd =>
  hk b o (fun hb => by obtain ⟨o', fs, e', d'⟩ := hw b hb; rw [e] at e'; cases e'; rw [hd] at d'; cases d') e
theorem cell_of_wr {h h' : Heap} {wr : List Addr} {c : Addr} {v : Option Value} (hk : ∀ b o, b ∉ wr → h.get? b = some o → h'.get? b = some o) (hw : ∀ b ∈ wr, ∃ o fs, h.get? b = some o ∧ o.data = .fields fs) (x : h.IsCell c v) : h'.IsCell c v := by
  obtain ⟨o, e, hd⟩ := x
  exact ⟨o, hk c o (fun hb => by obtain ⟨o', fs, e', d'⟩ := hw c hb; rw [e] at e'; cases e'; rw [hd] at d'; cases d') e, hd⟩
theorem ns_of_wr {h h' : Heap} {wr : List Addr} {c : Addr} {m} (hk : ∀ b o, b ∉ wr → h.get? b = some o → h'.get? b = some o) (hw : ∀ b ∈ wr, ∃ o fs, h.get? b = some o ∧ o.data = .fields fs) (x : h.Ns c m) : h'.Ns c m := by
  obtain ⟨o, es, ep, e, hd, r⟩ := x
  exact ⟨o, es, ep, hk c o (fun hb => by obtain ⟨o', fs, e', d'⟩ := hw c hb; rw [e] at e'; cases e'; rw [hd] at d'; cases d') e, hd, r⟩

/-- the names that a comprehension's block takes along -/
noncomputable def Taken (env : Env) (scope : Scope) (cl : List (Str × Addr)) (ρ ρc : Rho) : Prop :=
  ∀ y q, (y, q) ∈ ρc → (y, q) ∈ ρ ∧ env.kindOf y = some .cell ∧ (relabel scope env).names.lookup y = some .cell ∧ cl.lookup y = env.cells.lookup y

section
variable {B : Base} {n : Nat} {env : Env} {ρ ρc : Rho}

/-- a turn of a comprehension: the tests, then the element -/
noncomputable def Turn (B : Base) (n : Nat) (cenv : Env) (ρ' : Rho) (ifs : List Expr) (elt : Expr) (J0 J1 : Nat → Prop) (J2 : Value → Nat → Prop) : Prop :=
  ∀ (A : Around) (s : Shared) (E : Value → Shared → Prop), Room A n → Rd B cenv s.heap s.toks ρ' → J0 s.toks →
    wpAny (model B.prog B.w) A (forIn ifs true fun c r => if r = true then do let ok ← isTrue c cenv (eval c cenv); pure (ForInStep.yield ok) else pure (ForInStep.yield r))
      (fun ok s₃ => Keeps s s₃ ∧ if ok = true then wpAny (model B.prog B.w) A (eval elt cenv) (fun y s₄ => Keeps s₃ s₄ ∧ J2 y s₄.toks) E s₃ else J1 s₃.toks) E s

theorem comp_core {elt iter : Expr} {x : Str} {px : Pos} {ifs : List Expr} {scope : Scope} {cl : List (Str × Addr)} {pos : Pos} {A : Around} {E : Value → Shared → Prop} {h₀ : Heap} {s₂ : Shared} {I : Addr} {fp wr : List Addr} {P : Nat → Value → Prop}
    {St : Nat → Heap → Prop} {items : List Pd} (W : Wk B A h₀ items I fp wr P St s₂.heap s₂.toks) (ro : Room A n) (kh : Kp h₀ s₂.heap) (rd : Rd B env h₀ s₂.toks ρ) (J : Nat → List Value → Nat → Prop) {RR : Value → Addr → Result → Shared → Prop}
    (hcell : ∀ y ∈ scope.names, y.2 ≠ .cell) (hkind : scope.kind = .function) (hx : scope.names.lookup x = some .local) (ht : Taken env scope cl ρ ρc)
    (h0 : ∀ k, s₂.toks ≤ k → J 0 [] k) (hJ : ∀ i ys k k', J i ys k → k ≤ k' → J i ys k') (hJl : ∀ i ys k, J i ys k → ys.length ≤ i)
    (turn : ∀ i p v ys C, items[i]? = some p → Turn B n (compEnvC scope cl C env) ((x, same v) :: (x, p) :: ρc) ifs elt (J i ys) (J (i + 1) ys) (fun y k => J (i + 1) (ys ++ [y]) k))
    (hRR : ∀ D C h' tk m' ys, s₂.heap.get? D = none → s₂.heap.get? C = none → D ≠ C → h'.Ns C m' → h'.PlainList D ys.toArray → J items.length ys tk → s₂.toks ≤ tk →
      (∀ b o, b ∉ wr → s₂.heap.get? b = some o → h'.get? b = some o) → RR (.ref D) C (.ok .next) { s₂ with heap := h', toks := tk }) :
    wpAny (model B.prog B.w) A (newList []) (fun acc s₃ => wpAny (model B.prog B.w) A (newFunctionEnv scope env.globals cl [] env.qual none .none (some env)) (fun cenv s₄ =>
      codeAny (model B.prog B.w) A (.compStart (.ListComp elt [⟨.Name x px, iter, ifs, 0⟩] scope pos) 0 (.ref I) acc { cenv with scope := relabel scope env }) (RR acc cenv.locals) s₄) E s₃) E s₂ := by
  refine wpAny_newObj_type (wpAny_newFunctionEnv hcell (by intro y hy; simp at hy) (fun h₁ hns₁ hsb₁ => ?_) hkind)
  dsimp only at hns₁ hsb₁ ⊢
  generalize hH2 : s₂.heap.push { cls := .type "list", dict := none, data := .seq ([] : List Value).toArray } = H2 at hns₁ hsb₁ ⊢
  have hC : H2.objs.size = s₂.heap.objs.size + 1 := by rw [← hH2, Heap.size_push]
  have hDC : s₂.heap.objs.size ≠ H2.objs.size := by rw [hC]; exact Nat.ne_of_lt (Nat.lt_succ_self _)
  have below : ∀ b, b < s₂.heap.objs.size → b ≠ H2.objs.size ∧ b ≠ s₂.heap.objs.size := fun b hb => ⟨by rw [hC]; exact Nat.ne_of_lt (Nat.lt_succ_of_lt hb), Nat.ne_of_lt hb⟩
  have hDf : s₂.heap.objs.size ∉ fp := fun hm => Nat.lt_irrefl _ (W.lt _ hm)
  have hCf : H2.objs.size ∉ fp := fun hm => by have := W.lt _ hm; rw [hC] at this; exact Nat.lt_irrefl _ (Nat.lt_of_succ_lt this)
  have hCw : H2.objs.size ∉ wr := fun h => hCf (W.W.sub _ h)
  have hDw : s₂.heap.objs.size ∉ wr := fun h => hDf (W.W.sub _ h)
  have old : ∀ b o, s₂.heap.get? b = some o → h₁.get? b = some o := fun b o e => hsb₁.extBut b o (below b (Heap.lt_size e)).1 (Heap.get?_push_of_some _ (hH2 ▸ Heap.get?_push_of_some _ e))
  have hacc : h₁.PlainList s₂.heap.objs.size #[] := ⟨_, hsb₁.extBut _ _ hDC (Heap.get?_push_of_some _ (hH2 ▸ Heap.get?_push_size _ rfl))⟩
  have hst₁ : St 0 h₁ := W.W.frame _ _ _ W.st fun b _ o e => old b o e
  have fresh : ∀ a, s₂.heap.objs.size ≤ a → s₂.heap.get? a = none := fun a ha => by
    cases e : s₂.heap.get? a with
    | none => rfl
    | some o' => exact absurd (Heap.lt_size e) (Nat.not_lt.mpr ha)
  have loop : ∀ s₃ : Shared, s₃ = { s₂ with heap := h₁, toks := s₂.toks + ([] : List (Str × Value)).length } →
      codeAny (model B.prog B.w) A (.compLoop (.ListComp elt [⟨.Name x px, iter, ifs, 0⟩] scope pos) 0 (.ref I) (.ref s₂.heap.objs.size) (compEnvC scope cl H2.objs.size env))
        (RR (.ref s₂.heap.objs.size) H2.objs.size) s₃ := by
    rintro s₃ rfl
    refine codeAny_compLoop_tests
      (fun k s' => ∃ h' tk m' i ys, s' = { s₂ with heap := h', toks := tk } ∧ i ≤ items.length ∧ k = items.length + 1 - i ∧ St i h' ∧ h'.PlainList s₂.heap.objs.size (ys : List Value).toArray ∧ h'.Ns H2.objs.size m' ∧ J i ys tk ∧ s₂.toks ≤ tk ∧
        (∀ b o, b ∉ wr → s₂.heap.get? b = some o → h'.get? b = some o)) ?_ (items.length + 1)
      ⟨h₁, _, _, 0, [], rfl, Nat.zero_le _, rfl, hst₁, hacc, hns₁, h0 _ (Nat.le_refl _), Nat.le_refl _, fun b o _ e => old b o e⟩
    rintro k s' ⟨H, tk, m', i, ys, rfl, hi, rfl, hst', hacc', hn', hJ', htk, hk⟩
    by_cases hlt : i < items.length
    · have hw' := W.kindw i H hst'
      refine toks_go (W.W.item i _ _ _ hlt hst' fun v h₃ tk₃ hPv hst₃ hk₃ htk₃ => ?_)
      refine wpAny_assign_Name (wpAny_storeName_local (lookup_relabel_local hx) (ns_of_wr hk₃ hw' hn') (fun h₄ hn₄ hs₄ => ?_) (by simp [compEnvC, relabel, hkind]))
      have htk₃' : tk ≤ tk₃ := htk₃
      have hs₄' : Heap.SameBut H2.objs.size h₃ h₄ := hs₄
      have up₄ : ∀ b o, b ∉ wr → s₂.heap.get? b = some o → h₄.get? b = some o := fun b o hb e => hs₄'.extBut b o (below b (Heap.lt_size e)).1 (hk₃ b o hb (hk b o hb e))
      have hst₄ : St (i + 1) h₄ := W.W.frame _ _ _ hst₃ fun b hb o e => hs₄'.extBut b o (fun h => hCf (h ▸ hb)) e
      have hacc₄ : h₄.PlainList s₂.heap.objs.size ys.toArray := by
        obtain ⟨nn, e⟩ := hacc'
        exact ⟨nn, hs₄'.extBut _ _ hDC (hk₃ _ _ hDw e)⟩
      have ks : KpS s₂.heap h₄ := KpS.of_wr up₄ (W.kindw 0 _ W.st)
      have k0 : Kp h₀ h₄ := fun b o e => up₄ b o (fun hb => by rw [W.new b hb] at e; cases e) (kh b o e)
      have rd₄ : Rd B (compEnvC scope cl H2.objs.size env) h₄ (tk₃ + 1) ((x, same v) :: (x, items[i]) :: ρc) := by
        refine ⟨⟨rd.ok.g, rd.ok.b, hkind⟩, rd.base.trans k0, Nat.le_trans rd.pos (by omega), _, hn₄, fun y q hm => ?_⟩
        rcases List.mem_cons.mp hm with hm | hm
        · cases hm
          exact ⟨v, rfl, .inl ⟨lookup_relabel_local hx, by simp⟩⟩
        · rcases List.mem_cons.mp hm with hm | hm
          · cases hm
            exact ⟨v, (items[i]).mono ks (by omega) (W.item i v _ hPv (by simp [hlt])), .inl ⟨lookup_relabel_local hx, by simp⟩⟩
          · obtain ⟨hm', hc1, hc2, hc3⟩ := ht y q hm
            obtain ⟨m₀, _, hv⟩ := rd.ns
            obtain ⟨u, hu, hw⟩ := hv y q hm'
            rcases hw with ⟨hl, _⟩ | ⟨_, c, hc, hcl⟩
            · rw [hc1] at hl; cases hl
            · exact ⟨u, q.keeps hu k0 (by omega), .inr ⟨hc2, c, hc3.trans hc, hcl.keeps k0⟩⟩
      refine toks_go (wpAny_mono (turn i items[i] v ys H2.objs.size (by simp [hlt]) A _ _ ro rd₄ (hJ _ _ _ _ hJ' (by show tk ≤ tk₃ + 1; omega))) (fun ok s₅ h₅ => ?_) fun _ _ e => e)
      intro htk₅
      have htk₅' : tk₃ + 1 ≤ s₅.toks := htk₅
      obtain ⟨⟨h₅, tk₅, rfl, hk₅⟩, h₅'⟩ := h₅
      have hk₅' : Kp h₄ h₅ := hk₅
      have htk₅'' : tk₃ + 1 ≤ tk₅ := htk₅'
      have hacc₅ : h₅.PlainList s₂.heap.objs.size ys.toArray := by obtain ⟨nn, e⟩ := hacc₄; exact ⟨nn, hk₅' _ _ e⟩
      cases ok with
      | false =>
        simp only [Bool.false_eq_true, if_false] at h₅' ⊢
        exact ⟨items.length + 1 - (i + 1), by omega, h₅, tk₅, _, i + 1, ys, rfl, hlt, rfl, W.W.frame _ _ _ hst₄ fun b _ o e => hk₅' b o e, hacc₅, hn₄.keeps hk₅', h₅', by omega, fun b o hb e => hk₅' b o (up₄ b o hb e)⟩
      | true =>
        simp only [if_true] at h₅' ⊢
        refine toks_go (wpAny_mono h₅' (fun y s₆ h₆ => ?_) fun _ _ e => e)
        intro htk₆
        obtain ⟨⟨h₆, tk₆, rfl, hk₆⟩, hJ₆⟩ := h₆
        have hk₆' : Kp h₅ h₆ := hk₆
        have htk₆' : tk₅ ≤ tk₆ := htk₆
        have hacc₆ : h₆.PlainList s₂.heap.objs.size ys.toArray := by obtain ⟨nn, e⟩ := hacc₅; exact ⟨nn, hk₆' _ _ e⟩
        have hys : ys.toArray.size ≤ sizeLine := by
          have := hJl _ _ _ hJ'
          have := W.sz
          simp only [List.size_toArray]; omega
        refine wpAny_list_append_plain (hsz := hys) hacc₆ fun h₇ hl₇ hs₇ => ?_
        have hs₇' : Heap.SameBut s₂.heap.objs.size h₆ h₇ := hs₇
        have hJ₆' : J (i + 1) (ys ++ [y]) tk₆ := hJ₆
        refine ⟨items.length + 1 - (i + 1), by omega, h₇, tk₆, _, i + 1, ys ++ [y], rfl, hlt, rfl, ?_, by simpa using hl₇, ((hn₄.keeps hk₅').keeps hk₆').sameBut hs₇' (Ne.symm hDC), hJ₆', by omega, fun b o hb e => ?_⟩
        · exact W.W.frame _ _ _ hst₄ fun b hb o e => hs₇'.extBut b o (fun h => hDf (h ▸ hb)) (hk₆' b o (hk₅' b o e))
        · exact hs₇'.extBut b o (below b (Heap.lt_size e)).2 (hk₆' b o (hk₅' b o (up₄ b o hb e)))
    · have hin : i = items.length := by omega
      subst hin
      have hw' := W.kindw _ H hst'
      refine toks_go (W.W.done _ _ _ hst' fun h₃ tk₃ hk₃ htk₃ => ?_)
      have htk₃' : tk ≤ tk₃ := htk₃
      have hl₃ : h₃.PlainList s₂.heap.objs.size ys.toArray := by obtain ⟨nn, e⟩ := hacc'; exact ⟨nn, hk₃ _ _ hDw e⟩
      exact hRR _ _ h₃ tk₃ m' ys (fresh _ (Nat.le_refl _)) (fresh _ (by rw [hC]; exact Nat.le_succ _)) hDC (ns_of_wr hk₃ hw' hn') hl₃ (hJ _ _ _ _ hJ' htk₃') (by omega) fun b o hb e => hk₃ b o hb (hk b o hb e)
  exact codeAny_compStart_list (loop _ rfl) (W.W.self 0 _ _ _ hst₁ (loop _ rfl))
end
section
variable {B : Base} {n : Nat} {env : Env} {ρ ρc : Rho}

theorem comp_at {elt iter : Expr} {x : Str} {px : Pos} {ifs : List Expr} {scope : Scope} {cl : List (Str × Addr)} {pos : Pos} {items : List Pd} (J : Nat → Nat → List Value → Nat → Prop) (hit : It B n env ρ iter items)
    (hclos : closureFor scope env = pure cl) (hcell : ∀ y ∈ scope.names, y.2 ≠ .cell) (hkind : scope.kind = .function)
    (hnames : ∀ y ∈ scope.names, y.2 = .local → scope.names.lookup y.1 = some .local) (hx : scope.names.lookup x = some .local) (ht : Taken env scope cl ρ ρc)
    (h0 : ∀ lo k, B.lo ≤ lo → lo ≤ k → J lo 0 [] k) (hJ : ∀ lo i ys k k', J lo i ys k → k ≤ k' → J lo i ys k') (hJl : ∀ lo i ys k, J lo i ys k → ys.length ≤ i)
    (turn : ∀ lo i p v ys C, items[i]? = some p → Turn B n (compEnvC scope cl C env) ((x, same v) :: (x, p) :: ρc) ifs elt (J lo i ys) (J lo (i + 1) ys) (fun y k => J lo (i + 1) (ys ++ [y]) k))
    {A : Around} {s : Shared} {Q E : Value → Shared → Prop} (ro : Room A n) (rd : Rd B env s.heap s.toks ρ)
    (hQ : ∀ lo h' tk' a ys, Kp s.heap h' → s.toks ≤ tk' → s.heap.get? a = none → B.lo ≤ lo → h'.PlainList a ys.toArray → J lo items.length ys tk' → Q (.ref a) { s with heap := h', toks := tk' })
    (hs : ∀ x, foldedSetIterable iter env x = pure x := by intro _; rfl) : wpAny (model B.prog B.w) A (eval (.ListComp elt [⟨.Name x px, iter, ifs, 0⟩] scope pos) env) Q E s := by
    rw [eval_ListComp]
    refine wpAny_comprehension_free (use := none) rfl hs hclos hkind hnames (hit A s _ E ro rd fun I fp wr P St h₂ tk₂ W k₂ l₂ => ?_)
    refine comp_core (s₂ := { s with heap := h₂, toks := tk₂ }) (RR := fun acc C => compPost (model B.prog B.w) A E none Q acc C) W ro k₂ (rd.keeps (Kp.refl _) l₂) (J tk₂) hcell hkind hx ht (fun k hk => h0 _ _ (Nat.le_trans rd.pos l₂) hk) (hJ _) (hJl _) (turn _) ?_
    intro D C h' tk m' ys hD hC hDC hn hl hJ' htk hk
    refine ⟨m', hn, fun h'' hs'' => ?_⟩
    have hs3 : Heap.SameBut C h' h'' := hs''
    have hl'' : h''.PlainList D ys.toArray := hl.extBut hs3.extBut hDC
    have hDs : s.heap.get? D = none := by
      cases e : s.heap.get? D with
      | none => rfl
      | some o => have := k₂ _ _ e; rw [hD] at this; cases this
    have hkk : Kp s.heap h'' := fun b o e => hs3.extBut b o (by
      rintro rfl
      have := k₂ b o e
      rw [hC] at this; cases this) (hk b o (by
      intro hb
      rw [W.new b hb] at e; cases e) (k₂ b o e))
    exact hQ _ h'' tk _ _ hkk (Nat.le_trans l₂ htk) hDs (Nat.le_trans rd.pos l₂) hl'' hJ'
theorem Ev.compN {elt iter : Expr} {x : Str} {px : Pos} {ifs : List Expr} {scope : Scope} {cl : List (Str × Addr)} {pos : Pos} {items : List Pd} {q : Pd} (J : Nat → Nat → List Value → Nat → Prop) (hit : It B n env ρ iter items)
    (hclos : closureFor scope env = pure cl) (hcell : ∀ y ∈ scope.names, y.2 ≠ .cell) (hkind : scope.kind = .function)
    (hnames : ∀ y ∈ scope.names, y.2 = .local → scope.names.lookup y.1 = some .local) (hx : scope.names.lookup x = some .local) (ht : Taken env scope cl ρ ρc)
    (h0 : ∀ lo k, B.lo ≤ lo → lo ≤ k → J lo 0 [] k) (hJ : ∀ lo i ys k k', J lo i ys k → k ≤ k' → J lo i ys k') (hJl : ∀ lo i ys k, J lo i ys k → ys.length ≤ i)
    (turn : ∀ lo i p v ys C, items[i]? = some p → Turn B n (compEnvC scope cl C env) ((x, same v) :: (x, p) :: ρc) ifs elt (J lo i ys) (J lo (i + 1) ys) (fun y k => J lo (i + 1) (ys ++ [y]) k))
    (hq : ∀ (s : Shared) lo h k a ys, Rd B env s.heap s.toks ρ → Kp s.heap h → s.heap.get? a = none → B.lo ≤ lo → h.PlainList a ys.toArray → J lo items.length ys k → q.P h k (.ref a))
    (hs : ∀ x, foldedSetIterable iter env x = pure x := by intro _; rfl) : Ev B n env ρ (.ListComp elt [⟨.Name x px, iter, ifs, 0⟩] scope pos) q :=
  fun A s Q E ro rd hQ => comp_at J hit hclos hcell hkind hnames hx ht h0 hJ hJl turn ro rd (fun lo h' tk' a ys k l hn hlo hl hj => hQ _ h' tk' k l (hq s lo h' tk' a ys rd k hn hlo hl hj)) hs
theorem Ev.comp {elt iter : Expr} {x : Str} {px : Pos} {ifs : List Expr} {scope : Scope} {cl : List (Str × Addr)} {pos : Pos} {items : List Pd} {q : Pd} (J : Nat → Nat → List Value → Nat → Prop) (hit : It B n env ρ iter items)
    (hclos : closureFor scope env = pure cl) (hcell : ∀ y ∈ scope.names, y.2 ≠ .cell) (hkind : scope.kind = .function)
    (hnames : ∀ y ∈ scope.names, y.2 = .local → scope.names.lookup y.1 = some .local) (hx : scope.names.lookup x = some .local) (ht : Taken env scope cl ρ ρc)
    (h0 : ∀ lo k, B.lo ≤ lo → lo ≤ k → J lo 0 [] k) (hJ : ∀ lo i ys k k', J lo i ys k → k ≤ k' → J lo i ys k') (hJl : ∀ lo i ys k, J lo i ys k → ys.length ≤ i)
    (turn : ∀ lo i p v ys C, items[i]? = some p → Turn B n (compEnvC scope cl C env) ((x, same v) :: (x, p) :: ρc) ifs elt (J lo i ys) (J lo (i + 1) ys) (fun y k => J lo (i + 1) (ys ++ [y]) k))
    (hq : ∀ lo h k a ys, B.lo ≤ lo → h.IsList a ys.toArray → J lo items.length ys k → q.P h k (.ref a))
    (hs : ∀ x, foldedSetIterable iter env x = pure x := by intro _; rfl) : Ev B n env ρ (.ListComp elt [⟨.Name x px, iter, ifs, 0⟩] scope pos) q :=
  Ev.compN J hit hclos hcell hkind hnames hx ht h0 hJ hJl turn (fun _ lo h k a ys _ _ _ hlo hl hj => hq lo h k a ys hlo hl.isList hj) hs

/-- the frame of a def: what it had when it was entered (he) stands; its own names and cells may turn -/
structure Fm (B : Base) (env : Env) (he : Addr → Option Obj) (h : Heap) (k : Nat) (ρ : Rho) : Prop where
  rd : Rd B env h k ρ
  keep : ∀ b o, he b = some o → h.get? b = some o
  baseIn : ∀ b o, B.b₀.get? b = some o → he b = some o
  loc : he env.locals = none
  cells : ∀ x c, env.cells.lookup x = some c → he c = none ∧ ∃ v, h.IsCell c v
  inj : ∀ x y c, env.cells.lookup x = some c → env.cells.lookup y = some c → x = y
theorem Fm.keeps {he : Addr → Option Obj} {h h' : Heap} {k k' : Nat} (F : Fm B env he h k ρ) (hk : Kp h h') (hl : k ≤ k') : Fm B env he h' k' ρ :=
  ⟨F.rd.keeps hk hl, fun b o e => hk b o (F.keep b o e), F.baseIn, F.loc, fun x c hc => ⟨(F.cells x c hc).1, let ⟨v, hv⟩ := (F.cells x c hc).2; ⟨v, hv.keeps hk⟩⟩, F.inj⟩
theorem Fm.sub {he : Addr → Option Obj} {h : Heap} {k : Nat} {ρ' : Rho} (F : Fm B env he h k ρ) (hs : ∀ p ∈ ρ', p ∈ ρ) : Fm B env he h k ρ' :=
  ⟨F.rd.sub hs, F.keep, F.baseIn, F.loc, F.cells, F.inj⟩

noncomputable def Known (env : Env) (x : Str) : Prop := env.kindOf x = some .local ∨ (env.kindOf x = some .cell ∧ ∃ c, env.cells.lookup x = some c)
theorem Fm.store {he : Addr → Option Obj} {s : Shared} {A : Around} {x : Str} {v : Value} {p : Pd} {ρ' : Rho} {Q : Unit → Shared → Prop} {E : Value → Shared → Prop} (F : Fm B env he s.heap s.toks ρ) (hv : p.P s.heap s.toks v)
    (hρ : ∀ q ∈ ρ', q ∈ ρ ∧ q.1 ≠ x) (hx : Known env x) (h : ∀ h' tk', Fm B env he h' tk' ((x, p) :: ρ') → s.toks ≤ tk' → KpS s.heap h' → Q () { s with heap := h', toks := tk' }) :
    wpAny (model B.prog B.w) A (storeName env x v) Q E s := by
  obtain ⟨m, hn, hvs⟩ := F.rd.ns
  rcases hx with hl | ⟨hl, c, hc⟩
  · refine wpAny_storeName_local hl hn (fun h' hn' hs' => h h' (s.toks + 1) ?_ (Nat.le_succ _) (KpS.but_dict hn hs')) (by rw [F.rd.ok.k]; rfl)
    have ks := KpS.but_dict hn hs'
    have cellK : ∀ c u, s.heap.IsCell c u → h'.IsCell c u := fun c u ⟨o, e, hd⟩ => ⟨o, hs'.extBut c o (by rintro rfl; obtain ⟨o', es, ep, ho, hd', _⟩ := hn; rw [ho] at e; cases e; rw [hd'] at hd; cases hd) e, hd⟩
    refine ⟨⟨F.rd.ok, fun b o e => hs'.extBut b o (by rintro rfl; have := F.baseIn _ _ e; rw [F.loc] at this; cases this) (F.rd.base b o e), Nat.le_succ_of_le F.rd.pos, _, hn', fun y q hm => ?_⟩, fun b o e => hs'.extBut b o (by rintro rfl; rw [F.loc] at e; cases e) (F.keep b o e), F.baseIn, F.loc, fun y c hc => ⟨(F.cells y c hc).1, let ⟨u, hu⟩ := (F.cells y c hc).2; ⟨u, cellK c u hu⟩⟩, F.inj⟩
    rcases List.mem_cons.mp hm with hm | hm
    · cases hm
      exact ⟨v, p.mono ks (Nat.le_succ _) hv, .inl ⟨hl, by simp⟩⟩
    · obtain ⟨hm', hne⟩ := hρ _ hm
      obtain ⟨u, hu, hw⟩ := hvs y q hm'
      refine ⟨u, q.mono ks (Nat.le_succ _) hu, hw.imp (fun ⟨h1, h2⟩ => ⟨h1, by simpa [show y ≠ x from hne] using h2⟩) fun ⟨h1, c, h2, h3⟩ => ⟨h1, c, h2, cellK _ _ h3⟩⟩
  · obtain ⟨v₀, hv₀⟩ := (F.cells x c hc).2
    refine wpAny_storeName_cell F.rd.ok.k hl hc hv₀ fun h' hc' hs' => h h' s.toks ?_ (Nat.le_refl _) (KpS.but_cell hv₀ hs')
    have ks := KpS.but_cell hv₀ hs'
    have hcn := (F.cells x c hc).1
    have hn' : h'.Ns env.locals m := hn.sameBut hs' (by rintro rfl; obtain ⟨o, es, ep, ho, hd, _⟩ := hn; obtain ⟨o', e, hd'⟩ := hv₀; rw [ho] at e; cases e; rw [hd] at hd'; cases hd')
    refine ⟨⟨F.rd.ok, fun b o e => hs'.extBut b o (by rintro rfl; have := F.baseIn _ _ e; rw [hcn] at this; cases this) (F.rd.base b o e), F.rd.pos, m, hn', fun y q hm => ?_⟩, fun b o e => hs'.extBut b o (by rintro rfl; rw [hcn] at e; cases e) (F.keep b o e), F.baseIn, F.loc, fun y c' hc'' => ⟨(F.cells y c' hc'').1, ?_⟩, F.inj⟩
    · rcases List.mem_cons.mp hm with hm | hm
      · cases hm
        exact ⟨v, p.mono ks (Nat.le_refl _) hv, .inr ⟨hl, c, hc, hc'⟩⟩
      · obtain ⟨hm', hne⟩ := hρ _ hm
        obtain ⟨u, hu, hw⟩ := hvs y q hm'
        refine ⟨u, q.mono ks (Nat.le_refl _) hu, hw.imp id fun ⟨h1, c', h2, h3⟩ => ⟨h1, c', h2, h3.sameBut hs' ?_⟩⟩
        rintro rfl
        exact hne (F.inj _ _ _ h2 hc)
    · by_cases hcc : c' = c
      · subst hcc; exact ⟨_, hc'⟩
      · obtain ⟨u, hu⟩ := (F.cells y c' hc'').2
        exact ⟨u, hu.sameBut hs' hcc⟩

inductive Out where
  | next (ρ : Rho)
  | brk (ρ : Rho)
  | ret (p : Pd)
noncomputable def Out.Post (B : Base) (env : Env) (he : Addr → Option Obj) (s : Shared) (Q : Flow → Shared → Prop) : Out → Prop
  | .next ρ => ∀ h' tk', Fm B env he h' tk' ρ → s.toks ≤ tk' → Q .next { s with heap := h', toks := tk' }
  | .brk ρ => ∀ h' tk', Fm B env he h' tk' ρ → s.toks ≤ tk' → Q .brk { s with heap := h', toks := tk' }
  | .ret p => ∀ v h' tk', Fm B env he h' tk' [] → s.toks ≤ tk' → p.P h' tk' v → Q (.ret v) { s with heap := h', toks := tk' }
theorem Out.Post.later {he : Addr → Option Obj} {s : Shared} {h₁ : Heap} {k₁ : Nat} {Q : Flow → Shared → Prop} : ∀ {o : Out}, o.Post B env he s Q → s.toks ≤ k₁ → o.Post B env he { s with heap := h₁, toks := k₁ } Q
  | .next _, h, hl => fun h' tk' F l => h h' tk' F (Nat.le_trans hl l)
  | .brk _, h, hl => fun h' tk' F l => h h' tk' F (Nat.le_trans hl l)
  | .ret _, h, hl => fun v h' tk' F l => h v h' tk' F (Nat.le_trans hl l)
noncomputable def Ex (B : Base) (n : Nat) (env : Env) (ρ : Rho) (ss : List Stmt) (o : Out) : Prop :=
  ∀ (A : Around) (s : Shared) (he : Addr → Option Obj) (Q : Flow → Shared → Prop) (E : Value → Shared → Prop), Room A n → Fm B env he s.heap s.toks ρ → o.Post B env he s Q → wpAny (model B.prog B.w) A (execs ss env) Q E s
noncomputable def Ex1 (B : Base) (n : Nat) (env : Env) (ρ : Rho) (st : Stmt) (o : Out) : Prop :=
  ∀ (A : Around) (s : Shared) (he : Addr → Option Obj) (Q : Flow → Shared → Prop) (E : Value → Shared → Prop), Room A n → Fm B env he s.heap s.toks ρ → o.Post B env he s Q → wpAny (model B.prog B.w) A (exec st env) Q E s

theorem Ex.nil : Ex B n env ρ [] (.next ρ) := fun A s he Q E ro F h => wpAny_execs_nil (h s.heap s.toks F (Nat.le_refl _))
theorem Ex.cons {st : Stmt} {rest : List Stmt} {ρ₁ : Rho} {o : Out} (h1 : Ex1 B n env ρ st (.next ρ₁)) (h2 : Ex B n env ρ₁ rest o) : Ex B n env ρ (st :: rest) o := fun A s he Q E ro F h =>
  wpAny_execs_cons (h1 A s he _ E ro F fun h' tk' F' l => h2 A _ he Q E ro F' (h.later l))
theorem Ex.stopR {st : Stmt} {rest : List Stmt} {p : Pd} (h1 : Ex1 B n env ρ st (.ret p)) : Ex B n env ρ (st :: rest) (.ret p) := fun A s he Q E ro F h =>
  wpAny_execs_cons (h1 A s he _ E ro F fun v h' tk' F' l x => h v h' tk' F' l x)
theorem Ex.stopB {st : Stmt} {rest : List Stmt} {ρ₁ : Rho} (h1 : Ex1 B n env ρ st (.brk ρ₁)) : Ex B n env ρ (st :: rest) (.brk ρ₁) := fun A s he Q E ro F h =>
  wpAny_execs_cons (h1 A s he _ E ro F fun h' tk' F' l => h h' tk' F' l)
theorem Ex.one {st : Stmt} {o : Out} (h1 : Ex1 B n env ρ st o) : Ex B n env ρ [st] o := by
  cases o with
  | next ρ₁ => exact Ex.cons h1 Ex.nil
  | brk ρ₁ => exact Ex.stopB h1
  | ret p => exact Ex.stopR h1
theorem Ex.sub {ss : List Stmt} {o : Out} {ρ' : Rho} (h : Ex B n env ρ' ss o) (hs : ∀ p ∈ ρ', p ∈ ρ) : Ex B n env ρ ss o := fun A s he Q E ro F hq => h A s he Q E ro (F.sub hs) hq
theorem Ex1.sub {st : Stmt} {o : Out} {ρ' : Rho} (h : Ex1 B n env ρ' st o) (hs : ∀ p ∈ ρ', p ∈ ρ) : Ex1 B n env ρ st o := fun A s he Q E ro F hq => h A s he Q E ro (F.sub hs) hq
theorem Ex1.out {st : Stmt} {ρ₁ ρ₂ : Rho} (h : Ex1 B n env ρ st (.next ρ₁)) (hs : ∀ p ∈ ρ₂, p ∈ ρ₁) : Ex1 B n env ρ st (.next ρ₂) := fun A s he Q E ro F hq => h A s he Q E ro F fun h' tk' F' l => hq h' tk' (F'.sub hs) l

theorem Ex1.assign {x : Str} {px pos : Pos} {e : Expr} {p : Pd} {ρ' : Rho} (h : Ev B n env ρ e p) (hx : Known env x := by first | exact .inl rfl | exact .inr ⟨rfl, _, rfl⟩) (hρ : ∀ q ∈ ρ', q ∈ ρ ∧ q.1 ≠ x := by ktr_rel) (hs : swapsWith e (some (.Name x px)) pos.line env = pure false := by rfl) :
    Ex1 B n env ρ (.Assign [.Name x px] e pos) (.next ((x, p) :: ρ')) := fun A s he Q E ro F hq =>
  wpAny_Assign_Name (h A s _ E ro F.rd fun v h₁ tk₁ k₁ l₁ i₁ => (F.keeps k₁ l₁).store i₁ hρ hx fun h₂ tk₂ F₂ l₂ _ => hq h₂ tk₂ F₂ (Nat.le_trans l₁ l₂)) hs
theorem Ex1.ret {e : Expr} {pos : Pos} {p : Pd} (h : Ev B n env ρ e p) : Ex1 B n env ρ (.Return (some e) pos) (.ret p) := fun A s he Q E ro F hq =>
  wpAny_Return_some (h A s _ E ro F.rd fun v h₁ tk₁ k₁ l₁ i₁ => hq v h₁ tk₁ ((F.keeps k₁ l₁).sub fun _ hp => (nomatch hp)) l₁ i₁)
theorem Ex1.ite {t : Expr} {body orelse : List Stmt} {pos : Pos} {b : Bool} {o : Out} (h : Tr B n env ρ t b) (h1 : b = true → Ex B n env ρ body o) (h2 : b = false → Ex B n env ρ orelse o) : Ex1 B n env ρ (.If t body orelse pos) o :=
  fun A s he Q E ro F hq => wpAny_If (h A s _ E ro F.rd fun h₁ tk₁ k₁ l₁ => by
    cases b with
    | true => exact h1 rfl A _ he Q E ro (F.keeps k₁ l₁) (hq.later l₁)
    | false => exact h2 rfl A _ he Q E ro (F.keeps k₁ l₁) (hq.later l₁))
theorem Ex1.brk {pos : Pos} : Ex1 B n env ρ (.Break pos) (.brk ρ) := fun A s he Q E ro F hq => by
  show wpAny _ A (do standAt pos; pure .brk) Q E s
  exact wpAny_bind (wpAny_standAt (wpAny_pure (hq s.heap s.toks F (Nat.le_refl _))))
theorem Ex1.aug {x : Str} {px pos : Pos} {e : Expr} {a b : Int} {ρ' : Rho} (hm : (x, is (.int a)) ∈ ρ) (h : Ev B n env ρ e (is (.int b))) (hx : Known env x := by first | exact .inl rfl | exact .inr ⟨rfl, _, rfl⟩) (hρ : ∀ q ∈ ρ', q ∈ ρ ∧ q.1 ≠ x := by ktr_rel) :
    Ex1 B n env ρ (.AugAssign (.Name x px) .Add e pos) (.next ((x, is (.int (a + b))) :: ρ')) := fun A s he Q E ro F hq => by
  refine wpAny_AugAssign_Name ?_
  obtain ⟨m, hn, hv⟩ := F.rd.ns
  obtain ⟨v, hi, hw⟩ := hv _ _ hm
  cases hi
  have key : ∀ t, wpAny (model B.prog B.w) A (eval e env) (fun v s₂ => wpAny (model B.prog B.w) A (inplaceOp .Add (.int a t) v) (fun r s₃ => wpAny (model B.prog B.w) A (storeName env x r) (fun _ => Q .next) E s₃) E s₂) E s := fun t =>
    h A s _ E ro F.rd fun v h₁ tk₁ k₁ l₁ i₁ => by
      cases i₁
      refine PyProof.Rows.iadd_int ?_
      exact Fm.store (s := { s with heap := h₁, toks := tk₁ + 1 }) (p := is (.int (a + b))) ((F.keeps k₁ l₁).keeps (Kp.refl _) (Nat.le_succ _)) .int hρ hx fun h₂ tk₂ F₂ l₂ _ => hq h₂ tk₂ F₂ (Nat.le_trans l₁ (Nat.le_trans (Nat.le_succ _) l₂))
  rcases hw with ⟨hl, e⟩ | ⟨hl, c, hc, hcell⟩
  · exact wpAny_loadName_local F.rd.ok.k hl hn e (key _)
  · exact wpAny_loadName_cell F.rd.ok.k hl hc hcell (key _)

/-- a target takes an item -/
noncomputable def AsT (B : Base) (n : Nat) (env : Env) (ρ ρ' : Rho) (target : Expr) (p : Pd) : Prop :=
  ∀ (A : Around) (s : Shared) (he : Addr → Option Obj) (v : Value) (Q : Unit → Shared → Prop) (E : Value → Shared → Prop), Room A n → Fm B env he s.heap s.toks ρ → p.P s.heap s.toks v →
    (∀ h' tk', Fm B env he h' tk' ρ' → s.toks ≤ tk' → Q () { s with heap := h', toks := tk' }) → wpAny (model B.prog B.w) A (assign target env v) Q E s
theorem AsT.name {x : Str} {pos : Pos} {p : Pd} {ρ' : Rho} (hx : Known env x := by first | exact .inl rfl | exact .inr ⟨rfl, _, rfl⟩) (hρ : ∀ q ∈ ρ', q ∈ ρ ∧ q.1 ≠ x := by ktr_rel) : AsT B n env ρ ((x, p) :: ρ') (.Name x pos) p := fun A s he v Q E ro F hv hq =>
  wpAny_assign_Name (F.store hv hρ hx fun h₂ tk₂ F₂ l₂ _ => hq h₂ tk₂ F₂ l₂)
end
section
variable {B : Base} {n : Nat} {env : Env} {ρ ρc : Rho}

theorem letGo_quiet {A : Around} {E : Value → Shared → Prop} {target : Expr} {I : Addr} {v : Value} {Q : Unit → Shared → Prop} {s : Shared} {o : Obj} {nm : String} (ho : s.heap.get? I = some o) (hc : o.cls = .type nm)
    (hn : (["enumerate", "zip", "dict_itemiterator", "dict_reverseitemiterator", "odict_iterator", "itertools.zip_longest", "itertools.pairwise"].contains nm) = false) (h : Q () s) :
    wpAny (model B.prog B.w) A (letOwnedTupleGo target (.ref I) v) Q E s := by
  unfold letOwnedTupleGo
  cases target <;> first
    | exact wpAny_pure h
    | (cases v <;> first
        | exact wpAny_pure h
        | (refine wpAny_bind (wpAny_load ho ?_)
           rw [hc]
           split
           · rename_i e _
             cases e
             rw [hn]
             exact wpAny_pure h
           · exact wpAny_pure h))

theorem Fm.of_wr {he : Addr → Option Obj} {h h' : Heap} {k k' : Nat} {wr : List Addr} (F : Fm B env he h k ρ) (hk : ∀ b o, b ∉ wr → h.get? b = some o → h'.get? b = some o) (hw : ∀ b ∈ wr, ∃ o fs, h.get? b = some o ∧ o.data = .fields fs)
    (hn : ∀ b ∈ wr, he b = none) (hl : k ≤ k') : Fm B env he h' k' ρ := by
  have ks := KpS.of_wr hk hw
  have hin : ∀ b o, he b = some o → b ∉ wr := fun b o e hb => by rw [hn b hb] at e; cases e
  obtain ⟨m, hm, hv⟩ := F.rd.ns
  refine ⟨⟨F.rd.ok, fun b o e => hk b o (hin b o (F.baseIn b o e)) (F.rd.base b o e), Nat.le_trans F.rd.pos hl, m, ns_of_wr hk hw hm, fun y q hq => ?_⟩, fun b o e => hk b o (hin b o e) (F.keep b o e), F.baseIn, F.loc, fun x c hc => ⟨(F.cells x c hc).1, let ⟨v, hv⟩ := (F.cells x c hc).2; ⟨v, cell_of_wr hk hw hv⟩⟩, F.inj⟩
  obtain ⟨u, hu, hw'⟩ := hv y q hq
  exact ⟨u, q.mono ks hl hu, hw'.imp id fun ⟨h1, c, h2, h3⟩ => ⟨h1, c, h2, cell_of_wr hk hw h3⟩⟩

open Classical in
/-- all that stands but the frame's own -/
noncomputable def hid (env : Env) (h : Heap) : Addr → Option Obj := fun b => if b = env.locals ∨ ∃ x, env.cells.lookup x = some b then none else h.get? b
theorem hid_some {h : Heap} {b : Addr} {o : Obj} (e : hid env h b = some o) : h.get? b = some o := by
  unfold hid at e
  split at e
  · cases e
  · exact e
theorem hid_of {h : Heap} {b : Addr} {o : Obj} (e : h.get? b = some o) (h1 : b ≠ env.locals) (h2 : ∀ x, env.cells.lookup x ≠ some b) : hid env h b = some o := by
  unfold hid
  rw [if_neg (by rintro (h | ⟨x, h⟩); exact h1 h; exact h2 x h)]
  exact e
theorem Fm.hid_data {he : Addr → Option Obj} {h : Heap} {k : Nat} (F : Fm B env he h k ρ) {b : Addr} {o : Obj} (e : h.get? b = some o) (hd : (∃ fs, o.data = .fields fs) ∨ ∃ vs n, o.data = .seq vs n) : hid env h b = some o := by
  refine hid_of e ?_ fun x hx => ?_
  · rintro rfl
    obtain ⟨m, ⟨o', es, ep, ho, hd', _⟩, _⟩ := F.rd.ns
    rw [ho] at e; cases e
    rcases hd with ⟨_, hd⟩ | ⟨_, _, hd⟩ <;> (rw [hd'] at hd; cases hd)
  · obtain ⟨v, o', ho, hd'⟩ := (F.cells x b hx).2
    rw [ho] at e; cases e
    rcases hd with ⟨_, hd⟩ | ⟨_, _, hd⟩ <;> (rw [hd'] at hd; cases hd)
theorem Fm.le_hid {he : Addr → Option Obj} {h : Heap} {k : Nat} (F : Fm B env he h k ρ) {b : Addr} {o : Obj} (e : he b = some o) : hid env h b = some o :=
  hid_of (F.keep b o e) (by rintro rfl; rw [F.loc] at e; cases e) fun x hx => by rw [(F.cells x b hx).1] at e; cases e
theorem Fm.hide {he : Addr → Option Obj} {h : Heap} {k : Nat} (F : Fm B env he h k ρ) : Fm B env (hid env h) h k ρ :=
  ⟨F.rd, fun b o e => hid_some e, fun b o e => F.le_hid (F.baseIn b o e), by unfold hid; rw [if_pos (.inl rfl)], fun x c hc => ⟨by unfold hid; rw [if_pos (.inr ⟨x, hc⟩)], (F.cells x c hc).2⟩, F.inj⟩
theorem Fm.unhide {he he' : Addr → Option Obj} {h : Heap} {k : Nat} (F : Fm B env he' h k ρ) (hl : ∀ b o, he b = some o → he' b = some o) (hb : ∀ b o, B.b₀.get? b = some o → he b = some o) : Fm B env he h k ρ :=
by
  have no : ∀ b, he' b = none → he b = none := fun b h => by
    cases e : he b with
    | none => rfl
    | some o => have := hl _ _ e; rw [h] at this; cases this
  exact ⟨F.rd, fun b o e => F.keep b o (hl b o e), hb, no _ F.loc, fun x c hc => ⟨no _ (F.cells x c hc).1, (F.cells x c hc).2⟩, F.inj⟩

/-- a for: item by item up to j; there it ends, or leaves -/
theorem Ex1.for {target iter : Expr} {body orelse : List Stmt} {pos : Pos} {items : List Pd} (ρs ρb : Nat → Rho) (j : Nat) {o : Out} (hit : It B n env ρ iter items) (h0 : ∀ p ∈ ρs 0, p ∈ ρ)
    (has : ∀ i p, items[i]? = some p → i ≤ j → AsT B n env (ρs i) (ρb i) target p) (hbody : ∀ i, i < j → i < items.length → Ex B n env (ρb i) body (.next (ρs (i + 1))))
    (hend : (j = items.length ∧ Ex B n env (ρs j) orelse o) ∨ (j < items.length ∧ ((∃ p, o = .ret p ∧ Ex B n env (ρb j) body (.ret p)) ∨ ∃ ρ', o = .next ρ' ∧ Ex B n env (ρb j) body (.brk ρ'))))
    (hs : ∀ x, foldedSetIterable iter env x = pure x := by intro _; rfl) : Ex1 B n env ρ (.For target iter body orelse pos) o := fun A s he Q E ro F hq => by
  refine wpAny_For (hit A s _ E ro F.rd fun I fp wr P St h₂ tk₂ W k₂ l₂ => ?_) hs
  have F₂ : Fm B env he h₂ tk₂ (ρs 0) := (F.keeps k₂ l₂).sub h0
  have hjn : j ≤ items.length := by rcases hend with ⟨h, _⟩ | ⟨h, _⟩ <;> omega
  have hwr : ∀ b ∈ wr, he b = none := fun b hb => by
    cases e : he b with
    | none => rfl
    | some o' => have := F.keep b o' e; rw [W.new b hb] at this; cases this
  have hq' : o.Post B env he { s with heap := h₂, toks := tk₂ } Q := hq.later l₂
  refine codeAny_forLoop_any
    (fun k s' => ∃ h' tk i, s' = { s with heap := h', toks := tk } ∧ i ≤ j ∧ k = items.length + 1 - i ∧ St i h' ∧ Fm B env he h' tk (ρs i) ∧ tk₂ ≤ tk ∧ KpS h₂ h') ?_ (items.length + 1)
    ⟨h₂, tk₂, 0, rfl, Nat.zero_le _, rfl, W.st, F₂, Nat.le_refl _, fun _ _ _ _ e _ => e⟩
  rintro k s' ⟨H, tk, i, rfl, hi, rfl, hst', F', htk, hks⟩
  have hw' := W.kindw i H hst'
  by_cases hlt : i < items.length
  · refine toks_go (W.W.item i _ _ _ hlt hst' fun v h₃ tk₃ hPv hst₃ hk₃ htk₃ => ?_)
    have htk₃' : tk ≤ tk₃ := htk₃
    have hk₃' : ∀ b o, b ∉ wr → H.get? b = some o → h₃.get? b = some o := hk₃
    have F₃ : Fm B env he h₃ tk₃ (ρs i) := F'.of_wr hk₃' hw' hwr htk₃'
    have hks₃ : KpS h₂ h₃ := hks.trans (KpS.of_wr hk₃' hw')
    obtain ⟨oI, nm, hoI, hcI, hnI⟩ := W.quiet (i + 1) h₃ hst₃
    refine letGo_quiet (B := B) (o := oI) hoI hcI hnI ?_
    have hp : (items[i]).P h₃ tk₃ v := (items[i]).mono hks₃ (by omega) (W.item i v _ hPv (by simp [hlt]))
    have Fh := F₃.hide
    refine has i items[i] (by simp [hlt]) hi A { s with heap := h₃, toks := tk₃ } (hid env h₃) v _ _ ro Fh hp fun h₄ tk₄ F₄ l₄ => ?_
    have l₄' : tk₃ ≤ tk₄ := l₄
    by_cases hij : i < j
    · refine hbody i hij hlt A { s with heap := h₄, toks := tk₄ } (hid env h₃) _ _ ro F₄ fun h₅ tk₅ F₅ l₅ => ?_
      have l₅' : tk₄ ≤ tk₅ := l₅
      refine ⟨items.length + 1 - (i + 1), by omega, h₅, tk₅, i + 1, rfl, hij, rfl, W.W.frame _ _ _ hst₃ fun b hb o e => ?_, F₅.unhide (fun b o e => F₃.le_hid e) F₃.baseIn, by omega, hks₃.trans fun b o vs n e hd => F₅.keep b o (F₃.hid_data e (.inr ⟨_, _, hd⟩))⟩
      obtain ⟨o', e', hd⟩ := W.kind (i + 1) h₃ hst₃ b hb
      rw [e] at e'; cases e'
      exact F₅.keep b o (F₃.hid_data e hd)
    · have hij' : i = j := by omega
      subst hij'
      rcases hend with ⟨h, _⟩ | ⟨_, ⟨p, rfl, hb⟩ | ⟨ρ', rfl, hb⟩⟩
      · omega
      · refine hb A { s with heap := h₄, toks := tk₄ } (hid env h₃) _ _ ro F₄ fun u h₅ tk₅ F₅ l₅ hu => ?_
        have l₅' : tk₄ ≤ tk₅ := l₅
        exact hq u h₅ tk₅ (F₅.unhide (fun b o e => F₃.le_hid e) F₃.baseIn) (by omega) hu
      · refine hb A { s with heap := h₄, toks := tk₄ } (hid env h₃) _ _ ro F₄ fun h₅ tk₅ F₅ l₅ => ?_
        have l₅' : tk₄ ≤ tk₅ := l₅
        exact hq h₅ tk₅ (F₅.unhide (fun b o e => F₃.le_hid e) F₃.baseIn) (by omega)
  · have hin : i = items.length := by omega
    have hjj : j = items.length := by omega
    subst hin
    subst hjj
    rcases hend with ⟨_, hb⟩ | ⟨h, _⟩
    · refine toks_go (W.W.done _ _ _ hst' fun h₃ tk₃ hk₃ htk₃ => ?_)
      have htk₃' : tk ≤ tk₃ := htk₃
      have F₃ : Fm B env he h₃ tk₃ (ρs items.length) := F'.of_wr hk₃ hw' hwr htk₃'
      exact hb A { s with heap := h₃, toks := tk₃ } he _ _ ro F₃ (hq.later (by omega))
    · omega

/-- a pair unpacked -/
theorem AsT.pair {x y : Str} {px py pos : Pos} {k : Nat} {a b : D} {ρ₁ ρ₂ : Rho} (hx : Known env x := by first | exact .inl rfl | exact .inr ⟨rfl, _, rfl⟩) (hρ₁ : ∀ q ∈ ρ₁, q ∈ ρ ∧ q.1 ≠ x := by ktr_rel) (hy : Known env y := by first | exact .inl rfl | exact .inr ⟨rfl, _, rfl⟩) (hρ₂ : ∀ q ∈ ρ₂, q ∈ (x, is a) :: ρ₁ ∧ q.1 ≠ y := by ktr_rel) :
    AsT B n env ρ ((y, is b) :: ρ₂) (.Tuple [.Name x px, .Name y py] k pos) (is (.tup [a, b])) := fun A s he v Q E ro F hv hq => by
  cases hv with | tup ht r =>
  rename_i t vs
  cases r with | @cons v1 _ _ _ i1 r =>
  cases r with | @cons v2 _ _ _ i2 r =>
  cases r
  refine wpAny_assign_Tuple ro.1 ht rfl rfl fun h₃ hx₃ => ?_
  have k₃ : Kp s.heap h₃ := fun b o e => hx₃ b o (Nat.ne_of_lt (Heap.lt_size e)) e
  show wpAny _ A (do holding [v2] (assign (.Name x px) env v1); do holding [] (assign (.Name y py) env v2); pure ()) _ _ _
  refine wpAny_bind (wpAny_holding (wpAny_assign_Name ?_))
  refine Fm.store (s := { s with heap := h₃ }) (p := is a) (F.keeps k₃ (Nat.le_refl _)) (i1.keeps k₃) hρ₁ hx fun h₄ tk₄ F₄ l₄ ks₄ => ?_
  have l₄' : s.toks ≤ tk₄ := l₄
  refine wpAny_bind (wpAny_holding (wpAny_assign_Name ?_))
  refine Fm.store (s := { s with heap := h₄, toks := tk₄ }) (p := is b) F₄ ((i2.keeps k₃).keepsS ks₄) hρ₂ hy fun h₅ tk₅ F₅ l₅ ks₅ => wpAny_pure ?_
  have l₅' : tk₄ ≤ tk₅ := l₅
  exact hq h₅ tk₅ F₅ (by omega)
end

/-- a def's names at its start -/
noncomputable def Binds : List Str → List Pd → Rho
  | x :: xs, p :: ps => (x, p) :: Binds xs ps
  | _, _ => []

section
variable {B : Base} {n : Nat}
theorem bindL_keep {kind : Str → Option NameKind} {x : Str} {v : Value} : ∀ (r : List (Str × Value)) (m : Str → Option Value), x ∉ r.map (·.1) → m x = some v → bindL kind r m x = some v
  | [], _, _, h => h
  | (z, w) :: r, m, hnm, h => by
    simp only [List.map_cons, List.mem_cons, not_or] at hnm
    unfold bindL
    refine bindL_keep r _ hnm.2 ?_
    split
    · simp [hnm.1, h]
    · exact h
theorem bindL_get {kind : Str → Option NameKind} : ∀ {binds : List (Str × Value)} {m : Str → Option Value} {x : Str} {v : Value}, (binds.map (·.1)).Nodup → (x, v) ∈ binds → kind x = some .local → bindL kind binds m x = some v
  | (y, u) :: r, m, x, v, hn, hm, hk => by
    have hn' := List.nodup_cons.mp hn
    rcases List.mem_cons.mp hm with hm | hm
    · cases hm
      unfold bindL
      rw [if_pos hk]
      exact bindL_keep r _ hn'.1 (by simp)
    · unfold bindL
      exact bindL_get hn'.2 hm hk
theorem bindC_keep {kind : Str → Option NameKind} {x : Str} {v : Value} : ∀ (r : List (Str × Value)) (m : Str → Option Value), x ∉ r.map (·.1) → m x = some v → bindC kind r m x = some v
  | [], _, _, h => h
  | (z, w) :: r, m, hnm, h => by
    simp only [List.map_cons, List.mem_cons, not_or] at hnm
    unfold bindC
    refine bindC_keep r _ hnm.2 ?_
    split
    · exact h
    · simp [hnm.1, h]
theorem bindC_get {kind : Str → Option NameKind} : ∀ {binds : List (Str × Value)} {m : Str → Option Value} {x : Str} {v : Value}, (binds.map (·.1)).Nodup → (x, v) ∈ binds → kind x ≠ some .local → bindC kind binds m x = some v
  | (y, u) :: r, m, x, v, hn, hm, hk => by
    have hn' := List.nodup_cons.mp hn
    rcases List.mem_cons.mp hm with hm | hm
    · cases hm
      unfold bindC
      rw [if_neg hk]
      exact bindC_keep r _ hn'.1 (by simp)
    · unfold bindC
      exact bindC_get hn'.2 hm hk

theorem Binds.mem {h : Heap} {k : Nat} : ∀ {xs : List Str} {ps : List Pd} {vs : List Value}, All h k vs ps → xs.length = vs.length → ∀ {x p}, (x, p) ∈ Binds xs ps → ∃ v, (x, v) ∈ xs.zip vs ∧ p.P h k v
  | [], _, _, _, _, _, _, hm => by cases hm
  | _ :: _, _, _, .nil, hl, _, _, hm => by simp at hl
  | y :: xs, _, _, .cons (v := v) (p := q) a r, hl, x, p, hm => by
    rcases List.mem_cons.mp hm with hm | hm
    · cases hm
      exact ⟨v, by simp, a⟩
    · obtain ⟨u, hu, hp⟩ := Binds.mem r (by simpa using hl) hm
      exact ⟨u, by simp [hu], hp⟩

/-- a def of the text by its body -/
theorem enter {A : Around} {s : Shared} {a : Addr} {o : Obj} {fd : FuncData} {body : List Stmt} {xs : List Str} {ps : List Pd} {vs : List Value} {R : Result → Shared → Prop}
    (ro : Room A (n + 1)) (kb : Kp B.b₀ s.heap) (kp : B.lo ≤ s.toks) (al : All s.heap s.toks vs ps) (hlen : xs.length = vs.length)
    (ho : B.b₀.get? a = some o) (hdata : o.data = .func fd) (hcd : B.b₀.CodeRec fd.code fd.qualname) (hbody : fd.body = .stmts body) (hclo : fd.closure = []) (hgl : fd.globals = mainGlobals) (hbu : fd.builtins = builtinsNs)
    (hco : fd.scope.isCoroutine = false) (hgen : fd.scope.isGenerator = false) (hk : fd.scope.kind = .function)
    (hbind : bindArgs fd ⟨vs, []⟩ = pure (xs.zip vs)) (hnd : xs.Nodup)
    (hkind : ∀ L, ∀ x ∈ xs, fd.scope.names.lookup x = some .local ∨ (fd.scope.names.lookup x = some .cell ∧ ((cellsFrom (L + 1) fd.scope.names []).lookup x).isSome = true))
    (h : ∀ L he h₁ tk₁, (∀ b o, s.heap.get? b = some o → he b = some o) → (∀ b o, he b = some o → s.heap.get? b = some o) → s.toks ≤ tk₁ → Fm B (callEnvC fd L a) he h₁ tk₁ (Binds xs ps) →
      wpAny (model B.prog B.w) (A.deeper (callEnvC fd L a)) (execs body (callEnvC fd L a)) (fun f s' => R (.ok (.ret (match f with | .ret v => v | _ => .none))) s')
        (fun e s' => wpAny (model B.prog B.w) (A.deeper (callEnvC fd L a)) (leaving (callEnvC fd L a) e) (fun _ s'' => R (.error e) s'') (fun e' s'' => R (.error e') s'') s') { s with heap := h₁, toks := tk₁ }) :
    codeAny (model B.prog B.w) A (.call (.ref a) ⟨vs, []⟩) R s := by
  have hmem : ∀ p ∈ xs.zip vs, p.1 ∈ xs := fun p hp => (List.of_mem_zip hp).1
  refine codeAny_call_function ro.depth (kb _ _ ho) hdata hco hgen hbody (hcd.keeps kb) ?_
  rw [hbind, hclo]
  refine wpAny_pure (toks_go (wpAny_newFunctionEnv_cells hk (fun x hx => hkind _ _ (hmem x hx)) fun env' he' s₁ x htk => ?_))
  subst he'
  refine ⟨(B.T.nolimit.keeps kb).keeps x.toInCall.keep, codeAny_func ?_⟩
  obtain ⟨h₁, tk₁, rfl, hk₁⟩ := x.done
  have hkey : s.toks ≤ tk₁ → wpAny (model B.prog B.w) (A.deeper (callEnvC fd s.heap.objs.size a)) (execs body (callEnvC fd s.heap.objs.size a)) (fun f s' => R (.ok (.ret (match f with | .ret v => v | _ => .none))) s')
        (fun e s' => wpAny (model B.prog B.w) (A.deeper (callEnvC fd s.heap.objs.size a)) (leaving (callEnvC fd s.heap.objs.size a) e) (fun _ s'' => R (.error e) s'') (fun e' s'' => R (.error e') s'') s') { s with heap := h₁, toks := tk₁ } := fun htk => by
    refine h s.heap.objs.size s.heap.get? h₁ tk₁ (fun _ _ e => e) (fun _ _ e => e) htk ?_
    have none_of : ∀ b, s.heap.objs.size ≤ b → s.heap.get? b = none := fun b hb => by
      cases e : s.heap.get? b with
      | none => rfl
      | some o' => exact absurd (Heap.lt_size e) (Nat.not_lt.mpr hb)
    have hap : ∀ y c, (callEnvC fd s.heap.objs.size a).cells.lookup y = some c → s.heap.objs.size < c := fun y c hc => x.above y c (mem_of_lookup hc)
    have al₁ := al.keeps hk₁ htk
    refine ⟨⟨⟨hgl, hbu, hk⟩, kb.trans hk₁, Nat.le_trans kp htk, _, x.toInCall.ns, fun y p hm => ?_⟩, hk₁, fun b o e => kb b o e, none_of _ (Nat.le_refl _), fun y c hc => ⟨none_of _ (Nat.le_of_lt (hap y c hc)), _, x.cell y c hc⟩, fun y z c h1 h2 => name_of_addr x.apart (mem_of_lookup h1) (mem_of_lookup h2)⟩
    obtain ⟨v, hv, hp⟩ := Binds.mem al₁ hlen hm
    have hnd' : ((xs.zip vs).map (·.1)).Nodup := by rw [List.map_fst_zip (by omega)]; exact hnd
    refine ⟨v, hp, ?_⟩
    rcases hkind s.heap.objs.size y (hmem _ hv) with hl | ⟨hl, hc⟩
    · exact .inl ⟨hl, bindL_get hnd' hv hl⟩
    · obtain ⟨c, hc⟩ := Option.isSome_iff_exists.mp hc
      refine .inr ⟨hl, c, hc, ?_⟩
      have e : bindC (callEnvC fd s.heap.objs.size a).kindOf (xs.zip vs) (fun _ => none) y = some v := bindC_get hnd' hv (show fd.scope.names.lookup y ≠ _ by rw [hl]; decide)
      have this : h₁.IsCell c (bindC (callEnvC fd s.heap.objs.size a).kindOf (xs.zip vs) (fun _ => none) y) := x.cell y c hc
      rw [e] at this; exact this
  exact hkey htk

theorem All.length {h : Heap} {k : Nat} : ∀ {vs ps}, All h k vs ps → vs.length = ps.length
  | _, _, .nil => rfl
  | _, _, .cons _ r => by simp [r.length]
/-- what is plain of a def of the text's -/
structure Def (B : Base) (d : DefRec) (xs : List Str) : Prop where
  mem : d ∈ recsOf B.view
  bind : ∀ pm code doc vs, vs.length = xs.length → bindArgs (docDef d.name d.params d.body d.scope pm code doc) ⟨vs, []⟩ = pure (xs.zip vs)
  nd : xs.Nodup
  kind : ∀ L, ∀ x ∈ xs, d.scope.names.lookup x = some .local ∨ (d.scope.names.lookup x = some .cell ∧ ((cellsFrom (L + 1) d.scope.names []).lookup x).isSome = true)
  co : d.scope.isCoroutine = false
  gen : d.scope.isGenerator = false
  k : d.scope.kind = .function
abbrev defEnv (d : DefRec) (pm code doc : Value) (L a : Addr) : Env := callEnvC (docDef d.name d.params d.body d.scope pm code doc) L a
/-- the contract of a def out of its body's -/
theorem Fn.of {d : DefRec} {xs : List Str} {ps : List Pd} {p : Pd} (D : Def B d xs) (hl : xs.length = ps.length) (h : ∀ pm code doc L a, Ex B n (defEnv d pm code doc L a) (Binds xs ps) d.body (.ret p)) : Fn B (n + 1) d.name ps p := by
  obtain ⟨a, o, pm, code, doc, hg, ho, hdat, hcd⟩ := B.T.fn d D.mem
  refine ⟨a, o, _, hg, ho, hdat, fun A s vs Q E ro kb kp al hq => wpAny_call ?_⟩
  refine enter ro kb kp al (xs := xs) (by rw [al.length, hl]) ho hdat hcd rfl rfl rfl rfl D.co D.gen D.k (D.bind _ _ _ _ (by rw [al.length, hl])) D.nd D.kind fun L he h₁ tk₁ hin hout htk F => ?_
  refine h pm code doc L a _ _ he _ _ ro.deeper F fun v h' tk' F' l hv => ?_
  exact hq v h' tk' (fun b o e => F'.keep b o (hin b o e)) (Nat.le_trans htk l) hv
theorem FnF.of {d : DefRec} {xs : List Str} {ps : List Pd} {i : Int} {e : Expr} {pos : Pos} (D : Def B d xs) (hl : xs.length = ps.length) (hb : d.body = [.Return (some e) pos]) (h : ∀ pm code doc L a, EvF B n (defEnv d pm code doc L a) (Binds xs ps) e i) : FnF B (n + 1) d.name ps i := by
  obtain ⟨a, o, pm, code, doc, hg, ho, hdat, hcd⟩ := B.T.fn d D.mem
  refine ⟨a, o, _, hg, ho, hdat, fun A s vs Q E ro kb kp al hq => wpAny_call ?_⟩
  refine enter ro kb kp al (xs := xs) (by rw [al.length, hl]) ho hdat hcd rfl rfl rfl rfl D.co D.gen D.k (D.bind _ _ _ _ (by rw [al.length, hl])) D.nd D.kind fun L he h₁ tk₁ hin hout htk F => ?_
  rw [hb]
  refine wpAny_execs_cons (wpAny_Return_some (h pm code doc L a _ _ _ _ ro.deeper F.rd fun t h' tk' k l1 l2 => ?_))
  exact hq t h' tk' (fun b o e => k b o (F.keep b o (hin b o e))) (Nat.le_trans htk l1) l2
end
section
variable {B : Base} {n : Nat} {env : Env} {ρ ρc : Rho}

noncomputable def rangeI (m : Nat) : List Int := (List.range m).map fun (i : Nat) => (i : Int)
theorem rangeD_eq (m : Nat) : rangeD 0 1 m = (rangeI m).map D.int := by simp [rangeD, rangeI]
theorem It.range {x : Str} {np pos : Pos} {e : Expr} {m : Nat} (h : Ev B n env ρ e (is (.int m))) (hg : B.mg x = none) (hb : B.mb x = some (.type "range")) (hsz : m ≤ 1000) (hx : env.kindOf x = some .globalImplicit := by rfl)
    (hs : starEach [e] env = [(false, eval e env)] := by rfl) (hst : isStarred e = false := by rfl) (hd : (x == ("__debug__" : Str)) = false := by decide) : It B n env ρ (.Call (.Name x np) [e] [] pos) (((rangeI m).map D.int).map is) := by
  rw [← rangeD_eq]; exact It.range1 h hg hb hsz hx hs hst hd

/-- what a comprehension's block asks of its scope -/
structure Blk (env : Env) (scope : Scope) (cl : List (Str × Addr)) (x : Str) (ρ ρc : Rho) : Prop where
  clos : closureFor scope env = pure cl
  cell : ∀ y ∈ scope.names, y.2 ≠ .cell
  kind : scope.kind = .function
  names : ∀ y ∈ scope.names, y.2 = .local → scope.names.lookup y.1 = some .local
  hx : scope.names.lookup x = some .local
  taken : Taken env scope cl ρ ρc

theorem take_succ {α : Type} (xs : List α) (i : Nat) (a : α) (h : xs[i]? = some a) : xs.take (i + 1) = xs.take i ++ [a] := by rw [List.take_add_one, h]; rfl

/-- how a comprehension with a test is walked -/
theorem compIf_at {elt iter c : Expr} {x : Str} {px : Pos} {scope : Scope} {cl : List (Str × Addr)} {pos : Pos} {xs : List Int} {keep : Int → Bool} {f : Int → Int} (hit : It B n env ρ iter ((xs.map D.int).map is)) (b : Blk env scope cl x ρ ρc)
    (htest : ∀ i, i ∈ xs → ∀ v C, Tr B n (compEnvC scope cl C env) ((x, same v) :: (x, is (.int i)) :: ρc) c (keep i))
    (helt : ∀ i, i ∈ xs → keep i = true → ∀ v C, Ev B n (compEnvC scope cl C env) ((x, same v) :: (x, is (.int i)) :: ρc) elt (is (.int (f i))))
    {A : Around} {s : Shared} {Q E : Value → Shared → Prop} (ro : Room A n) (rd : Rd B env s.heap s.toks ρ)
    (hQ : ∀ h' tk' a ys, Kp s.heap h' → s.toks ≤ tk' → s.heap.get? a = none → h'.PlainList a ys.toArray → IntsAre ys ((xs.filter keep).map f) → Q (.ref a) { s with heap := h', toks := tk' })
    (hs : ∀ x, foldedSetIterable iter env x = pure x := by intro _; rfl) : wpAny (model B.prog B.w) A (eval (.ListComp elt [⟨.Name x px, iter, [c], 0⟩] scope pos) env) Q E s := by
  refine comp_at (fun lo i ys k => IntsAre ys (((xs.take i).filter keep).map f)) hit b.clos b.cell b.kind b.names b.hx b.taken (fun _ _ _ _ => by simpa using IntsAre.nil) (fun _ _ _ _ _ h _ => h) (fun lo i ys k h => ?_) (fun lo i p v ys C hp => ?_) ro rd (fun lo h' tk' a ys k l hn _ hl hJ => ?_) hs
  · rw [h.length, List.length_map]
    exact Nat.le_trans (List.length_filter_le _ _) (by simp; omega)
  · simp only [List.getElem?_map, Option.map_eq_some_iff] at hp
    obtain ⟨d, ⟨a, ha, rfl⟩, rfl⟩ := hp
    have hmem := List.mem_of_getElem? ha
    intro A s E ro rd hJ
    refine wpAny_tests_one (htest a hmem v C A s _ E ro rd fun h₁ tk₁ k₁ l₁ => ⟨⟨h₁, tk₁, rfl, k₁⟩, ?_⟩)
    have et := take_succ xs i a ha
    cases hk : keep a with
    | false =>
      simp only [Bool.false_eq_true, if_false]
      rw [et, List.filter_append]
      simpa [hk] using hJ
    | true =>
      simp only [if_true]
      refine helt a hmem hk v C A _ _ E ro (rd.keeps k₁ l₁) fun y h₂ tk₂ k₂ l₂ hy => ⟨⟨h₂, tk₂, rfl, k₂⟩, ?_⟩
      cases hy
      rw [et, List.filter_append, List.map_append]
      simpa [hk] using IntsAre.append hJ (.cons (f a) _ .nil)
  · simp only [List.length_map, List.take_length] at hJ
    exact hQ h' tk' a ys k l hn hl hJ
theorem Ev.compIf {elt iter c : Expr} {x : Str} {px : Pos} {scope : Scope} {cl : List (Str × Addr)} {pos : Pos} {xs : List Int} {keep : Int → Bool} {f : Int → Int} (hit : It B n env ρ iter ((xs.map D.int).map is)) (b : Blk env scope cl x ρ ρc)
    (htest : ∀ i, i ∈ xs → ∀ v C, Tr B n (compEnvC scope cl C env) ((x, same v) :: (x, is (.int i)) :: ρc) c (keep i))
    (helt : ∀ i, i ∈ xs → keep i = true → ∀ v C, Ev B n (compEnvC scope cl C env) ((x, same v) :: (x, is (.int i)) :: ρc) elt (is (.int (f i))))
    (hs : ∀ x, foldedSetIterable iter env x = pure x := by intro _; rfl) : Ev B n env ρ (.ListComp elt [⟨.Name x px, iter, [c], 0⟩] scope pos) (is (intsD ((xs.filter keep).map f))) :=
  fun A s Q E ro rd hQ => compIf_at hit b htest helt ro rd (fun h' tk' a ys k l _ hl hi => hQ _ h' tk' k l (.list hl.isList (are_ints hi))) hs
theorem Ev.compI {elt iter : Expr} {x : Str} {px : Pos} {scope : Scope} {cl : List (Str × Addr)} {pos : Pos} {xs : List Int} {f : Int → Int} (hit : It B n env ρ iter ((xs.map D.int).map is)) (b : Blk env scope cl x ρ ρc)
    (helt : ∀ i, i ∈ xs → ∀ v C, Ev B n (compEnvC scope cl C env) ((x, same v) :: (x, is (.int i)) :: ρc) elt (is (.int (f i))))
    (hs : ∀ x, foldedSetIterable iter env x = pure x := by intro _; rfl) : Ev B n env ρ (.ListComp elt [⟨.Name x px, iter, [], 0⟩] scope pos) (is (intsD (xs.map f))) := by
  refine Ev.comp (fun lo i ys k => IntsAre ys ((xs.take i).map f)) hit b.clos b.cell b.kind b.names b.hx b.taken (fun _ _ _ _ => by simpa using IntsAre.nil) (fun _ _ _ _ _ h _ => h) (fun lo i ys k h => ?_) (fun lo i p v ys C hp => ?_) (fun lo h k a ys _ hl hJ => ?_) hs
  · rw [h.length, List.length_map]
    simp; omega
  · simp only [List.getElem?_map, Option.map_eq_some_iff] at hp
    obtain ⟨d, ⟨a, ha, rfl⟩, rfl⟩ := hp
    have hmem := List.mem_of_getElem? ha
    intro A s E ro rd hJ
    refine wpAny_tests_nil ⟨⟨s.heap, s.toks, rfl, Kp.refl _⟩, ?_⟩
    simp only [if_true]
    refine helt a hmem v C A _ _ E ro rd fun y h₂ tk₂ k₂ l₂ hy => ⟨⟨h₂, tk₂, rfl, k₂⟩, ?_⟩
    cases hy
    rw [take_succ xs i a ha, List.map_append]
    exact IntsAre.append hJ (.cons (f a) _ .nil)
  · simp only [List.length_map, List.take_length] at hJ
    exact .list hl (are_ints hJ)

/-- ints and their tokens: rising, from lo up to k -/
noncomputable def Toks (lo k : Nat) (vs : List Value) (ns : List Int) : Prop := ∃ ts : List Nat, vs = List.zipWith Value.int ns ts ∧ ts.length = ns.length ∧ ts.Pairwise (· < ·) ∧ ∀ t ∈ ts, lo ≤ t ∧ t < k
theorem Toks.nil {lo k : Nat} : Toks lo k [] [] := ⟨[], rfl, rfl, .nil, fun _ h => (nomatch h)⟩
theorem Toks.later {lo k k' : Nat} {vs : List Value} {ns : List Int} (h : Toks lo k vs ns) (hl : k ≤ k') : Toks lo k' vs ns := by
  obtain ⟨ts, h1, h2, h3, h4⟩ := h
  exact ⟨ts, h1, h2, h3, fun t ht => ⟨(h4 t ht).1, Nat.lt_of_lt_of_le (h4 t ht).2 hl⟩⟩
theorem Toks.snoc {lo k k' t : Nat} {vs : List Value} {ns : List Int} {i : Int} (h : Toks lo k vs ns) (hlo : lo ≤ k) (h1 : k ≤ t) (h2 : t < k') : Toks lo k' (vs ++ [.int i t]) (ns ++ [i]) := by
  obtain ⟨ts, e1, e2, e3, e4⟩ := h
  refine ⟨ts ++ [t], ?_, by simp [e2], ?_, ?_⟩
  · rw [e1, List.zipWith_append (by omega)]; rfl
  · rw [List.pairwise_append]
    refine ⟨e3, by simp, fun a ha b hb => ?_⟩
    rw [List.mem_singleton.mp hb]
    have := (e4 a ha).2
    omega
  · intro u hu
    rcases List.mem_append.mp hu with hu | hu
    · have := e4 u hu; omega
    · rw [List.mem_singleton.mp hu]; omega
theorem zip_ints : ∀ (ns : List Int) (ts : List Nat), ts.length = ns.length → IntsAre (List.zipWith Value.int ns ts) ns
  | [], _, _ => by simpa using IntsAre.nil
  | n :: r, [], h => by simp at h
  | n :: r, t :: ts, h => .cons n t (zip_ints r ts (by simpa using h))
theorem Toks.ints {lo k : Nat} {vs : List Value} {ns : List Int} (h : Toks lo k vs ns) : IntsAre vs ns := by
  obtain ⟨ts, rfl, h2, _, _⟩ := h
  exact zip_ints _ _ h2
/-- a list of ints whose tokens are not nought and all apart -/
noncomputable def fl (ns : List Int) : Pd := ⟨fun h k v => ∃ a vs lo, v = .ref a ∧ h.IsList a vs.toArray ∧ 0 < lo ∧ Toks lo k vs ns, fun {h h' k k' v} ks hl ⟨a, vs, lo, e, hL, hp, ht⟩ => by
  obtain ⟨o, ho, hc, n, hd⟩ := hL
  exact ⟨a, vs, lo, e, ⟨o, ks _ _ _ _ ho hd, hc, n, hd⟩, hp, ht.later hl⟩⟩
theorem fl_is {ns : List Int} {h : Heap} {k : Nat} {v : Value} (x : (fl ns).P h k v) : (is (intsD ns)).P h k v := by
  obtain ⟨a, vs, lo, rfl, hL, _, ht⟩ := x
  exact .list hL (are_ints ht.ints)

theorem Ev.compF {elt iter : Expr} {x : Str} {px : Pos} {scope : Scope} {cl : List (Str × Addr)} {pos : Pos} {xs : List Int} {f : Int → Int} (hlo : 0 < B.lo) (hit : It B n env ρ iter ((xs.map D.int).map is)) (b : Blk env scope cl x ρ ρc)
    (helt : ∀ i, i ∈ xs → ∀ v C, EvF B n (compEnvC scope cl C env) ((x, same v) :: (x, is (.int i)) :: ρc) elt (f i))
    (hs : ∀ x, foldedSetIterable iter env x = pure x := by intro _; rfl) : Ev B n env ρ (.ListComp elt [⟨.Name x px, iter, [], 0⟩] scope pos) (fl (xs.map f)) := by
  refine Ev.comp (fun lo i ys k => lo ≤ k ∧ Toks lo k ys ((xs.take i).map f)) hit b.clos b.cell b.kind b.names b.hx b.taken (fun lo k _ hk => ⟨hk, by simpa using Toks.nil⟩) (fun _ _ _ _ _ h hl => ⟨Nat.le_trans h.1 hl, h.2.later hl⟩) (fun lo i ys k h => ?_) (fun lo i p v ys C hp => ?_) (fun lo h k a ys hlo' hl hJ => ?_) hs
  · rw [h.2.ints.length, List.length_map]
    simp; omega
  · simp only [List.getElem?_map, Option.map_eq_some_iff] at hp
    obtain ⟨d, ⟨a, ha, rfl⟩, rfl⟩ := hp
    have hmem := List.mem_of_getElem? ha
    intro A s E ro rd hJ
    refine wpAny_tests_nil ⟨⟨s.heap, s.toks, rfl, Kp.refl _⟩, ?_⟩
    simp only [if_true]
    refine helt a hmem v C A _ _ E ro rd fun t h₂ tk₂ k₂ l₁ l₂ => ⟨⟨h₂, tk₂, rfl, k₂⟩, ?_⟩
    rw [take_succ xs i a ha, List.map_append]
    exact ⟨Nat.le_trans hJ.1 (Nat.le_trans l₁ (Nat.le_of_lt l₂)), hJ.2.snoc hJ.1 l₁ l₂⟩
  · simp only [List.length_map, List.take_length] at hJ
    exact ⟨a, ys, lo, rfl, hl, Nat.lt_of_lt_of_le hlo hlo', hJ.2⟩
end
noncomputable def dd (i : Nat) : DefRec := match Mine.vw.main.body[i]? with
  | some (.FunctionDef nm a b _ _ _ sc _ _ pos) => ⟨nm, a, b, sc, pos⟩
  | _ => ⟨Str.ofString "", ⟨[], [], none, [], [], none, []⟩, [], ⟨.function, [], false, false, []⟩, ⟨0, 0, 0, 0⟩⟩
abbrev nm (s : String) : Str := Str.ofString s

/-- the text's own top -/
structure Mn (B : Base) : Prop where
  view : B.view = Mine.vw
  loose : B.loose = looseW Mine.vw [nm "_filemode_table"]
  lo : 0 < B.lo
theorem recs_eq : recsOf Mine.vw = [dd 0, dd 1, dd 2, dd 3, dd 4, dd 5, dd 6, dd 7, dd 8, dd 9, dd 10, dd 11, dd 12, dd 13, dd 34, dd 35, dd 36, dd 37, dd 38, dd 39, dd 40] := by with_unfolding_all rfl
theorem mem_0 : dd 0 ∈ recsOf Mine.vw := recs_eq ▸ List.mem_of_getElem? (i := 0) rfl
theorem mem_1 : dd 1 ∈ recsOf Mine.vw := recs_eq ▸ List.mem_of_getElem? (i := 1) rfl
theorem mem_2 : dd 2 ∈ recsOf Mine.vw := recs_eq ▸ List.mem_of_getElem? (i := 2) rfl
theorem mem_3 : dd 3 ∈ recsOf Mine.vw := recs_eq ▸ List.mem_of_getElem? (i := 3) rfl
theorem mem_4 : dd 4 ∈ recsOf Mine.vw := recs_eq ▸ List.mem_of_getElem? (i := 4) rfl
theorem mem_5 : dd 5 ∈ recsOf Mine.vw := recs_eq ▸ List.mem_of_getElem? (i := 5) rfl
theorem mem_6 : dd 6 ∈ recsOf Mine.vw := recs_eq ▸ List.mem_of_getElem? (i := 6) rfl
theorem mem_7 : dd 7 ∈ recsOf Mine.vw := recs_eq ▸ List.mem_of_getElem? (i := 7) rfl
theorem mem_8 : dd 8 ∈ recsOf Mine.vw := recs_eq ▸ List.mem_of_getElem? (i := 8) rfl
theorem mem_9 : dd 9 ∈ recsOf Mine.vw := recs_eq ▸ List.mem_of_getElem? (i := 9) rfl
theorem mem_10 : dd 10 ∈ recsOf Mine.vw := recs_eq ▸ List.mem_of_getElem? (i := 10) rfl
theorem mem_11 : dd 11 ∈ recsOf Mine.vw := recs_eq ▸ List.mem_of_getElem? (i := 11) rfl
theorem mem_12 : dd 12 ∈ recsOf Mine.vw := recs_eq ▸ List.mem_of_getElem? (i := 12) rfl
theorem mem_13 : dd 13 ∈ recsOf Mine.vw := recs_eq ▸ List.mem_of_getElem? (i := 13) rfl
theorem mem_34 : dd 34 ∈ recsOf Mine.vw := recs_eq ▸ List.mem_of_getElem? (i := 14) rfl
theorem mem_35 : dd 35 ∈ recsOf Mine.vw := recs_eq ▸ List.mem_of_getElem? (i := 15) rfl
theorem mem_36 : dd 36 ∈ recsOf Mine.vw := recs_eq ▸ List.mem_of_getElem? (i := 16) rfl
theorem mem_37 : dd 37 ∈ recsOf Mine.vw := recs_eq ▸ List.mem_of_getElem? (i := 17) rfl
theorem mem_38 : dd 38 ∈ recsOf Mine.vw := recs_eq ▸ List.mem_of_getElem? (i := 18) rfl
theorem mem_39 : dd 39 ∈ recsOf Mine.vw := recs_eq ▸ List.mem_of_getElem? (i := 19) rfl
theorem mem_40 : dd 40 ∈ recsOf Mine.vw := recs_eq ▸ List.mem_of_getElem? (i := 20) rfl
section
variable {B : Base} (M : Mn B)
include M
theorem def_0 : Def B (dd 0) [nm "expected", nm "actual"] where
  mem := by rw [M.view]; exact mem_0
  bind := fun pm code doc vs h => by
    match vs, h with
    | [v0, v1], _ => rfl
  nd := by decide
  kind := fun L x hx => by
    rcases List.mem_cons.mp hx with rfl | hx
    · exact .inl rfl
    rcases List.mem_cons.mp hx with rfl | hx
    · exact .inl rfl
    cases hx
  co := rfl
  gen := rfl
  k := rfl
theorem def_1 : Def B (dd 1) [nm "x", nm "y"] where
  mem := by rw [M.view]; exact mem_1
  bind := fun pm code doc vs h => by
    match vs, h with
    | [v0, v1], _ => rfl
  nd := by decide
  kind := fun L x hx => by
    rcases List.mem_cons.mp hx with rfl | hx
    · exact .inl rfl
    rcases List.mem_cons.mp hx with rfl | hx
    · exact .inl rfl
    cases hx
  co := rfl
  gen := rfl
  k := rfl
theorem def_2 : Def B (dd 2) [nm "a", nm "b"] where
  mem := by rw [M.view]; exact mem_2
  bind := fun pm code doc vs h => by
    match vs, h with
    | [v0, v1], _ => rfl
  nd := by decide
  kind := fun L x hx => by
    rcases List.mem_cons.mp hx with rfl | hx
    · exact .inl rfl
    rcases List.mem_cons.mp hx with rfl | hx
    · exact .inl rfl
    cases hx
  co := rfl
  gen := rfl
  k := rfl
theorem def_3 : Def B (dd 3) [nm "a", nm "b"] where
  mem := by rw [M.view]; exact mem_3
  bind := fun pm code doc vs h => by
    match vs, h with
    | [v0, v1], _ => rfl
  nd := by decide
  kind := fun L x hx => by
    rcases List.mem_cons.mp hx with rfl | hx
    · exact .inl rfl
    rcases List.mem_cons.mp hx with rfl | hx
    · exact .inl rfl
    cases hx
  co := rfl
  gen := rfl
  k := rfl
theorem def_4 : Def B (dd 4) [nm "a", nm "b"] where
  mem := by rw [M.view]; exact mem_4
  bind := fun pm code doc vs h => by
    match vs, h with
    | [v0, v1], _ => rfl
  nd := by decide
  kind := fun L x hx => by
    rcases List.mem_cons.mp hx with rfl | hx
    · exact .inl rfl
    rcases List.mem_cons.mp hx with rfl | hx
    · exact .inl rfl
    cases hx
  co := rfl
  gen := rfl
  k := rfl
theorem def_5 : Def B (dd 5) [nm "a", nm "b"] where
  mem := by rw [M.view]; exact mem_5
  bind := fun pm code doc vs h => by
    match vs, h with
    | [v0, v1], _ => rfl
  nd := by decide
  kind := fun L x hx => by
    rcases List.mem_cons.mp hx with rfl | hx
    · exact .inl rfl
    rcases List.mem_cons.mp hx with rfl | hx
    · exact .inl rfl
    cases hx
  co := rfl
  gen := rfl
  k := rfl
theorem def_6 : Def B (dd 6) [nm "a", nm "b"] where
  mem := by rw [M.view]; exact mem_6
  bind := fun pm code doc vs h => by
    match vs, h with
    | [v0, v1], _ => rfl
  nd := by decide
  kind := fun L x hx => by
    rcases List.mem_cons.mp hx with rfl | hx
    · exact .inl rfl
    rcases List.mem_cons.mp hx with rfl | hx
    · exact .inl rfl
    cases hx
  co := rfl
  gen := rfl
  k := rfl
theorem def_7 : Def B (dd 7) [nm "a", nm "b"] where
  mem := by rw [M.view]; exact mem_7
  bind := fun pm code doc vs h => by
    match vs, h with
    | [v0, v1], _ => rfl
  nd := by decide
  kind := fun L x hx => by
    rcases List.mem_cons.mp hx with rfl | hx
    · exact .inl rfl
    rcases List.mem_cons.mp hx with rfl | hx
    · exact .inl rfl
    cases hx
  co := rfl
  gen := rfl
  k := rfl
theorem def_8 : Def B (dd 8) [nm "a", nm "b"] where
  mem := by rw [M.view]; exact mem_8
  bind := fun pm code doc vs h => by
    match vs, h with
    | [v0, v1], _ => rfl
  nd := by decide
  kind := fun L x hx => by
    rcases List.mem_cons.mp hx with rfl | hx
    · exact .inl rfl
    rcases List.mem_cons.mp hx with rfl | hx
    · exact .inl rfl
    cases hx
  co := rfl
  gen := rfl
  k := rfl
theorem def_9 : Def B (dd 9) [nm "a", nm "b"] where
  mem := by rw [M.view]; exact mem_9
  bind := fun pm code doc vs h => by
    match vs, h with
    | [v0, v1], _ => rfl
  nd := by decide
  kind := fun L x hx => by
    rcases List.mem_cons.mp hx with rfl | hx
    · exact .inl rfl
    rcases List.mem_cons.mp hx with rfl | hx
    · exact .inl rfl
    cases hx
  co := rfl
  gen := rfl
  k := rfl
theorem def_10 : Def B (dd 10) [nm "a", nm "b"] where
  mem := by rw [M.view]; exact mem_10
  bind := fun pm code doc vs h => by
    match vs, h with
    | [v0, v1], _ => rfl
  nd := by decide
  kind := fun L x hx => by
    rcases List.mem_cons.mp hx with rfl | hx
    · exact .inl rfl
    rcases List.mem_cons.mp hx with rfl | hx
    · exact .inl rfl
    cases hx
  co := rfl
  gen := rfl
  k := rfl
theorem def_11 : Def B (dd 11) [nm "a", nm "b"] where
  mem := by rw [M.view]; exact mem_11
  bind := fun pm code doc vs h => by
    match vs, h with
    | [v0, v1], _ => rfl
  nd := by decide
  kind := fun L x hx => by
    rcases List.mem_cons.mp hx with rfl | hx
    · exact .inl rfl
    rcases List.mem_cons.mp hx with rfl | hx
    · exact .inl rfl
    cases hx
  co := rfl
  gen := rfl
  k := rfl
theorem def_12 : Def B (dd 12) [nm "mode"] where
  mem := by rw [M.view]; exact mem_12
  bind := fun pm code doc vs h => by
    match vs, h with
    | [v0], _ => rfl
  nd := by decide
  kind := fun L x hx => by
    rcases List.mem_cons.mp hx with rfl | hx
    · exact .inl rfl
    cases hx
  co := rfl
  gen := rfl
  k := rfl
theorem def_13 : Def B (dd 13) [nm "mode"] where
  mem := by rw [M.view]; exact mem_13
  bind := fun pm code doc vs h => by
    match vs, h with
    | [v0], _ => rfl
  nd := by decide
  kind := fun L x hx => by
    rcases List.mem_cons.mp hx with rfl | hx
    · exact .inl rfl
    cases hx
  co := rfl
  gen := rfl
  k := rfl
theorem def_34 : Def B (dd 34) [nm "mode"] where
  mem := by rw [M.view]; exact mem_34
  bind := fun pm code doc vs h => by
    match vs, h with
    | [v0], _ => rfl
  nd := by decide
  kind := fun L x hx => by
    rcases List.mem_cons.mp hx with rfl | hx
    · exact .inl rfl
    cases hx
  co := rfl
  gen := rfl
  k := rfl
theorem def_35 : Def B (dd 35) [nm "message"] where
  mem := by rw [M.view]; exact mem_35
  bind := fun pm code doc vs h => by
    match vs, h with
    | [v0], _ => rfl
  nd := by decide
  kind := fun L x hx => by
    rcases List.mem_cons.mp hx with rfl | hx
    · exact .inr ⟨rfl, rfl⟩
    cases hx
  co := rfl
  gen := rfl
  k := rfl
theorem def_36 : Def B (dd 36) [nm "row"] where
  mem := by rw [M.view]; exact mem_36
  bind := fun pm code doc vs h => by
    match vs, h with
    | [v0], _ => rfl
  nd := by decide
  kind := fun L x hx => by
    rcases List.mem_cons.mp hx with rfl | hx
    · exact .inr ⟨rfl, rfl⟩
    cases hx
  co := rfl
  gen := rfl
  k := rfl
theorem def_37 : Def B (dd 37) [nm "crossed"] where
  mem := by rw [M.view]; exact mem_37
  bind := fun pm code doc vs h => by
    match vs, h with
    | [v0], _ => rfl
  nd := by decide
  kind := fun L x hx => by
    rcases List.mem_cons.mp hx with rfl | hx
    · exact .inl rfl
    cases hx
  co := rfl
  gen := rfl
  k := rfl
theorem def_38 : Def B (dd 38) [nm "row"] where
  mem := by rw [M.view]; exact mem_38
  bind := fun pm code doc vs h => by
    match vs, h with
    | [v0], _ => rfl
  nd := by decide
  kind := fun L x hx => by
    rcases List.mem_cons.mp hx with rfl | hx
    · exact .inr ⟨rfl, rfl⟩
    cases hx
  co := rfl
  gen := rfl
  k := rfl
theorem def_39 : Def B (dd 39) [nm "message", nm "places", nm "above"] where
  mem := by rw [M.view]; exact mem_39
  bind := fun pm code doc vs h => by
    match vs, h with
    | [v0, v1, v2], _ => rfl
  nd := by decide
  kind := fun L x hx => by
    rcases List.mem_cons.mp hx with rfl | hx
    · exact .inl rfl
    rcases List.mem_cons.mp hx with rfl | hx
    · exact .inl rfl
    rcases List.mem_cons.mp hx with rfl | hx
    · exact .inl rfl
    cases hx
  co := rfl
  gen := rfl
  k := rfl
theorem fn_add {n : Nat} (a b : Int) : FnF B (n + 1) (nm "add") [is (.int a), is (.int b)] (a + b) :=
  FnF.of (d := dd 2) (def_2 M) rfl rfl fun pm code doc L ad => EvF.bin op_add (Ev.name (.head _)) (Ev.name (.tail _ (.head _)))
theorem fn_and_ {n : Nat} (a b : Int) : FnF B (n + 1) (nm "and_") [is (.int a), is (.int b)] (Builtin.bitAnd a b) :=
  FnF.of (d := dd 3) (def_3 M) rfl rfl fun pm code doc L ad => EvF.bin op_and (Ev.name (.head _)) (Ev.name (.tail _ (.head _)))
theorem fn_lshift {n : Nat} (a b : Int) (h0 : 0 ≤ b) (h1 : b ≤ 1000000) (h2 : a.natAbs < 2 ^ 64) : FnF B (n + 1) (nm "lshift") [is (.int a), is (.int b)] (a * 2 ^ b.toNat) :=
  FnF.of (d := dd 4) (def_4 M) rfl rfl fun pm code doc L ad => EvF.bin (op_shl h0 h1 h2) (Ev.name (.head _)) (Ev.name (.tail _ (.head _)))
theorem fn_mul {n : Nat} (a b : Int) (h : IntMulOk a b) : FnF B (n + 1) (nm "mul") [is (.int a), is (.int b)] (a * b) :=
  FnF.of (d := dd 5) (def_5 M) rfl rfl fun pm code doc L ad => EvF.bin (op_mul h) (Ev.name (.head _)) (Ev.name (.tail _ (.head _)))
theorem fn_or_ {n : Nat} (a b : Int) : FnF B (n + 1) (nm "or_") [is (.int a), is (.int b)] (Builtin.bitOr a b) :=
  FnF.of (d := dd 6) (def_6 M) rfl rfl fun pm code doc L ad => EvF.bin op_or (Ev.name (.head _)) (Ev.name (.tail _ (.head _)))
theorem fn_rshift {n : Nat} (a b : Int) (h0 : 0 ≤ a) (h1 : 0 ≤ b) : FnF B (n + 1) (nm "rshift") [is (.int a), is (.int b)] (a.fdiv (2 ^ b.toNat)) :=
  FnF.of (d := dd 7) (def_7 M) rfl rfl fun pm code doc L ad => EvF.bin (op_shr h0 h1) (Ev.name (.head _)) (Ev.name (.tail _ (.head _)))
theorem fn_sub {n : Nat} (a b : Int) : FnF B (n + 1) (nm "sub") [is (.int a), is (.int b)] (a - b) :=
  FnF.of (d := dd 8) (def_8 M) rfl rfl fun pm code doc L ad => EvF.bin op_sub (Ev.name (.head _)) (Ev.name (.tail _ (.head _)))
theorem fn_xor {n : Nat} (a b : Int) : FnF B (n + 1) (nm "xor") [is (.int a), is (.int b)] (Builtin.bitXor a b) :=
  FnF.of (d := dd 9) (def_9 M) rfl rfl fun pm code doc L ad => EvF.bin op_xor (Ev.name (.head _)) (Ev.name (.tail _ (.head _)))
theorem fn_imode {n : Nat} (a : Int) : FnF B (n + 1) (nm "S_IMODE") [is (.int a)] (Builtin.bitAnd a 4095) :=
  FnF.of (d := dd 12) (def_12 M) rfl rfl fun pm code doc L ad => EvF.bin op_and (Ev.name (.head _)) Ev.const_int
theorem fn_ifmt {n : Nat} (a : Int) : FnF B (n + 1) (nm "S_IFMT") [is (.int a)] (Builtin.bitAnd a 61440) :=
  FnF.of (d := dd 13) (def_13 M) rfl rfl fun pm code doc L ad => EvF.bin op_and (Ev.name (.head _)) Ev.const_int
theorem fn_cmp3 {n : Nat} (a b : Int) : Fn B (n + 1) (nm "three_way_cmp") [is (.int a), is (.int b)] (is (.int (b2i (decide (b < a)) - b2i (decide (a < b))))) :=
  Fn.of (d := dd 1) (def_1 M) rfl fun pm code doc L ad => Ex.one (Ex1.ret (Ev.bin (a := is (.bool (decide (b < a)))) (b := is (.bool (decide (a < b)))) (fun A s u v Q E _ i j h => by
    cases i; cases j
    exact sub_bool (h _ _ _ (Kp.refl _) (Nat.le_succ _) .int)) (Ev.cmp cm_gt (Ev.name (.head _)) (Ev.name (.tail _ (.head _)))) (Ev.cmp cm_lt (Ev.name (.head _)) (Ev.name (.tail _ (.head _))))))

omit M in
theorem free_five : ∀ x ∈ [nm "range", nm "len", nm "max", nm "enumerate", nm "ValueError"], x ∉ startupNames ∧ x ∉ looseW Mine.vw [nm "_filemode_table"] ∧ x ∉ (recsOf Mine.vw).map (·.name) ∧ x ∉ (litsOf Mine.vw).map (·.1) ∧ x ∉ (clssOf Mine.vw (looseW Mine.vw [nm "_filemode_table"])).map (·.name) := by decide +kernel
theorem mg_free (x : Str) (h1 : x ∉ startupNames) (h2 : x ∉ looseW Mine.vw [nm "_filemode_table"]) (h3 : x ∉ (recsOf Mine.vw).map (·.name)) (h4 : x ∉ (litsOf Mine.vw).map (·.1))
    (h5 : x ∉ (clssOf Mine.vw (looseW Mine.vw [nm "_filemode_table"])).map (·.name)) : B.mg x = none :=
  B.T.free x h1 (by rw [M.loose]; exact h2) (by rw [M.view]; exact h3) (by rw [M.view]; exact h4) (by rw [M.view, M.loose]; exact h5)
theorem mg_range : B.mg (nm "range") = none := let ⟨h1, h2, h3, h4, h5⟩ := free_five (nm "range") (by decide); mg_free M _ h1 h2 h3 h4 h5
theorem mg_len : B.mg (nm "len") = none := let ⟨h1, h2, h3, h4, h5⟩ := free_five (nm "len") (by decide); mg_free M _ h1 h2 h3 h4 h5
theorem mg_max : B.mg (nm "max") = none := let ⟨h1, h2, h3, h4, h5⟩ := free_five (nm "max") (by decide); mg_free M _ h1 h2 h3 h4 h5
theorem mg_enum : B.mg (nm "enumerate") = none := let ⟨h1, h2, h3, h4, h5⟩ := free_five (nm "enumerate") (by decide); mg_free M _ h1 h2 h3 h4 h5
theorem mg_vale : B.mg (nm "ValueError") = none := let ⟨h1, h2, h3, h4, h5⟩ := free_five (nm "ValueError") (by decide); mg_free M _ h1 h2 h3 h4 h5
omit M
theorem mb_range : B.mb (nm "range") = some (.type "range") := (B.T.builtins _ (by decide)).trans (by decide +kernel)
theorem mb_len : B.mb (nm "len") = some (.builtin "len") := (B.T.builtins _ (by decide)).trans (by decide +kernel)
theorem mb_max : B.mb (nm "max") = some (.builtin "max") := (B.T.builtins _ (by decide)).trans (by decide +kernel)
theorem mb_enum : B.mb (nm "enumerate") = some (.type "enumerate") := (B.T.builtins _ (by decide)).trans (by decide +kernel)
theorem mb_vale : B.mb (nm "ValueError") = some (.type "ValueError") := (B.T.builtins _ (by decide)).trans (by decide +kernel)
end
theorem offs_nil {ρ : Rho} {x : Str} : ∀ q ∈ ([] : Rho), q ∈ ρ ∧ q.1 ≠ x := fun _ h => (nomatch h)
theorem offs_cons {ρ ρ' : Rho} {x y : Str} {p : Pd} (hm : (y, p) ∈ ρ) (hne : y ≠ x) (r : ∀ q ∈ ρ', q ∈ ρ ∧ q.1 ≠ x) : ∀ q ∈ (y, p) :: ρ', q ∈ ρ ∧ q.1 ≠ x := fun q hq => by
  rcases List.mem_cons.mp hq with rfl | hq
  · exact ⟨hm, hne⟩
  · exact r q hq
theorem subs_nil {ρ : Rho} : ∀ q ∈ ([] : Rho), q ∈ ρ := fun _ h => (nomatch h)
theorem subs_cons {ρ ρ' : Rho} {y : Str} {p : Pd} (hm : (y, p) ∈ ρ) (r : ∀ q ∈ ρ', q ∈ ρ) : ∀ q ∈ (y, p) :: ρ', q ∈ ρ := fun q hq => by
  rcases List.mem_cons.mp hq with rfl | hq
  · exact hm
  · exact r q hq
theorem taken_nil {env : Env} {scope : Scope} {cl : List (Str × Addr)} {ρ : Rho} : Taken env scope cl ρ [] := fun _ _ h => (nomatch h)
theorem taken_cons {env : Env} {scope : Scope} {cl : List (Str × Addr)} {ρ ρc : Rho} {y : Str} {p : Pd} (hm : (y, p) ∈ ρ) (h1 : env.kindOf y = some .cell) (h2 : (relabel scope env).names.lookup y = some .cell) (h3 : cl.lookup y = env.cells.lookup y)
    (r : Taken env scope cl ρ ρc) : Taken env scope cl ρ ((y, p) :: ρc) := fun z q hq => by
  rcases List.mem_cons.mp hq with hq | hq
  · cases hq; exact ⟨hm, h1, h2, h3⟩
  · exact r z q hq
local macro_rules | `(tactic| tb_rel) => `(tactic| first | with_reducible exact List.mem_cons_self | (with_reducible refine List.mem_cons_of_mem _ ?_; tb_rel))
local macro_rules | `(tactic| ktr_rel) => `(tactic| first
  | with_reducible exact offs_nil
  | with_reducible exact subs_nil
  | with_reducible exact taken_nil
  | (refine offs_cons (by tb_rel) (by decide) ?_; ktr_rel)
  | (refine subs_cons (by tb_rel) ?_; ktr_rel)
  | (refine taken_cons (by tb_rel) (by rfl) (by rfl) (by rfl) ?_; ktr_rel))
local macro_rules | `(tactic| ktr_unf) => `(tactic| (refine ⟨by with_unfolding_all rfl, by decide, rfl, by decide, rfl, by ktr_rel⟩))
/-- one round of sums and differences -/
noncomputable def xstep (st : Int) (r : List Int) : List Int := (rangeI 16).map fun p =>
  if Builtin.bitAnd p st == 0 then r.getD p.toNat 0 + r.getD (p + st).toNat 0 else r.getD (p - st).toNat 0 - r.getD p.toNat 0
noncomputable def crossed (r : List Int) : List Int := xstep 8 (xstep 4 (xstep 2 (xstep 1 r)))
theorem xstep_length (st : Int) (r : List Int) : (xstep st r).length = 16 := by simp [xstep, rangeI]
theorem crossed_length (r : List Int) : (crossed r).length = 16 := xstep_length _ _

theorem get_ints {r : List Int} {k : Int} (h0 : 0 ≤ k) (h1 : k < r.length) : (r.map D.int)[k.toNat]? = some (.int (r.getD k.toNat 0)) := by
  have : k.toNat < r.length := by omega
  simp [List.getD, this]
theorem mem_range {m : Nat} {i : Int} (h : i ∈ rangeI m) : 0 ≤ i ∧ i < m := by
  simp only [rangeI, List.mem_map, List.mem_range] at h
  obtain ⟨j, hj, rfl⟩ := h
  omega
theorem bit_in : ∀ i ∈ rangeI 16, ∀ st ∈ ([1, 2, 4, 8] : List Int), (Builtin.bitAnd i st == 0) = true → i + st < 16 := by decide +kernel
theorem bit_out : ∀ i ∈ rangeI 16, ∀ st ∈ ([1, 2, 4, 8] : List Int), (Builtin.bitAnd i st == 0) = false → 0 ≤ i - st := by decide +kernel

section
variable {B : Base} (M : Mn B)
include M
noncomputable def rows (r : List Int) : Nat → List Int
  | 0 => r
  | 1 => xstep 1 r
  | 2 => xstep 2 (xstep 1 r)
  | 3 => xstep 4 (xstep 2 (xstep 1 r))
  | _ => crossed r
noncomputable def rowPd (r : List Int) : Nat → Pd
  | 0 => is (intsD r)
  | i + 1 => fl (rows r (i + 1))
omit M in
theorem rows_length {r : List Int} (h : r.length = 16) : ∀ i, (rows r i).length = 16
  | 0 => h
  | 1 => xstep_length _ _
  | 2 => xstep_length _ _
  | 3 => xstep_length _ _
  | _ + 4 => xstep_length _ _
omit M in
theorem rowPd_is {r : List Int} : ∀ {i : Nat} {h : Heap} {k : Nat} {v : Value}, (rowPd r i).P h k v → (is (intsD (rows r i))).P h k v
  | 0, _, _, _, x => x
  | _ + 1, _, _, _, x => fl_is x
noncomputable def stp : Nat → Int
  | 0 => 1
  | 1 => 2
  | 2 => 4
  | _ => 8
omit M in
theorem rows_succ (r : List Int) : ∀ i, i < 4 → rows r (i + 1) = xstep (stp i) (rows r i)
  | 0, _ => rfl
  | 1, _ => rfl
  | 2, _ => rfl
  | 3, _ => rfl
  | _ + 4, h => by omega
omit M in
theorem stp_mem : ∀ i, stp i ∈ ([1, 2, 4, 8] : List Int)
  | 0 => by decide
  | 1 => by decide
  | 2 => by decide
  | _ + 3 => by simp [stp]

omit M in
theorem stp_pos : ∀ i, 1 ≤ stp i ∧ stp i ≤ 8
  | 0 => by decide
  | 1 => by decide
  | 2 => by decide
  | _ + 3 => by simp [stp]

theorem fn_crossed {n : Nat} (r : List Int) (hr : r.length = 16) : Fn B (n + 3) (nm "_law_crossed") [is (intsD r)] (fl (crossed r)) := by
  refine Fn.of (d := dd 36) (def_36 M) rfl fun pm code doc L ad => ?_
  refine Ex.cons (ρ₁ := [(nm "row", fl (crossed r))]) ?_ (Ex.one (Ex1.ret (Ev.name (.head _))))
  refine Ex1.for (items := ([1, 2, 4, 8].map D.int).map is) (fun i => [(nm "row", rowPd r i)]) (fun i => [(nm "step", is (.int (stp i))), (nm "row", rowPd r i)]) 4 ?_ (fun p hp => hp) ?_ ?_ (.inl ⟨rfl, Ex.nil⟩)
  · exact It.tup (Ev.tup (ds := [1, 2, 4, 8].map D.int) (EvL.cons Ev.const_int (EvL.cons Ev.const_int (EvL.cons Ev.const_int (EvL.cons Ev.const_int EvL.nil)))) (by decide)) (by decide)
  · intro i p hp _
    have : p = is (.int (stp i)) := by
      match i, hp with
      | 0, hp => simpa [stp] using hp.symm
      | 1, hp => simpa [stp] using hp.symm
      | 2, hp => simpa [stp] using hp.symm
      | 3, hp => simpa [stp] using hp.symm
      | i + 4, hp => simp at hp
    subst this
    exact AsT.name
  · intro i hi _
    have e : rowPd r (i + 1) = fl ((rangeI 16).map fun p => if Builtin.bitAnd p (stp i) == 0 then (rows r i).getD p.toNat 0 + (rows r i).getD (p + stp i).toNat 0 else (rows r i).getD (p - stp i).toNat 0 - (rows r i).getD p.toNat 0) := by
      show fl (rows r (i + 1)) = _
      rw [rows_succ r i hi]; rfl
    show Ex B (n + 2) _ _ _ (.next [(nm "row", rowPd r (i + 1))])
    rw [e]
    have hl := rows_length hr i
    refine Ex.one (Ex1.assign (Ev.compF (cl := [(nm "step", L + 1 + 1), (nm "row", L + 1)]) (ρc := [(nm "step", is (.int (stp i))), (nm "row", rowPd r i)]) M.lo (It.range (m := 16) Ev.const_int (mg_range M) mb_range (by decide)) ?_ ?_))
    · ktr_unf
    · intro p hp v C
      obtain ⟨hp0, hp1⟩ := mem_range hp
      obtain ⟨hs0, hs1⟩ := stp_pos i
      have hrow : ∀ env' pos, Ev B (n + 2) env' ((nm "p", same v) :: (nm "p", is (.int p)) :: (nm "step", is (.int (stp i))) :: [(nm "row", rowPd r i)]) (.Name (nm "row") pos) (is (intsD (rows r i))) := fun _ _ =>
        (Ev.name (by tb_rel)).mono fun _ _ _ x => rowPd_is x
      refine EvF.ite (c := Builtin.bitAnd p (stp i) == 0) (Tr.cmp cm_eq (EvF.bin op_and (Ev.name (by tb_rel)) (Ev.name (by tb_rel))).ev Ev.const_int) (fun hc => ?_) fun hc => ?_
      · rw [if_pos hc]
        have := bit_in p hp _ (stp_mem i) hc
        exact EvF.call (fn_add M _ _) (EvL.cons (Ev.item (hrow _ _) (Ev.name (by tb_rel)) hp0 (by omega) (get_ints hp0 (by omega))) (EvL.cons (Ev.item (hrow _ _) (EvF.bin op_add (Ev.name (by tb_rel)) (Ev.name (by tb_rel))).ev (by omega) (by omega) (get_ints (by omega) (by omega))) EvL.nil))
      · rw [if_neg (by simp [hc])]
        have := bit_out p hp _ (stp_mem i) hc
        exact EvF.call (fn_sub M _ _) (EvL.cons (Ev.item (hrow _ _) (EvF.bin op_sub (Ev.name (by tb_rel)) (Ev.name (by tb_rel))).ev (by omega) (by omega) (get_ints (by omega) (by omega))) (EvL.cons (Ev.item (hrow _ _) (Ev.name (by tb_rel)) hp0 (by omega) (get_ints hp0 (by omega))) EvL.nil))
end
theorem small_le {n : Nat} (h : n ≤ 64) : n ≤ sizeLine := by rw [sizeLine_eq]; omega
theorem EvL.ci {B : Base} {n : Nat} {env : Env} {ρ : Rho} {i : Int} {k : Nat} {pos : Pos} {es : List Expr} {ps : List Pd} (h : EvL B n env ρ es ps) : EvL B n env ρ (.Constant (.int i) k pos :: es) (is (.int i) :: ps) := EvL.cons Ev.const_int h rfl
noncomputable def oddL : List Int := [0, 1, 1, 0, 1, 0, 0, 1, 1, 0, 0, 1, 0, 1, 1, 0]
noncomputable def word (m : Int) : List Int := (rangeI 16).map fun p => (m.fdiv 16 + oddL.getD (Builtin.bitAnd (m.fmod 16) p).toNat 0).fmod 2
theorem word_length (m : Int) : (word m).length = 16 := by simp [word, rangeI]
theorem odd_in : ∀ m ∈ rangeI 32, ∀ p ∈ rangeI 16, 0 ≤ Builtin.bitAnd (m.fmod 16) p ∧ Builtin.bitAnd (m.fmod 16) p < 16 := by decide +kernel
section
variable {B : Base} (M : Mn B)
include M
theorem fn_word {n : Nat} (m : Int) (hm : m ∈ rangeI 32) : Fn B (n + 1) (nm "_law_word") [is (.int m)] (is (intsD (word m))) := by
  refine Fn.of (d := dd 35) (def_35 M) rfl fun pm code doc L ad => ?_
  dsimp only [Binds]
  refine Ex.cons (ρ₁ := [(nm "odd", is (.tup (oddL.map D.int))), (nm "message", is (.int m))]) ?_ ?_
  · refine Ex1.assign ?_
    refine Ev.tup ?_ ?_
    · simp only [oddL, List.map_cons, List.map_nil]
      (iterate 16 refine EvL.ci ?_)
      exact EvL.nil
    · exact small_le (by decide)
  · refine Ex.one (Ex1.ret ?_)
    refine Ev.compI (cl := [(nm "odd", L + 1 + 1), (nm "message", L + 1)]) (ρc := [(nm "odd", is (.tup (oddL.map D.int))), (nm "message", is (.int m))]) (It.range (m := 16) Ev.const_int (mg_range M) mb_range (by decide)) ?_ ?_
    · ktr_unf
    · intro p hp v C
      obtain ⟨h0, h1⟩ := odd_in m hm p hp
      refine (EvF.bin (op_mod (by decide)) (EvF.bin op_add (EvF.bin (op_div (by decide) (by decide)) (Ev.name (by tb_rel)) Ev.const_int).ev ?_).ev Ev.const_int).ev
      exact Ev.itemT (Ev.name (by tb_rel)) (EvF.bin op_and (EvF.bin (op_mod (by decide)) (Ev.name (by tb_rel)) Ev.const_int).ev (Ev.name (by tb_rel))).ev h0 (by omega) (get_ints h0 (by simpa [oddL] using h1))
end
theorem All.keepsS {h h' : Heap} {k k' : Nat} (hk : KpS h h') (hl : k ≤ k') : ∀ {vs ps}, All h k vs ps → All h' k' vs ps
  | _, _, .nil => .nil
  | _, _, .cons (p := p) a r => .cons (p.mono hk hl a) (r.keepsS hk hl)
/-- a tuple, a list, place by place -/
noncomputable def tupP (ps : List Pd) : Pd := ⟨fun h k v => ∃ a vs, v = .ref a ∧ IsTup h a vs.toArray ∧ All h k vs ps, fun {h h' k k' v} ks hl x => by
  obtain ⟨a, vs, e, ⟨o, ho, hc, n, hd⟩, r⟩ := x
  exact ⟨a, vs, e, ⟨o, ks _ _ _ _ ho hd, hc, n, hd⟩, r.keepsS ks hl⟩⟩
noncomputable def lstP (ps : List Pd) : Pd := ⟨fun h k v => ∃ a vs, v = .ref a ∧ h.IsList a vs.toArray ∧ All h k vs ps, fun {h h' k k' v} ks hl x => by
  obtain ⟨a, vs, e, ⟨o, ho, hc, n, hd⟩, r⟩ := x
  exact ⟨a, vs, e, ⟨o, ks _ _ _ _ ho hd, hc, n, hd⟩, r.keepsS ks hl⟩⟩
theorem tup_tupP {ds : List D} {h : Heap} {k : Nat} {v : Value} (x : (is (.tup ds)).P h k v) : (tupP (ds.map is)).P h k v := by
  cases x with | tup hl r => exact ⟨_, _, rfl, hl, All.of_isL r⟩
theorem list_lstP {ds : List D} {h : Heap} {k : Nat} {v : Value} (x : (is (.list ds)).P h k v) : (lstP (ds.map is)).P h k v := by
  cases x with | list hl r => exact ⟨_, _, rfl, hl, All.of_isL r⟩
theorem All.get {h : Heap} {k : Nat} : ∀ {vs ps}, All h k vs ps → ∀ {i : Nat} {p : Pd}, ps[i]? = some p → ∃ v, vs[i]? = some v ∧ p.P h k v
  | _, _, .nil, _, _, e => by simp at e
  | _, _, .cons a r, 0, _, e => by simp at e; subst e; exact ⟨_, rfl, a⟩
  | _, _, .cons a r, i + 1, _, e => by
    obtain ⟨v, h1, h2⟩ := r.get (i := i) (by simpa using e)
    exact ⟨v, by simpa using h1, h2⟩

section
variable {prog : Program} {w : World} {A : Around} {E : Value → Shared → Prop} {s : Shared}
theorem nextOf_tuple_item {it t : Addr} {i : Nat} {items : Array Value} {x : Value} {Q : Value → Shared → Prop} (hit : s.heap.IsTupleIter it t i) (ht : s.heap.IsTuple t items) (hx : items[i]? = some x)
    (hQ : ∀ h', h'.IsTupleIter it t (i + 1) → Heap.SameBut it s.heap h' → Q x { s with heap := h' }) : wpAny (model prog w) A (Builtin.SmallTypes.nextOf (.ref it)) Q E s := by
  obtain ⟨o, ho, hc, hd⟩ := id hit
  obtain ⟨ol, hol, _, nl, hdl⟩ := ht
  have hT : s.TypeIs (.ref it) "tuple_iterator" := ⟨o, ho, hc⟩
  unfold Builtin.SmallTypes.nextOf
  refine wpAny_bind (wpAny_callSpecial?_slot (name := Str.ofString "__next__") hT F.slot_tuple_iterator_next
    (wpAny_call_entry F.slot_tuple_iterator_next hT F.entry_tuple_iterator_next ?_ (F.args_tuple_iterator_next_1 _)))
  show wpAny _ _ (field (.ref it) 0 >>= _) _ _ s
  refine wpAny_bind (wpAny_field ho hd (x := .ref t) rfl ?_)
  show wpAny _ _ (if (Value.ref t == Value.none) = true then _ else _) _ _ s
  rw [if_neg (show ¬ ((Value.ref t == Value.none) = true) from Bool.false_ne_true)]
  show wpAny _ _ (field (.ref it) 1 >>= _) _ _ s
  refine wpAny_bind (wpAny_field ho hd (x := .int i 0) rfl ?_)
  show wpAny _ _ (seqItems? (.ref t) >>= _) _ _ s
  refine wpAny_bind (wpAny_seqItems hol hdl ?_)
  simp only [Int.toNat_natCast, hx]
  refine wpAny_bind (wpAny_setField ho hd (by simp) (wpAny_pure ⟨x, rfl, wpAny_pure (hQ _ ?_ (Heap.SameBut.update ..))⟩))
  exact ⟨_, Heap.get?_update_self _ ho (Obj.isFreed_of_fields (Obj.data_mapFields hd _)), (Obj.cls_mapFields ..).trans hc, by
    rw [Obj.data_mapFields hd]; simp [rawInt]⟩
theorem nextOf_tuple_end {it t : Addr} {i : Nat} {items : Array Value} {Q : Value → Shared → Prop} (hh : A.handled = none) (hit : s.heap.IsTupleIter it t i) (ht : s.heap.IsTuple t items) (hx : items[i]? = none)
    (hE : ∀ h' e, Heap.ExtBut it s.heap h' → (∃ o, h'.get? e = some o ∧ o.cls = .type "StopIteration") → E (.ref e) { s with heap := h' }) : wpAny (model prog w) A (Builtin.SmallTypes.nextOf (.ref it)) Q E s := by
  obtain ⟨o, ho, hc, hd⟩ := id hit
  obtain ⟨ol, hol, _, nl, hdl⟩ := ht
  have hT : s.TypeIs (.ref it) "tuple_iterator" := ⟨o, ho, hc⟩
  unfold Builtin.SmallTypes.nextOf
  refine wpAny_bind (wpAny_callSpecial?_slot (name := Str.ofString "__next__") hT F.slot_tuple_iterator_next
    (wpAny_call_entry F.slot_tuple_iterator_next hT F.entry_tuple_iterator_next ?_ (F.args_tuple_iterator_next_1 _)))
  show wpAny _ _ (field (.ref it) 0 >>= _) _ _ s
  refine wpAny_bind (wpAny_field ho hd (x := .ref t) rfl ?_)
  show wpAny _ _ (if (Value.ref t == Value.none) = true then _ else _) _ _ s
  rw [if_neg (show ¬ ((Value.ref t == Value.none) = true) from Bool.false_ne_true)]
  show wpAny _ _ (field (.ref it) 1 >>= _) _ _ s
  refine wpAny_bind (wpAny_field ho hd (x := .int i 0) rfl ?_)
  show wpAny _ _ (seqItems? (.ref t) >>= _) _ _ s
  refine wpAny_bind (wpAny_seqItems hol hdl ?_)
  simp only [Int.toNat_natCast, hx]
  refine wpAny_bind (wpAny_rule (wpAny_bind (wpAny_setField ho hd (by simp) ?_)))
  show wpAny _ _ (newExc (.type "StopIteration") [] >>= _) _ _ _
  refine wpAny_bind ?_
  simp only [newExc, newTuple]
  refine wpAny_bind (wpAny_newObj_type ?_ (by size_fits))
  refine wpAny_bind (m := firstArgMember _ _) (wpAny_of_eq (a := Value.none) (by first | rfl | (simp only [firstArgMember]; rfl)) ?_)
  refine wpAny_newObj_type ?_ (by size_fits)
  simp only [raiseNew]
  refine wpAny_bind (wpAny_handled ?_)
  first | rw [show A.in1.handled = none from hh] | rw [hh]
  refine wpAny_bind (wpAny_pure (wpAny_throw ?_))
  exact hE _ _ (((Heap.SameBut.update ..).extBut.push _).push _) ⟨_, Heap.get?_push_size _ rfl, rfl⟩
end
theorem Draws.tuple {prog : Program} {w : World} {A : Around} (hh : A.handled = none) (it l : Addr) (hne : l ≠ it) (items : Array Value) :
    Draws prog w A it [it, l] items.size (fun i v => items[i]? = some v) (fun i h => h.IsTupleIter it l i ∧ h.IsTuple l items) where
  live := fun _ _ st => let ⟨o, ho, _⟩ := st.1; ⟨o, ho⟩
  frame := fun _ _ _ st hk => ⟨st.1.at fun o e => hk it (by simp) o e, st.2.at fun o e => hk l (by simp) o e⟩
  item := fun i s Q E hi st hQ => by
    refine nextOf_tuple_item st.1 st.2 (x := items[i]) (by simp [hi]) fun h' hit' hs' => ?_
    exact hQ _ h' s.toks (by simp [hi]) ⟨hit', st.2.extBut hs'.extBut hne⟩ hs'
  done := fun s Q E st hE => nextOf_tuple_end hh st.1 st.2 (by simp) hE

open AutoSeq1 (wpAny_loadPart') in
set_option maxRecDepth 100000 in
theorem meets_enum_tup (l : Addr) (items : Array Value) (n : Nat) (dct : Option Addr) (sl : Array (Option Value)) :
    Meets (Builtin.«enumerate.__new__» ⟨[.type "enumerate", .ref l], []⟩) (fun _ R s => s.heap.get? l = some { cls := .type "tuple", dict := dct, data := .seq items n, slots := sl } ∧
      R (.ok (.ret (.ref (s.heap.push { cls := .type "tuple_iterator", data := .fields #[.ref l, .int 0 0] }).objs.size)))
        { s with heap := (s.heap.push { cls := .type "tuple_iterator", data := .fields #[.ref l, .int 0 0] }).push { cls := .type "enumerate", data := .fields #[.none, .bool false, .ref s.heap.objs.size, rawInt 0, .none, .none] } }) :=
  .of_wp fun prog w A R s h => by
    obtain ⟨hp, g, d, tk, os⟩ := s; obtain ⟨hl, h⟩ := h
    have hsub := sub_enumerate
    have hL : Heap.IsTuple (Shared.heap ⟨hp, g, d, tk, os⟩) l items := ⟨_, hl, rfl, n, rfl⟩
    wp_walk using wpAny_loadPart' hl
    refine wpAny_stack_any fun st => wpAny_pure ?_
    split
    · rename_i c _ _ _ _ _
      cases (c == Value.type "enumerate")
      · wp_walk using wpAny_loadPart' hl, wpAny_pyIter_tuple hL
        exact ⟨_, rfl, h⟩
      · wp_walk using wpAny_loadPart' hl, wpAny_pyIter_tuple hL
        exact ⟨_, rfl, h⟩
    · wp_walk using wpAny_loadPart' hl, wpAny_pyIter_tuple hL
      exact ⟨_, rfl, h⟩
theorem call_enum_tup {prog : Program} {w : World} {A : Around} {E : Value → Shared → Prop} {s : Shared} {l : Addr} {items : Array Value} {Q : Value → Shared → Prop} (hL : s.heap.IsTuple l items)
    (h : ∀ h', IsEnum h' (s.heap.objs.size + 1) s.heap.objs.size 0 .none → h'.IsTupleIter s.heap.objs.size l 0 → h'.objs.size = s.heap.objs.size + 2 →
      (∀ b o, s.heap.get? b = some o → h'.get? b = some o) → Q (.ref (s.heap.objs.size + 1)) { s with heap := h' }) :
    wpAny (model prog w) A (PySem.call (.type "enumerate") [.ref l]) Q E s := by
  obtain ⟨⟨c, dct, dt, sl⟩, hl, hc, n, hd⟩ := hL
  replace hc : c = .type "tuple" := hc
  replace hd : dt = .seq items n := hd
  subst hc hd
  refine callType_new F.called_enumerate (by decide) (F.typeCall_enumerate_1 _) (F.newCall_enumerate_1 _) (fun obj => F.args_object_init_2 obj _) F.entry_enumerate_new
    (meets_enum_tup l items n dct sl) ⟨hl, ?_⟩
  have hz : (s.heap.push { cls := .type "tuple_iterator", data := .fields #[.ref l, .int 0 0] }).objs.size = s.heap.objs.size + 1 := Heap.size_push ..
  show _ ∧ _
  rw [hz]
  have he : IsEnum ((s.heap.push { cls := .type "tuple_iterator", data := .fields #[.ref l, .int 0 0] }).push
      { cls := .type "enumerate", data := .fields #[.none, .bool false, .ref s.heap.objs.size, rawInt 0, .none, .none] }) (s.heap.objs.size + 1) s.heap.objs.size 0 .none := by
    have := Heap.get?_push_size (s.heap.push { cls := .type "tuple_iterator", data := .fields #[.ref l, .int 0 0] })
      (o := { cls := .type "enumerate", data := .fields #[.none, .bool false, .ref s.heap.objs.size, rawInt 0, .none, .none] }) rfl
    rw [hz] at this; exact this
  exact ⟨⟨_, he, rfl⟩, h _ he ⟨_, Heap.get?_push_of_some _ (Heap.get?_push_size _ rfl), rfl, rfl⟩ (by rw [Heap.size_push, hz]) fun b o x => Heap.get?_push_of_some _ (Heap.get?_push_of_some _ x)⟩

section
variable {B : Base} {n : Nat} {env : Env} {ρ : Rho}
/-- what is walked by enumerate -/
structure WkD (B : Base) (A : Around) (h₀ : Heap) (items : List Pd) (en it : Addr) (fp : List Addr) (P : Nat → Value → Prop) (St : Nat → Heap → Prop) (h : Heap) (k : Nat) : Prop where
  D : Draws B.prog B.w A.in1 it fp items.length P St
  isen : IsEnum h en it 0 .none
  st : St 0 h
  ne : en ≠ it
  enf : en ∉ fp
  itf : it ∈ fp
  lt : ∀ b ∈ fp, b < h.objs.size
  newE : h₀.get? en = none
  newI : h₀.get? it = none
  kind : ∀ i h, St i h → ∀ b ∈ fp, ∃ o, h.get? b = some o ∧ ((∃ fs, o.data = .fields fs) ∨ ∃ vs n, o.data = .seq vs n)
  kindI : ∀ i h, St i h → ∃ o fs, h.get? it = some o ∧ o.data = .fields fs
  item : ∀ i v p, P i v → items[i]? = some p → p.P h k v
noncomputable def ItD (B : Base) (n : Nat) (env : Env) (ρ : Rho) (e : Expr) (items : List Pd) : Prop :=
  ∀ (A : Around) (s : Shared) (Q E : Value → Shared → Prop), Room A n → Rd B env s.heap s.toks ρ →
    (∀ en it fp P St h' tk', WkD B A s.heap items en it fp P St h' tk' → Kp s.heap h' → s.toks ≤ tk' → Q (.ref en) { s with heap := h', toks := tk' }) →
    wpAny (model B.prog B.w) A (eval e env) (fun xv s₁ => wpAny (model B.prog B.w) A (pyIter xv) Q E s₁) E s
theorem ItD.list {x : Str} {np pos : Pos} {e : Expr} {ps : List Pd} (h : Ev B n env ρ e (lstP ps)) (hg : B.mg x = none) (hb : B.mb x = some (.type "enumerate")) (hx : env.kindOf x = some .globalImplicit := by rfl)
    (hst : isStarred e = false := by rfl) (hd : (x == ("__debug__" : Str)) = false := by decide) : ItD B n env ρ (.Call (.Name x np) [e] [] pos) ps :=
  fun A s Q E ro rd hq => by
    refine Call_ (built_name rd hx hg hb ?_ hd)
    have ha := (EvL.cons h EvL.nil hst) A s pos (fun vs s₁ => wpAny (model B.prog B.w) A (PySem.call (.type "enumerate") vs) (fun xv s₂ => wpAny (model B.prog B.w) A (pyIter xv) Q E s₂) E s₁) E ro rd fun vs h₁ tk₁ k₁ l₁ al => by
      cases al with | cons i r =>
      cases r
      obtain ⟨a, vs, rfl, hl, hal⟩ := i
      have hlt : a < h₁.objs.size := by obtain ⟨_, e, _⟩ := hl; exact Heap.lt_size e
      refine call_enumerate_list hl fun h₂ he hit hz hk => ?_
      refine wpAny_pyIter_enum he ?_
      have hlen : vs.toArray.size = ps.length := by simp [hal.length]
      have D := Draws.list (prog := B.prog) (w := B.w) (A := A.in1) ro.1 h₁.objs.size a (Nat.ne_of_lt hlt) vs.toArray
      rw [hlen] at D
      have none_of : ∀ b, h₁.objs.size ≤ b → s.heap.get? b = none := fun b hb => by
        cases e : s.heap.get? b with
        | none => rfl
        | some o' => exact absurd (Heap.lt_size (k₁ _ _ e)) (Nat.not_lt.mpr hb)
      have hz' : h₂.objs.size = h₁.objs.size + 2 := hz
      refine hq _ _ _ _ _ h₂ tk₁ ⟨D, he, ⟨hit, hl.at fun o e => hk _ o e⟩, Nat.ne_of_gt (Nat.lt_succ_self _), ?_, by simp, ?_, none_of _ (Nat.le_succ _), none_of _ (Nat.le_refl _), ?_, ?_, ?_⟩ (k₁.trans hk) l₁
      · intro hm
        rcases List.mem_cons.mp hm with hm | hm
        · exact absurd hm (Nat.ne_of_gt (Nat.lt_succ_self _))
        · have h3 : h₁.objs.size + 1 = a := List.mem_singleton.mp hm
          rw [← h3] at hlt
          exact absurd hlt (Nat.not_lt.mpr (Nat.le_succ _))
      · intro b hb
        rcases List.mem_cons.mp hb with rfl | hb
        · rw [hz']; exact Nat.lt_add_of_pos_right (by decide)
        · rw [List.mem_singleton.mp hb, hz']; exact Nat.lt_of_lt_of_le hlt (Nat.le_add_right _ _)
      · intro i h st b hb
        rcases List.mem_cons.mp hb with rfl | hb
        · obtain ⟨o, e, _, d⟩ := st.1; exact ⟨o, e, .inl ⟨_, d⟩⟩
        · rw [List.mem_singleton.mp hb]
          obtain ⟨o, e, _, n, d⟩ := st.2; exact ⟨o, e, .inr ⟨_, _, d⟩⟩
      · intro i h st
        obtain ⟨o, e, _, d⟩ := st.1; exact ⟨o, _, e, d⟩
      · intro i v p hP hp
        obtain ⟨v', hv', hi⟩ := hal.get hp
        have : v' = v := by simpa [hv'] using hP
        subst this
        exact p.keeps hi hk (Nat.le_refl _)
    rw [star_cons [] env hst] at ha ⊢
    exact PyProof.Rows.callWith_type rfl (evalArgs_plain ha)
theorem AsT.pairP {x y : Str} {px py pos : Pos} {k : Nat} {a b : Pd} {ρ₁ ρ₂ : Rho} (hx : Known env x := by first | exact .inl rfl | exact .inr ⟨rfl, _, rfl⟩) (hρ₁ : ∀ q ∈ ρ₁, q ∈ ρ ∧ q.1 ≠ x := by ktr_rel)
    (hy : Known env y := by first | exact .inl rfl | exact .inr ⟨rfl, _, rfl⟩) (hρ₂ : ∀ q ∈ ρ₂, q ∈ (x, a) :: ρ₁ ∧ q.1 ≠ y := by ktr_rel) :
    AsT B n env ρ ((y, b) :: ρ₂) (.Tuple [.Name x px, .Name y py] k pos) (tupP [a, b]) := fun A s he v Q E ro F hv hq => by
  obtain ⟨t, vs, rfl, ht, r⟩ := hv
  cases r with | @cons v1 _ _ _ i1 r =>
  cases r with | @cons v2 _ _ _ i2 r =>
  cases r
  refine wpAny_assign_Tuple ro.1 ht rfl rfl fun h₃ hx₃ => ?_
  have k₃ : Kp s.heap h₃ := fun b o e => hx₃ b o (Nat.ne_of_lt (Heap.lt_size e)) e
  show wpAny _ A (do holding [v2] (assign (.Name x px) env v1); do holding [] (assign (.Name y py) env v2); pure ()) _ _ _
  refine wpAny_bind (wpAny_holding (wpAny_assign_Name ?_))
  refine Fm.store (s := { s with heap := h₃ }) (p := a) (F.keeps k₃ (Nat.le_refl _)) (a.keeps i1 k₃ (Nat.le_refl _)) hρ₁ hx fun h₄ tk₄ F₄ l₄ ks₄ => ?_
  have l₄' : s.toks ≤ tk₄ := l₄
  refine wpAny_bind (wpAny_holding (wpAny_assign_Name ?_))
  refine Fm.store (s := { s with heap := h₄, toks := tk₄ }) (p := b) F₄ (b.mono ks₄ l₄' (b.keeps i2 k₃ (Nat.le_refl _))) hρ₂ hy fun h₅ tk₅ F₅ l₅ ks₅ => wpAny_pure ?_
  have l₅' : tk₄ ≤ tk₅ := l₅
  exact hq h₅ tk₅ F₅ (by omega)

/-- a for over enumerate -/
theorem Ex1.forE {elts : List Expr} {tk0 : Nat} {tpos : Pos} {iter : Expr} {body orelse : List Stmt} {pos : Pos} {items : List Pd} (ρs ρb : Nat → Rho) (j : Nat) {o : Out} (hit : ItD B n env ρ iter items) (h0 : ∀ p ∈ ρs 0, p ∈ ρ)
    (has : ∀ (i : Nat) p, items[i]? = some p → i ≤ j → AsT B n env (ρs i) (ρb i) (.Tuple elts tk0 tpos) (tupP [is (.int (i : Int)), p])) (hbody : ∀ i, i < j → i < items.length → Ex B n env (ρb i) body (.next (ρs (i + 1))))
    (hend : (j = items.length ∧ Ex B n env (ρs j) orelse o) ∨ (j < items.length ∧ ((∃ p, o = .ret p ∧ Ex B n env (ρb j) body (.ret p)) ∨ ∃ ρ', o = .next ρ' ∧ Ex B n env (ρb j) body (.brk ρ'))))
    (hs : ∀ x, foldedSetIterable iter env x = pure x := by intro _; rfl) : Ex1 B n env ρ (.For (.Tuple elts tk0 tpos) iter body orelse pos) o := fun A s he Q E ro F hq => by
  refine wpAny_For (hit A s _ E ro F.rd fun en it fp P St h₂ tk₂ W k₂ l₂ => ?_) hs
  have F₂ : Fm B env he h₂ tk₂ (ρs 0) := (F.keeps k₂ l₂).sub h0
  have hjn : j ≤ items.length := by rcases hend with ⟨h, _⟩ | ⟨h, _⟩ <;> omega
  have hwr : ∀ b ∈ [en, it], he b = none := fun b hb => by
    cases e : he b with
    | none => rfl
    | some o' =>
      have := F.keep b o' e
      rcases List.mem_cons.mp hb with rfl | hb
      · rw [W.newE] at this; cases this
      · rw [List.mem_singleton.mp hb, W.newI] at this; cases this
  have T := WalksT.enumerateD W.D en W.ne W.enf W.itf
  have kindW : ∀ (i : Nat) h, ((∃ old, IsEnum h en it ((i : Nat) : Int) old) ∧ St i h) → ∀ b ∈ [en, it], ∃ o fs, h.get? b = some o ∧ o.data = .fields fs := fun i h st b hb => by
    rcases List.mem_cons.mp hb with rfl | hb
    · obtain ⟨old, he⟩ := st.1; exact ⟨_, _, he, rfl⟩
    · rw [List.mem_singleton.mp hb]; exact W.kindI i h st.2
  refine codeAny_forLoop_any
    (fun k s' => ∃ h' tk i, s' = { s with heap := h', toks := tk } ∧ i ≤ j ∧ k = items.length + 1 - i ∧ ((∃ old, IsEnum h' en it ((i : Nat) : Int) old) ∧ St i h') ∧ Fm B env he h' tk (ρs i) ∧ tk₂ ≤ tk ∧ KpS h₂ h') ?_ (items.length + 1)
    ⟨h₂, tk₂, 0, rfl, Nat.zero_le _, rfl, ⟨⟨_, W.isen⟩, W.st⟩, F₂, Nat.le_refl _, fun _ _ _ _ e _ => e⟩
  rintro k s' ⟨H, tk, i, rfl, hi, rfl, hst', F', htk, hks⟩
  have hw' := kindW i H hst'
  by_cases hlt : i < items.length
  · refine toks_go (T.item i _ _ _ hlt hst' fun TT vals h₃ tk₃ hPt hTsz hTT hMid hk₃ htk₃ => ?_)
    have htk₃' : tk ≤ tk₃ := htk₃
    have hk₃' : ∀ b o, b ∉ [en, it] → H.get? b = some o → h₃.get? b = some o := hk₃
    have F₃ : Fm B env he h₃ tk₃ (ρs i) := F'.of_wr hk₃' hw' hwr htk₃'
    have hks₃ : KpS h₂ h₃ := hks.trans (KpS.of_wr hk₃' hw')
    have hw₃ : ∀ b ∈ [en, it], ∃ o fs, h₃.get? b = some o ∧ o.data = .fields fs := fun b hb => by
      rcases List.mem_cons.mp hb with rfl | hb
      · obtain ⟨⟨x, ho⟩, _⟩ := hMid; exact ⟨_, _, ho, rfl⟩
      · rw [List.mem_singleton.mp hb]; exact W.kindI _ _ hMid.2.1
    have hTw := T.apart i TT h₃ hMid
    refine T.go elts tk0 tpos i TT { s with heap := h₃, toks := tk₃ } _ _ hMid fun h₄ hst₄ hk₄ => ?_
    have hk₄' : ∀ b o, b ∉ [en, it] → h₃.get? b = some o → h₄.get? b = some o := hk₄
    have F₄ : Fm B env he h₄ tk₃ (ρs i) := F₃.of_wr hk₄' hw₃ hwr (Nat.le_refl _)
    have hks₄ : KpS h₂ h₄ := hks₃.trans (KpS.of_wr hk₄' hw₃)
    obtain ⟨t, x, hPx, rfl⟩ := hPt
    have hp : (items[i]).P h₄ tk₃ x := (items[i]).mono hks₄ (by omega) (W.item i x _ hPx (by simp [hlt]))
    have hTT₄ : IsTup h₄ TT #[.int i t, x] := by
      obtain ⟨o, e, c, nn, d⟩ := hTT
      exact ⟨o, hk₄' _ _ hTw e, c, nn, d⟩
    have Fh := F₄.hide
    refine has i items[i] (by simp [hlt]) hi A { s with heap := h₄, toks := tk₃ } (hid env h₄) (.ref TT) _ _ ro Fh ⟨TT, [.int i t, x], rfl, hTT₄, .cons .int (.cons hp .nil)⟩ fun h₅ tk₅ F₅ l₅ => ?_
    have l₅' : tk₃ ≤ tk₅ := l₅
    by_cases hij : i < j
    · refine hbody i hij hlt A { s with heap := h₅, toks := tk₅ } (hid env h₄) _ _ ro F₅ fun h₆ tk₆ F₆ l₆ => ?_
      have l₆' : tk₅ ≤ tk₆ := l₆
      have hst₄' := hst₄
      refine ⟨items.length + 1 - (i + 1), by omega, h₆, tk₆, i + 1, rfl, hij, rfl, T.frame _ _ _ hst₄ fun b hb o e => ?_, F₆.unhide (fun b o e => F₄.le_hid e) F₄.baseIn, by omega, hks₄.trans fun b o vs n e hd => F₆.keep b o (F₄.hid_data e (.inr ⟨_, _, hd⟩))⟩
      rcases List.mem_cons.mp hb with rfl | hb
      · obtain ⟨⟨old, hen⟩, _⟩ := hst₄
        have hen' := e.symm.trans hen
        refine F₆.keep _ o (F₄.hid_data e (.inl ?_))
        rw [Option.some.inj hen']
        exact ⟨_, rfl⟩
      · obtain ⟨o', e', hd⟩ := W.kind (i + 1) h₄ hst₄.2 b hb
        rw [e] at e'; cases e'
        exact F₆.keep b o (F₄.hid_data e hd)
    · have hij' : i = j := by omega
      subst hij'
      rcases hend with ⟨h, _⟩ | ⟨_, ⟨p, rfl, hb⟩ | ⟨ρ', rfl, hb⟩⟩
      · omega
      · refine hb A { s with heap := h₅, toks := tk₅ } (hid env h₄) _ _ ro F₅ fun u h₆ tk₆ F₆ l₆ hu => ?_
        have l₆' : tk₅ ≤ tk₆ := l₆
        exact hq u h₆ tk₆ (F₆.unhide (fun b o e => F₄.le_hid e) F₄.baseIn) (by omega) hu
      · refine hb A { s with heap := h₅, toks := tk₅ } (hid env h₄) _ _ ro F₅ fun h₆ tk₆ F₆ l₆ => ?_
        have l₆' : tk₅ ≤ tk₆ := l₆
        exact hq h₆ tk₆ (F₆.unhide (fun b o e => F₄.le_hid e) F₄.baseIn) (by omega)
  · have hin : i = items.length := by omega
    have hjj : j = items.length := by omega
    subst hin
    subst hjj
    rcases hend with ⟨_, hb⟩ | ⟨h, _⟩
    · refine toks_go (T.done _ _ _ hst' fun h₃ tk₃ hk₃ htk₃ => ?_)
      have htk₃' : tk ≤ tk₃ := htk₃
      have F₃ : Fm B env he h₃ tk₃ (ρs items.length) := F'.of_wr hk₃ hw' hwr htk₃'
      exact hb A { s with heap := h₃, toks := tk₃ } he _ _ ro F₃ (hq.later (by omega))
    · omega
end
section
variable {B : Base} {n : Nat} {env : Env} {ρ ρc : Rho}
theorem Fm.sameBut {he : Addr → Option Obj} {h h' : Heap} {k : Nat} {C : Addr} {m' : Str → Option Value} (F : Fm B env he h k ρ) (hs : Heap.SameBut C h h') (hd : h.Ns C m') (hC : he C = none) (hL : C ≠ env.locals) (hc : ∀ z c, env.cells.lookup z = some c → C ≠ c) : Fm B env he h' k ρ := by
  have ks := KpS.but_dict hd hs
  have kp : ∀ b o, he b = some o → h'.get? b = some o := fun b o e => hs.extBut b o (by rintro rfl; rw [hC] at e; cases e) (F.keep b o e)
  obtain ⟨m, hn, hv⟩ := F.rd.ns
  refine ⟨⟨F.rd.ok, fun b o e => kp b o (F.baseIn b o e), F.rd.pos, m, hn.sameBut hs (Ne.symm hL), fun y q hm => ?_⟩, kp, F.baseIn, F.loc, fun z c hz => ⟨(F.cells z c hz).1, let ⟨v, hv⟩ := (F.cells z c hz).2; ⟨v, hv.sameBut hs (Ne.symm (hc z c hz))⟩⟩, F.inj⟩
  obtain ⟨u, hu, hw⟩ := hv y q hm
  exact ⟨u, q.mono ks (Nat.le_refl _) hu, hw.imp id fun ⟨h1, c, h2, h3⟩ => ⟨h1, c, h2, h3.sameBut hs (Ne.symm (hc _ _ h2))⟩⟩
open Classical in
noncomputable def with1 (he : Addr → Option Obj) (C : Addr) (o : Obj) : Addr → Option Obj := fun b => if b = C then some o else he b
theorem Fm.with1 {he : Addr → Option Obj} {h : Heap} {k : Nat} {C : Addr} {o : Obj} (F : Fm B env he h k ρ) (ho : h.get? C = some o) (hL : C ≠ env.locals) (hc : ∀ z c, env.cells.lookup z = some c → C ≠ c) (hCb : B.b₀.get? C = none) : Fm B env (Mine.with1 he C o) h k ρ := by
  refine ⟨F.rd, fun b o' e => ?_, fun b o' e => ?_, ?_, fun z c hz => ⟨?_, (F.cells z c hz).2⟩, F.inj⟩
  · unfold Mine.with1 at e
    split at e
    · rename_i hb; subst hb; cases e; exact ho
    · exact F.keep b o' e
  · unfold Mine.with1
    rw [if_neg (by rintro rfl; rw [hCb] at e; cases e)]
    exact F.baseIn b o' e
  · unfold Mine.with1
    rw [if_neg (Ne.symm hL)]; exact F.loc
  · unfold Mine.with1
    rw [if_neg (Ne.symm (hc z c hz))]; exact (F.cells z c hz).1
/-- x = [.. for ..] where the store comes before the block's names go -/
theorem assignC_at {elt iter : Expr} {x y : Str} {px py : Pos} {ifs : List Expr} {scope : Scope} {cl : List (Str × Addr)} {pos spos : Pos} {items : List Pd} {q : Pd} {ρ' : Rho} (J : Nat → Nat → List Value → Nat → Prop) (hit : It B n env ρ iter items)
    (b : Blk env scope cl x ρ ρc)
    (h0 : ∀ lo k, B.lo ≤ lo → lo ≤ k → J lo 0 [] k) (hJ : ∀ lo i ys k k', J lo i ys k → k ≤ k' → J lo i ys k') (hJl : ∀ lo i ys k, J lo i ys k → ys.length ≤ i)
    (turn : ∀ lo i p v ys C, items[i]? = some p → Turn B n (compEnvC scope cl C env) ((x, same v) :: (x, p) :: ρc) ifs elt (J lo i ys) (J lo (i + 1) ys) (fun y k => J lo (i + 1) (ys ++ [y]) k))
    {A : Around} {s : Shared} {he : Addr → Option Obj} {Q : Flow → Shared → Prop} {E : Value → Shared → Prop} (ro : Room A n) (F : Fm B env he s.heap s.toks ρ)
    (hq : ∀ lo h k a ys, B.lo ≤ lo → s.heap.get? a = none → h.PlainList a ys.toArray → J lo items.length ys k → q.P h k (.ref a))
    (hQ : ∀ h' tk', Fm B env he h' tk' ((y, q) :: ρ') → s.toks ≤ tk' → Q .next { s with heap := h', toks := tk' })
    (hsw : swapsWith (.ListComp elt [⟨.Name x px, iter, ifs, 0⟩] scope pos) (some (.Name y py)) spos.line env = pure true := by rfl)
    (hy : Known env y := by first | exact .inl rfl | exact .inr ⟨rfl, _, rfl⟩) (hρ : ∀ q ∈ ρ', q ∈ ρ ∧ q.1 ≠ y := by ktr_rel)
    (hs : ∀ x, foldedSetIterable iter env x = pure x := by intro _; rfl) : wpAny (model B.prog B.w) A (exec (.Assign [.Name y py] (.ListComp elt [⟨.Name x px, iter, ifs, 0⟩] scope pos) spos) env) Q E s := by
    rw [exec_Assign_Name_used _ _ _ _ hsw]
    refine wpAny_bind (wpAny_standAt (wpAny_bind ?_))
    show wpAny _ A (do let _ ← comprehension (.ListComp elt [⟨.Name x px, iter, ifs, 0⟩] scope pos) scope env _ (newList []) false (eval iter env) (some (PySem.assign (.Name y py) env))) _ _ s
    have rd := F.rd
    refine wpAny_bind (wpAny_mono (wpAny_comprehension_free (use := some (PySem.assign (.Name y py) env)) (Q := fun _ s' => Q .next s') rfl hs b.clos b.kind b.names (hit A s _ E ro rd fun I fp wr P St h₂ tk₂ W k₂ l₂ => ?_)) (fun _ s' hq => wpAny_pure (wpAny_pure hq)) fun _ _ e => e)
    refine comp_core (s₂ := { s with heap := h₂, toks := tk₂ }) (RR := fun acc C => compPost (model B.prog B.w) A E (some (PySem.assign (.Name y py) env)) (fun _ s' => Q .next s') acc C) W ro k₂ (rd.keeps (Kp.refl _) l₂) (J tk₂) b.cell b.kind b.hx b.taken (fun k hk => h0 _ _ (Nat.le_trans rd.pos l₂) hk) (hJ _) (hJl _) (turn _) ?_
    intro D C h' tk m' ys hD hC hDC hn hl hJ' htk hk
    have htk' : tk₂ ≤ tk := htk
    have kk : Kp s.heap h' := fun b o e => hk b o (fun hb => by rw [W.new b hb] at e; cases e) (k₂ b o e)
    have F' : Fm B env he h' tk ρ := F.keeps kk (Nat.le_trans l₂ htk')
    show wpAny _ A (PySem.assign (.Name y py) env (.ref D)) _ _ _
    have hDh : s.heap.get? D = none := by
      cases e : s.heap.get? D with
      | none => rfl
      | some o => have := k₂ _ _ e; rw [hD] at this; cases this
    have hCh : s.heap.get? C = none := by
      cases e : s.heap.get? C with
      | none => rfl
      | some o => have := k₂ _ _ e; rw [hC] at this; cases this
    have hCe : he C = none := by
      cases e : he C with
      | none => rfl
      | some o => have := F.keep _ _ e; rw [hCh] at this; cases this
    have hCL : C ≠ env.locals := by
      rintro rfl
      obtain ⟨m, ⟨o, _, _, ho, _⟩, _⟩ := F.rd.ns
      rw [hCh] at ho; cases ho
    have hCc : ∀ z c, env.cells.lookup z = some c → C ≠ c := fun z c hc => by
      rintro rfl
      obtain ⟨v, o, ho, _⟩ := (F.cells z C hc).2
      rw [hCh] at ho; cases ho
    have hCb : B.b₀.get? C = none := by
      cases e : B.b₀.get? C with
      | none => rfl
      | some o => have := F.rd.base _ _ e; rw [hCh] at this; cases this
    obtain ⟨oC, es, ep, hoC, hdC⟩ := hn
    have F1 := F'.with1 hoC hCL hCc hCb
    refine wpAny_assign_Name (Fm.store (s := { s with heap := h', toks := tk }) (p := q) F1 (hq _ _ _ _ _ (Nat.le_trans rd.pos l₂) hDh hl hJ') hρ hy fun h₃ tk₃ F₃ l₃ ks₃ => ?_)
    have l₃' : tk ≤ tk₃ := l₃
    have hoC₃ : h₃.get? C = some oC := F₃.keep C oC (by unfold Mine.with1; rw [if_pos rfl])
    have hn₃ : h₃.Ns C m' := ⟨oC, es, ep, hoC₃, hdC⟩
    refine ⟨m', hn₃, fun h₄ hs₄ => ?_⟩
    have F3 : Fm B env he h₃ tk₃ ((y, q) :: ρ') := F₃.unhide (fun b o e => by unfold Mine.with1; rw [if_neg (by rintro rfl; rw [hCe] at e; cases e)]; exact e) F.baseIn
    exact hQ h₄ tk₃ (F3.sameBut hs₄ hn₃ hCe hCL hCc) (Nat.le_trans (Nat.le_trans l₂ htk') l₃')
theorem Ex1.assignC {elt iter : Expr} {x y : Str} {px py : Pos} {ifs : List Expr} {scope : Scope} {cl : List (Str × Addr)} {pos spos : Pos} {items : List Pd} {q : Pd} {ρ' : Rho} (J : Nat → Nat → List Value → Nat → Prop) (hit : It B n env ρ iter items)
    (b : Blk env scope cl x ρ ρc)
    (h0 : ∀ lo k, B.lo ≤ lo → lo ≤ k → J lo 0 [] k) (hJ : ∀ lo i ys k k', J lo i ys k → k ≤ k' → J lo i ys k') (hJl : ∀ lo i ys k, J lo i ys k → ys.length ≤ i)
    (turn : ∀ lo i p v ys C, items[i]? = some p → Turn B n (compEnvC scope cl C env) ((x, same v) :: (x, p) :: ρc) ifs elt (J lo i ys) (J lo (i + 1) ys) (fun y k => J lo (i + 1) (ys ++ [y]) k))
    (hq : ∀ lo h k a ys, B.lo ≤ lo → h.IsList a ys.toArray → J lo items.length ys k → q.P h k (.ref a))
    (hsw : swapsWith (.ListComp elt [⟨.Name x px, iter, ifs, 0⟩] scope pos) (some (.Name y py)) spos.line env = pure true := by rfl)
    (hy : Known env y := by first | exact .inl rfl | exact .inr ⟨rfl, _, rfl⟩) (hρ : ∀ q ∈ ρ', q ∈ ρ ∧ q.1 ≠ y := by ktr_rel)
    (hs : ∀ x, foldedSetIterable iter env x = pure x := by intro _; rfl) : Ex1 B n env ρ (.Assign [.Name y py] (.ListComp elt [⟨.Name x px, iter, ifs, 0⟩] scope pos) spos) (.next ((y, q) :: ρ')) :=
  fun A s he Q E ro F hQ => assignC_at J hit b h0 hJ hJl turn ro F (fun lo h k a ys hlo _ hl hj => hq lo h k a ys hlo hl.isList hj) hQ hsw hy hρ hs
theorem assignIf_at {elt iter c : Expr} {x y : Str} {px py : Pos} {scope : Scope} {cl : List (Str × Addr)} {pos spos : Pos} {xs : List Int} {keep : Int → Bool} {f : Int → Int} {q : Pd} {ρ' : Rho} (hit : It B n env ρ iter ((xs.map D.int).map is)) (b : Blk env scope cl x ρ ρc)
    (htest : ∀ i, i ∈ xs → ∀ v C, Tr B n (compEnvC scope cl C env) ((x, same v) :: (x, is (.int i)) :: ρc) c (keep i))
    (helt : ∀ i, i ∈ xs → keep i = true → ∀ v C, Ev B n (compEnvC scope cl C env) ((x, same v) :: (x, is (.int i)) :: ρc) elt (is (.int (f i))))
    {A : Around} {s : Shared} {he : Addr → Option Obj} {Q : Flow → Shared → Prop} {E : Value → Shared → Prop} (ro : Room A n) (F : Fm B env he s.heap s.toks ρ)
    (hq : ∀ h k a ys, s.heap.get? a = none → h.PlainList a ys.toArray → IntsAre ys ((xs.filter keep).map f) → q.P h k (.ref a))
    (hQ : ∀ h' tk', Fm B env he h' tk' ((y, q) :: ρ') → s.toks ≤ tk' → Q .next { s with heap := h', toks := tk' })
    (hsw : swapsWith (.ListComp elt [⟨.Name x px, iter, [c], 0⟩] scope pos) (some (.Name y py)) spos.line env = pure true := by rfl)
    (hy : Known env y := by first | exact .inl rfl | exact .inr ⟨rfl, _, rfl⟩) (hρ : ∀ q ∈ ρ', q ∈ ρ ∧ q.1 ≠ y := by ktr_rel)
    (hs : ∀ x, foldedSetIterable iter env x = pure x := by intro _; rfl) : wpAny (model B.prog B.w) A (exec (.Assign [.Name y py] (.ListComp elt [⟨.Name x px, iter, [c], 0⟩] scope pos) spos) env) Q E s := by
  refine assignC_at (fun lo i ys k => IntsAre ys (((xs.take i).filter keep).map f)) hit b (fun _ _ _ _ => by simpa using IntsAre.nil) (fun _ _ _ _ _ h _ => h) (fun lo i ys k h => ?_) (fun lo i p v ys C hp => ?_) ro F (fun lo h k a ys _ hn hl hJ => ?_) hQ hsw hy hρ hs
  · rw [h.length, List.length_map]
    exact Nat.le_trans (List.length_filter_le _ _) (by simp; omega)
  · simp only [List.getElem?_map, Option.map_eq_some_iff] at hp
    obtain ⟨d, ⟨a, ha, rfl⟩, rfl⟩ := hp
    have hmem := List.mem_of_getElem? ha
    intro A s E ro rd hJ
    refine wpAny_tests_one (htest a hmem v C A s _ E ro rd fun h₁ tk₁ k₁ l₁ => ⟨⟨h₁, tk₁, rfl, k₁⟩, ?_⟩)
    have et := take_succ xs i a ha
    cases hk : keep a with
    | false =>
      simp only [Bool.false_eq_true, if_false]
      rw [et, List.filter_append]
      simpa [hk] using hJ
    | true =>
      simp only [if_true]
      refine helt a hmem hk v C A _ _ E ro (rd.keeps k₁ l₁) fun y h₂ tk₂ k₂ l₂ hy => ⟨⟨h₂, tk₂, rfl, k₂⟩, ?_⟩
      cases hy
      rw [et, List.filter_append, List.map_append]
      simpa [hk] using IntsAre.append hJ (.cons (f a) _ .nil)
  · simp only [List.length_map, List.take_length] at hJ
    exact hq h k a ys hn hl hJ
theorem Ex1.assignIf {elt iter c : Expr} {x y : Str} {px py : Pos} {scope : Scope} {cl : List (Str × Addr)} {pos spos : Pos} {xs : List Int} {keep : Int → Bool} {f : Int → Int} {ρ' : Rho} (hit : It B n env ρ iter ((xs.map D.int).map is)) (b : Blk env scope cl x ρ ρc)
    (htest : ∀ i, i ∈ xs → ∀ v C, Tr B n (compEnvC scope cl C env) ((x, same v) :: (x, is (.int i)) :: ρc) c (keep i))
    (helt : ∀ i, i ∈ xs → keep i = true → ∀ v C, Ev B n (compEnvC scope cl C env) ((x, same v) :: (x, is (.int i)) :: ρc) elt (is (.int (f i))))
    (hsw : swapsWith (.ListComp elt [⟨.Name x px, iter, [c], 0⟩] scope pos) (some (.Name y py)) spos.line env = pure true := by rfl)
    (hy : Known env y := by first | exact .inl rfl | exact .inr ⟨rfl, _, rfl⟩) (hρ : ∀ q ∈ ρ', q ∈ ρ ∧ q.1 ≠ y := by ktr_rel)
    (hs : ∀ x, foldedSetIterable iter env x = pure x := by intro _; rfl) : Ex1 B n env ρ (.Assign [.Name y py] (.ListComp elt [⟨.Name x px, iter, [c], 0⟩] scope pos) spos) (.next ((y, is (intsD ((xs.filter keep).map f))) :: ρ')) :=
  fun A s he Q E ro F hQ => assignIf_at (q := is (intsD ((xs.filter keep).map f))) hit b htest helt ro F (fun h k a ys _ hl hi => Is.list hl.isList (are_ints hi)) hQ hsw hy hρ hs
theorem Ex1.assignI {elt iter : Expr} {x y : Str} {px py : Pos} {scope : Scope} {cl : List (Str × Addr)} {pos spos : Pos} {xs : List Int} {f : Int → Int} {ρ' : Rho} (hit : It B n env ρ iter ((xs.map D.int).map is)) (b : Blk env scope cl x ρ ρc)
    (helt : ∀ i, i ∈ xs → ∀ v C, Ev B n (compEnvC scope cl C env) ((x, same v) :: (x, is (.int i)) :: ρc) elt (is (.int (f i))))
    (hsw : swapsWith (.ListComp elt [⟨.Name x px, iter, [], 0⟩] scope pos) (some (.Name y py)) spos.line env = pure true := by rfl)
    (hy : Known env y := by first | exact .inl rfl | exact .inr ⟨rfl, _, rfl⟩) (hρ : ∀ q ∈ ρ', q ∈ ρ ∧ q.1 ≠ y := by ktr_rel)
    (hs : ∀ x, foldedSetIterable iter env x = pure x := by intro _; rfl) : Ex1 B n env ρ (.Assign [.Name y py] (.ListComp elt [⟨.Name x px, iter, [], 0⟩] scope pos) spos) (.next ((y, is (intsD (xs.map f))) :: ρ')) := by
  refine Ex1.assignC (fun lo i ys k => IntsAre ys ((xs.take i).map f)) hit b (fun _ _ _ _ => by simpa using IntsAre.nil) (fun _ _ _ _ _ h _ => h) (fun lo i ys k h => ?_) (fun lo i p v ys C hp => ?_) (fun lo h k a ys _ hl hJ => ?_) hsw hy hρ hs
  · rw [h.length, List.length_map]
    simp; omega
  · simp only [List.getElem?_map, Option.map_eq_some_iff] at hp
    obtain ⟨d, ⟨a, ha, rfl⟩, rfl⟩ := hp
    have hmem := List.mem_of_getElem? ha
    intro A s E ro rd hJ
    refine wpAny_tests_nil ⟨⟨s.heap, s.toks, rfl, Kp.refl _⟩, ?_⟩
    simp only [if_true]
    refine helt a hmem v C A _ _ E ro rd fun y h₂ tk₂ k₂ l₂ hy => ⟨⟨h₂, tk₂, rfl, k₂⟩, ?_⟩
    cases hy
    rw [take_succ xs i a ha, List.map_append]
    exact IntsAre.append hJ (.cons (f a) _ .nil)
  · simp only [List.length_map, List.take_length] at hJ
    exact .list hl (are_ints hJ)

/-- `is` between ints whose tokens are known to part them -/
theorem same_int {p q : Int} {t u : Tok} {M : Model} {A : Around} {Q : Bool → Shared → Prop} {E : Value → Shared → Prop} {s : Shared} (ht : t ≠ 0) (hu : u ≠ 0) (htu : t = u → p = q) (hsm : p = q → smallInt p = true) (h : Q (p == q) s) :
    wpAny M A (isSame (.int p t) (.int q u)) Q E s := by
  have h0 : (t == 0 || u == 0) = false := by simp [ht, hu]
  show wpAny M A (if (p == q && smallInt p) = true then isSame.cachedInt t u else isSame.created (p == q) t u) Q E s
  by_cases hpq : p = q
  · have hs := hsm hpq
    subst hpq
    simp only [beq_self_eq_true, hs, Bool.and_self, if_true]
    unfold isSame.cachedInt
    rw [h0]
    simp only [Bool.false_eq_true, if_false]
    refine wpAny_bind (wpAny_rule (wpAny_pure ?_))
    simpa using h
  · have hb : (p == q) = false := by simpa using hpq
    rw [hb] at h ⊢
    simp only [Bool.false_and, Bool.false_eq_true, if_false]
    unfold isSame.created
    rw [h0]
    have htu' : (t == u) = false := by simpa using fun e => hpq (htu e)
    simp only [Bool.false_eq_true, if_false, htu', Bool.not_false, if_true]
    first | exact wpAny_pure h | exact wpAny_bind (wpAny_pure (wpAny_pure h))
theorem cm_is {p q : Int} {t u : Tok} (ht : t ≠ 0) (hu : u ≠ 0) (htu : t = u → p = q) (hsm : p = q → smallInt p = true) : Cm B .Is (same (.int p t)) (same (.int q u)) (p == q) := fun A s a b Q E _ _ ha hb _ h => by
  have ha' : a = .int p t := ha
  have hb' : b = .int q u := hb
  subst ha' hb'
  show wpAny _ A (do return .bool (← isSame (.int p t) (.int q u))) Q E s
  exact wpAny_bind (same_int ht hu htu hsm (wpAny_pure (h _ _ (Kp.refl _) (Nat.le_refl _))))
end
abbrev itv (p : Int × Nat) : Value := .int p.1 p.2
/-- the tokens of a row part what is to be parted from q, u -/
noncomputable def Parts (prs : List (Int × Nat)) (q : Int) (u : Nat) : Prop := u ≠ 0 ∧ ∀ p ∈ prs, p.2 ≠ 0 ∧ (p.2 = u → p.1 = q) ∧ (p.1 = q → smallInt p.1 = true)
section
variable {B : Base} {n : Nat} {env : Env} {ρ ρc : Rho}
theorem It.lst {e : Expr} {ps : List Pd} (h : Ev B n env ρ e (lstP ps)) (hsz : ps.length ≤ sizeLine) : It B n env ρ e ps :=
  fun A s Q E ro rd hq => h A s _ E ro rd fun v h₁ tk₁ k₁ l₁ i₁ => by
    obtain ⟨a, vs, rfl, hl, r⟩ := i₁
    have hlt : a < h₁.objs.size := by obtain ⟨_, e, _⟩ := hl; exact Heap.lt_size e
    refine wpAny_pyIter_list hl ?_
    have up := Kp.push h₁ { cls := .type "list_iterator", data := .fields #[.ref a, .int 0 0] }
    have W := Walks.list (prog := B.prog) (w := B.w) ro.1 h₁.objs.size a (Nat.ne_of_lt hlt) vs.toArray
    have hlen : vs.toArray.size = ps.length := by simp [r.length]
    rw [hlen] at W
    refine hq _ _ _ _ _ _ tk₁ ⟨W, hsz, ⟨⟨_, Heap.get?_push_size _ rfl, rfl, rfl⟩, hl.push _⟩, fun b hb => ?_, fun b hb => ?_, fun i h st b hb => ?_, fun i h st b hb => ?_, fun i v p hP hp => ?_, fun i h st => ?_⟩ (k₁.trans up) l₁
    · rw [Heap.size_push]
      rcases List.mem_cons.mp hb with rfl | hb
      · exact Nat.lt_succ_self _
      · rw [List.mem_singleton.mp hb]; exact Nat.lt_succ_of_lt hlt
    · rw [List.mem_singleton.mp hb]
      cases q : s.heap.get? h₁.objs.size with
      | none => rfl
      | some o => exact absurd (Heap.lt_size (k₁ _ _ q)) (Nat.lt_irrefl _)
    · rcases List.mem_cons.mp hb with rfl | hb
      · obtain ⟨o, e, _, d⟩ := st.1; exact ⟨o, e, .inl ⟨_, d⟩⟩
      · rw [List.mem_singleton.mp hb]
        obtain ⟨o, e, _, n, d⟩ := st.2; exact ⟨o, e, .inr ⟨_, _, d⟩⟩
    · rw [List.mem_singleton.mp hb]
      obtain ⟨o, e, _, d⟩ := st.1; exact ⟨o, _, e, d⟩
    · obtain ⟨v', hv', hi⟩ := r.get hp
      have : v' = v := by simpa [hv'] using hP
      subst this
      exact p.keeps hi up (Nat.le_refl _)
    · obtain ⟨o, e, c, _⟩ := st.1; exact ⟨o, _, e, c, by decide⟩

theorem It.list {e : Expr} {ds : List D} (h : Ev B n env ρ e (is (.list ds))) (hsz : ds.length ≤ sizeLine) : It B n env ρ e (ds.map is) := It.lst (h.mono fun _ _ _ x => list_lstP x) (by rw [List.length_map]; exact hsz)
theorem same_is {p : Int} {t : Tok} {h : Heap} {k : Nat} {v : Value} (x : (same (.int p t)).P h k v) : (is (.int p)).P h k v := by
  have : v = .int p t := x
  subst this; exact .int
/-- the test that countOf and indexOf put -/
theorem tr_hit {x b : Str} {px pb p1 px2 pb2 p2 p3 : Pos} {q : Int} {u : Nat} {p : Int × Nat} {prs : List (Int × Nat)} (hP : Parts prs q u) (hp : p ∈ prs) (h1 : (x, same (itv p)) ∈ ρ) (h2 : (b, same (.int q u)) ∈ ρ)
    (hd1 : (x == ("__debug__" : Str)) = false) (hd2 : (b == ("__debug__" : Str)) = false) :
    Tr B n env ρ (.BoolOp .Or [.Compare (.Name x px) [.Is] [.Name b pb] p1, .Compare (.Name x px2) [.Eq] [.Name b pb2] p2] p3) (p.1 == q) := by
  obtain ⟨g1, g2, g3⟩ := hP.2 p hp
  have key : (p.1 == q || p.1 == q) = (p.1 == q) := by simp
  rw [← key]
  exact Tr.or2 (Tr.cmp (cm_is g1 hP.1 g2 g3) (Ev.name h1 hd1) (Ev.name h2 hd2)) fun _ =>
    Tr.cmp cm_eq ((Ev.name h1 hd1).mono fun _ _ _ x => same_is x) ((Ev.name h2 hd2).mono fun _ _ _ x => same_is x)
end
section
variable {B : Base} (M : Mn B)
include M
theorem fn_countOf {n : Nat} (prs : List (Int × Nat)) (q : Int) (u : Nat) (hP : Parts prs q u) (hsz : prs.length ≤ 64) :
    Fn B (n + 1) (nm "countOf") [lstP ((prs.map itv).map same), same (.int q u)] (is (.int ((prs.countP fun p => p.1 == q : Nat) : Int))) := by
  refine Fn.of (d := dd 10) (def_10 M) rfl fun pm code doc L ad => ?_
  dsimp only [Binds]
  refine Ex.cons (ρ₁ := [(nm "count", is (.int 0)), (nm "a", lstP ((prs.map itv).map same)), (nm "b", same (.int q u))]) ?_ ?_
  · refine Ex1.assign ?_
    exact Ev.const_int
  refine Ex.cons (ρ₁ := [(nm "count", is (.int ((prs.countP fun p => p.1 == q : Nat) : Int)))]) ?_ ?_
  · refine Ex1.out (Ex1.for (items := (prs.map itv).map same) (o := .next [(nm "count", is (.int (((prs.take prs.length).countP fun p => p.1 == q : Nat) : Int))), (nm "b", same (.int q u))])
      (fun i => [(nm "count", is (.int (((prs.take i).countP fun p => p.1 == q : Nat) : Int))), (nm "b", same (.int q u))])
      (fun i => [(nm "i", same (itv (prs.getD i (0, 0)))), (nm "count", is (.int (((prs.take i).countP fun p => p.1 == q : Nat) : Int))), (nm "b", same (.int q u))]) prs.length ?_ ?_ ?_ ?_ (.inl ⟨by simp, ?_⟩)) ?_
    · refine It.lst ?_ ?_
      · exact Ev.name (by tb_rel)
      · simp only [List.length_map]; exact small_le hsz
    · intro p hp
      simp only [List.take_zero, List.countP_nil, Int.natCast_zero] at hp
      exact (subs_cons (by tb_rel) (subs_cons (by tb_rel) subs_nil)) p hp
    · intro i p hp _
      have : p = same (itv (prs.getD i (0, 0))) := by
        simp only [List.map_map, List.getElem?_map, Option.map_eq_some_iff] at hp
        obtain ⟨a, ha, rfl⟩ := hp
        simp [List.getD, ha]
      subst this
      exact AsT.name
    · intro i hi hi2
      have hmem : prs.getD i (0, 0) ∈ prs := by simp [List.getD, hi]
      have et : prs.take (i + 1) = prs.take i ++ [prs.getD i (0, 0)] := take_succ _ _ _ (by simp [List.getD, hi])
      show Ex B n _ _ _ (.next [(nm "count", is (.int (((prs.take (i + 1)).countP fun p => p.1 == q : Nat) : Int))), (nm "b", same (.int q u))])
      rw [et, List.countP_append]
      refine Ex.one ?_
      refine Ex1.ite (b := (prs.getD i (0, 0)).1 == q) ?_ (fun hc => ?_) (fun hc => ?_)
      · exact tr_hit hP hmem (by tb_rel) (by tb_rel) (by decide) (by decide)
      · have e : (((prs.take i).countP (fun p => p.1 == q) + [prs.getD i (0, 0)].countP (fun p => p.1 == q) : Nat) : Int) = (((prs.take i).countP fun p => p.1 == q : Nat) : Int) + 1 := by
          have e1 : [prs.getD i (0, 0)].countP (fun p => p.1 == q) = 1 := by rw [List.countP_singleton]; exact if_pos hc
          rw [e1]; rfl
        rw [e]
        refine Ex.one ?_
        refine Ex1.aug ?_ ?_
        · tb_rel
        · exact Ev.const_int
      · have e : (((prs.take i).countP (fun p => p.1 == q) + [prs.getD i (0, 0)].countP (fun p => p.1 == q) : Nat) : Int) = (((prs.take i).countP fun p => p.1 == q : Nat) : Int) := by
          have e1 : [prs.getD i (0, 0)].countP (fun p => p.1 == q) = 0 := by rw [List.countP_singleton]; exact if_neg (by rw [hc]; decide)
          rw [e1]; rfl
        rw [e]
        exact Ex.sub Ex.nil (by ktr_rel)
    · exact Ex.nil
    · simp only [List.take_length]
      ktr_rel
  · exact Ex.one (Ex1.ret (Ev.name (by tb_rel)))
theorem fn_indexOf {n : Nat} (prs : List (Int × Nat)) (q : Int) (u : Nat) (hP : Parts prs q u) (j : Nat) (hj : ∃ p, prs[j]? = some p ∧ p.1 = q) (hjf : ∀ i, i < j → ∀ p, prs[i]? = some p → p.1 ≠ q) :
    Fn B (n + 1) (nm "indexOf") [lstP ((prs.map itv).map same), same (.int q u)] (is (.int (j : Int))) := by
  refine Fn.of (d := dd 11) (def_11 M) rfl fun pm code doc L ad => ?_
  dsimp only [Binds]
  obtain ⟨pj, hpj, hq⟩ := hj
  have hjl : j < prs.length := (List.getElem?_eq_some_iff.mp hpj).1
  refine Ex.one ?_
  refine Ex1.forE (items := (prs.map itv).map same) (fun i => [(nm "b", same (.int q u))]) (fun i => [(nm "j", same (itv (prs.getD i (0, 0)))), (nm "i", is (.int (i : Int))), (nm "b", same (.int q u))]) j ?_ ?_ ?_ ?_ (.inr ⟨by simpa using hjl, .inl ⟨_, rfl, ?_⟩⟩)
  · refine ItD.list ?_ (mg_enum M) mb_enum
    exact Ev.name (by tb_rel)
  · ktr_rel
  · intro i p hp _
    have : p = same (itv (prs.getD i (0, 0))) := by
      simp only [List.map_map, List.getElem?_map, Option.map_eq_some_iff] at hp
      obtain ⟨a, ha, rfl⟩ := hp
      simp [List.getD, ha]
    subst this
    exact AsT.pairP (ρ₁ := [(nm "b", same (.int q u))])
  · intro i hi hi2
    have hil : i < prs.length := by omega
    have hmem : prs.getD i (0, 0) ∈ prs := by simp [List.getD, hil]
    refine Ex.one ?_
    refine Ex1.ite (b := (prs.getD i (0, 0)).1 == q) ?_ (fun hc => ?_) (fun hc => ?_)
    · exact tr_hit hP hmem (by tb_rel) (by tb_rel) (by decide) (by decide)
    · exact absurd (by simpa using hc) (hjf i hi _ (by simp [List.getD, hil]))
    · exact Ex.sub Ex.nil (by ktr_rel)
  · have hmem : prs.getD j (0, 0) ∈ prs := by simp [List.getD, hjl]
    refine Ex.one ?_
    refine Ex1.ite (b := (prs.getD j (0, 0)).1 == q) ?_ (fun hc => ?_) (fun hc => ?_)
    · exact tr_hit hP hmem (by tb_rel) (by tb_rel) (by decide) (by decide)
    · exact Ex.one (Ex1.ret (Ev.name (by tb_rel)))
    · simp [List.getD, hpj, hq] at hc
end
noncomputable def sameK (K : Nat) (v : Value) : Pd := ⟨fun _ k u => K ≤ k ∧ u = v, fun _ hl x => ⟨Nat.le_trans x.1 hl, x.2⟩⟩
/-- a list of ints whose tokens are not nought and all apart -/
noncomputable def fp (ns : List Int) : Pd := ⟨fun h k v => ∃ (a : Addr) (prs : List (Int × Nat)), v = .ref a ∧ h.IsList a (prs.map itv).toArray ∧ prs.map (·.1) = ns ∧ (prs.map (·.2)).Nodup ∧ ∀ p ∈ prs, 0 < p.2 ∧ p.2 < k, fun {h h' k k' v} ks hl x => by
  obtain ⟨a, prs, e, ⟨o, ho, hc, n, hd⟩, h1, h2, h3⟩ := x
  exact ⟨a, prs, e, ⟨o, ks _ _ _ _ ho hd, hc, n, hd⟩, h1, h2, fun p hp => ⟨(h3 p hp).1, Nat.lt_of_lt_of_le (h3 p hp).2 hl⟩⟩⟩
theorem zip_itv : ∀ (ns : List Int) (ts : List Nat), List.zipWith Value.int ns ts = (ns.zip ts).map itv
  | [], _ => rfl
  | _ :: _, [] => rfl
  | n :: r, t :: ts => by simp [zip_itv r ts]
theorem fl_fp {ns : List Int} {h : Heap} {k : Nat} {v : Value} (x : (fl ns).P h k v) : (fp ns).P h k v := by
  obtain ⟨a, vs, lo, rfl, hL, hp, ts, rfl, h2, h3, h4⟩ := x
  refine ⟨a, ns.zip ts, rfl, by rw [← zip_itv]; exact hL, List.map_fst_zip (by omega), ?_, fun p hp' => ?_⟩
  · rw [List.map_snd_zip (by omega)]
    exact h3.imp fun h => Nat.ne_of_lt h
  · have := h4 p.2 (List.of_mem_zip hp').2
    omega
theorem are_prs : ∀ (prs : List (Int × Nat)), IntsAre (prs.map itv) (prs.map (·.1))
  | [] => .nil
  | p :: r => .cons p.1 p.2 (are_prs r)
theorem fp_is {ns : List Int} {h : Heap} {k : Nat} {v : Value} (x : (fp ns).P h k v) : (is (intsD ns)).P h k v := by
  obtain ⟨a, prs, rfl, hL, rfl, _, _⟩ := x
  exact .list hL (are_ints (are_prs prs))
noncomputable def mx (x : Int) : Int := if -x > x then -x else x

section
variable {B : Base} {n : Nat} {env : Env} {ρ ρc : Rho}
/-- what is known of a name's value here, said otherwise -/
theorem Ex.open {x : Str} {p : Pd} {ss : List Stmt} {o : Out} (h : ∀ hp k v, p.P hp k v → ∃ p', p'.P hp k v ∧ Ex B n env ((x, p') :: (x, p) :: ρ) ss o) : Ex B n env ((x, p) :: ρ) ss o := fun A s he Q E ro F hq => by
  obtain ⟨m, hn, hv⟩ := F.rd.ns
  obtain ⟨v, hp, hw⟩ := hv x p (by simp)
  obtain ⟨p', hp', hex⟩ := h _ _ _ hp
  refine hex A s he Q E ro ⟨⟨F.rd.ok, F.rd.base, F.rd.pos, m, hn, fun y q hm => ?_⟩, F.keep, F.baseIn, F.loc, F.cells, F.inj⟩ hq
  rcases List.mem_cons.mp hm with hm | hm
  · cases hm; exact ⟨v, hp', hw⟩
  · exact hv y q hm
theorem Ev.itemP {v i : Expr} {pos : Pos} {ps : List Pd} {k : Int} {p : Pd} (hv : Ev B n env ρ v (lstP ps)) (hi : Ev B n env ρ i (is (.int k))) (h0 : 0 ≤ k) (hk : k < 2 ^ 63) (hd : ps[k.toNat]? = some p)
    (hs : ∀ o j t, subscripted i false o (.int j t) = operate [o, .int j t] (getItem o (.int j t)) := by intro _ _ _; with_unfolding_all rfl) : Ev B n env ρ (.Subscript v i pos) p :=
  fun A s Q E ro rd hq => Subscript_ (hv A s _ E ro rd fun u h₁ tk₁ k₁ l₁ i₁ => hi A _ _ E ro (rd.keeps k₁ l₁) fun w h₂ tk₂ k₂ l₂ i₂ => by
    cases i₂
    obtain ⟨a, vs, rfl, hl, r⟩ := (lstP ps).keeps i₁ k₂ l₂
    obtain ⟨x, hx, hxi⟩ := r.get hd
    refine tail_any hl.typeIs slot_list_getitem.lookup (wpAny_getItem_list hl h0 hk (by simpa using hx) ?_) (hs _ _ _)
    exact hq x h₂ tk₂ (k₁.trans k₂) (Nat.le_trans l₁ l₂) hxi)

theorem All.same_eq {h : Heap} {k : Nat} : ∀ {vs us : List Value}, All h k vs (us.map same) → vs = us
  | _, [], .nil => rfl
  | _, _ :: _, .cons a r => by
    have := All.same_eq r
    subst this
    have : _ = _ := a
    rw [this]
theorem All.of_same {h : Heap} {k : Nat} : ∀ (us : List Value), All h k us (us.map same)
  | [] => .nil
  | u :: us => .cons rfl (All.of_same us)
theorem All.of_sameK {h : Heap} {k K : Nat} (hk : K ≤ k) : ∀ (us : List Value), All h k us (us.map (sameK K))
  | [] => .nil
  | u :: us => .cons ⟨hk, rfl⟩ (All.of_sameK hk us)
/-- the greatest, where it is one alone -/
theorem bi_max {prs : List (Int × Nat)} {j : Nat} {pj : Int × Nat} (hj : prs[j]? = some pj) (hu : ∀ i p, prs[i]? = some p → i ≠ j → p.1 < pj.1) : Bi B (.builtin "max") [lstP ((prs.map itv).map same)] (same (itv pj)) := fun A s vs Q E hh al hq => by
  cases al with | cons i r =>
  cases r
  obtain ⟨a, vs, rfl, hl, r⟩ := i
  have := All.same_eq r
  subst this
  have hjl : j < prs.length := (List.getElem?_eq_some_iff.mp hj).1
  have e1 : (prs.map itv).toArray = intItems prs.toArray := by simp [intItems]
  rw [e1] at hl
  refine toks_go (max_intList hh hl (by simp; omega) fun v h' tk hv hk htk => ?_)
  refine hq v h' tk hk htk ?_
  have hb := argBest_gt (numAt prs.toArray) (prs.toArray.size - 1)
  generalize argBest (fun i j => decide (numAt prs.toArray i > numAt prs.toArray j)) (prs.toArray.size - 1) = b at hv hb
  have hbl : b < prs.length := by have := hb.1; simp at this; omega
  have hbj : b = j := by
    by_cases h : b = j
    · exact h
    · have h1 := hu b prs[b] (by simp [hbl]) h
      have h2 := hb.2 j (by simp; omega)
      have n1 : numAt prs.toArray j = pj.1 := by simp [numAt, hj]
      have n2 : numAt prs.toArray b = prs[b].1 := by simp [numAt, hbl]
      rw [n1, n2] at h2
      omega
  subst hbj
  simp only [intItems, Array.getElem?_map, List.getElem?_toArray, hj, Option.map_some, Option.some.injEq] at hv
  exact hv.symm
end
theorem Rd.only {B : Base} {env : Env} {h : Heap} {k : Nat} {ρ : Rho} {x : Str} {p : Pd} (r : Rd B env h k ρ) (hm : (x, p) ∈ ρ) : ∃ v, p.P h k v ∧ ∀ q : Pd, q.P h k v → Rd B env h k [(x, q)] := by
  obtain ⟨m, hn, hv⟩ := r.ns
  obtain ⟨u, hu, hw⟩ := hv _ _ hm
  refine ⟨u, hu, fun q hq => ⟨r.ok, r.base, r.pos, m, hn, fun y d hy => ?_⟩⟩
  cases List.mem_singleton.mp hy
  exact ⟨u, hq, hw⟩
theorem Rd.get {B : Base} {env : Env} {h : Heap} {k : Nat} {ρ : Rho} {x : Str} {p : Pd} (r : Rd B env h k ρ) (hm : (x, p) ∈ ρ) : ∃ v, p.P h k v := by
  obtain ⟨m, hn, hv⟩ := r.ns
  obtain ⟨u, hu, _⟩ := hv _ _ hm
  exact ⟨u, hu⟩
noncomputable def frN (K : Nat) (a : Int) : Pd := ⟨fun _ k v => ∃ t : Nat, v = .int a t ∧ K ≤ t ∧ t < k, fun _ hl ⟨t, e, h1, h2⟩ => ⟨t, e, h1, Nat.lt_of_lt_of_le h2 hl⟩⟩
noncomputable def mxP (K : Nat) (p : Int × Nat) : Pd := ⟨fun _ k v => ∃ t : Nat, v = .int (mx p.1) t ∧ t < k ∧ (K ≤ t ∨ t = p.2), fun _ hl ⟨t, e, h1, h2⟩ => ⟨t, e, Nat.lt_of_lt_of_le h1 hl, h2⟩⟩
section
variable {B : Base} {n : Nat} {env : Env} {ρ ρc : Rho}
theorem ev_neg {x : Str} {px pos : Pos} {K : Nat} {p : Int × Nat} (hm : (x, sameK K (itv p)) ∈ ρ) (hd : (x == ("__debug__" : Str)) = false) : Ev B n env ρ (.UnaryOp .USub (.Name x px) pos) (frN K (-p.1)) :=
  fun A s Q E ro rd hq => UnaryOp_ ((Ev.name hm hd) A s _ E ro rd fun v h₁ tk₁ k₁ l₁ i₁ => by
    obtain ⟨hK, rfl⟩ := i₁
    exact PyProof.Rows.neg_int (hq _ h₁ _ k₁ (Nat.le_succ_of_le l₁) ⟨tk₁, rfl, hK, Nat.lt_succ_self _⟩))
theorem bi_max2 {K : Nat} {p : Int × Nat} (hp : p.2 < K) : Bi B (.builtin "max") [sameK K (itv p), frN K (-p.1)] (mxP K p) := fun A s vs Q E hh al hq => by
  cases al with | cons i r =>
  cases r with | cons i2 r =>
  cases r
  obtain ⟨hK, rfl⟩ := i
  obtain ⟨t, rfl, h1, h2⟩ := i2
  refine toks_go (max_two_ints hh fun h' tk hk htk => ?_)
  have htk' : s.toks ≤ tk := htk
  have h2' : t < s.toks := h2
  have hK' : K ≤ s.toks := hK
  refine hq _ h' tk hk htk ?_
  by_cases hc : -p.1 > p.1
  · rw [if_pos hc]
    exact ⟨t, by unfold mx; rw [if_pos hc], show t < tk by omega, .inl h1⟩
  · rw [if_neg hc]
    exact ⟨p.2, by unfold mx; rw [if_neg hc], show p.2 < tk by omega, .inr rfl⟩
end
/-- the sizes so far -/
noncomputable def SzJ (prs : List (Int × Nat)) (K : Nat) (i : Nat) (ys : List Value) (k : Nat) : Prop :=
  ∃ qs : List (Int × Nat), ys = qs.map itv ∧ qs.map (·.1) = ((prs.take i).map (·.1)).map mx ∧ (qs.map (·.2)).Nodup ∧ (∀ q ∈ qs, 0 < q.2 ∧ q.2 < k) ∧ ∀ q ∈ qs, q.2 ∈ (prs.take i).map (·.2) ∨ K ≤ q.2
theorem mx_small {x : Int} (h : mx x ≤ 256) : smallInt (mx x) = true := by
  have : 0 ≤ mx x := by unfold mx; split <;> omega
  unfold smallInt
  simp only [Bool.and_eq_true, decide_eq_true_eq]
  omega
theorem cmp3_neg (x : Int) : (b2i (decide (0 < x)) - b2i (decide (x < 0)) == -1) = decide (x < 0) := by
  by_cases h1 : 0 < x <;> by_cases h2 : x < 0
  · omega
  · rw [decide_eq_true h1, decide_eq_false h2]; rfl
  · rw [decide_eq_false h1, decide_eq_true h2]; rfl
  · rw [decide_eq_false h1, decide_eq_false h2]; rfl
section
variable {B : Base} (M : Mn B)
include M
theorem ev_mx {n : Nat} {env : Env} {K : Nat} {pr : Int × Nat} {np p1 p2 p3 pos : Pos} (h : pr.2 < K) (hx : env.kindOf (nm "max") = some .globalImplicit) :
    Ev B n env [(nm "x", sameK K (itv pr))] (.Call (.Name (nm "max") np) [.Name (nm "x") p1, .UnaryOp .USub (.Name (nm "x") p2) p3] [] pos) (mxP K pr) :=
  Ev.callB (bi_max2 h) (mg_max M) mb_max (EvL.cons (Ev.name (by tb_rel)) (EvL.cons (ev_neg (by tb_rel) (by decide)) EvL.nil)) hx
theorem fn_told {n : Nat} (c : List Int) (j : Nat) (hj : j < c.length) (hsz : c.length ≤ 64) (hu : ∀ i, i < c.length → i ≠ j → mx (c.getD i 0) < mx (c.getD j 0)) (hs : mx (c.getD j 0) ≤ 256) :
    Fn B (n + 2) (nm "_law_told") [fl c] (is (intsD [(j : Int) + (if c.getD j 0 < 0 then 16 else 0), mx (c.getD j 0), 1])) := by
  refine Fn.of (d := dd 37) (def_37 M) rfl fun pm code doc L ad => ?_
  dsimp only [Binds]
  refine Ex.open fun hp k v hv => ?_
  obtain ⟨a, prs, rfl, hL, hfst, hnd, htk⟩ := fl_fp hv
  have hlen : prs.length = c.length := by rw [← hfst, List.length_map]
  refine ⟨lstP ((prs.map itv).map (sameK k)), ⟨a, _, rfl, hL, All.of_sameK (Nat.le_refl _) _⟩, ?_⟩
  refine Ex.cons (ρ₁ := [(nm "sizes", fp (c.map mx)), (nm "crossed", fl c)]) ?_ ?_
  · refine Ex1.assignC (x := nm "x") (cl := []) (ρc := []) (items := (prs.map itv).map (sameK k)) (fun _ i ys k' => SzJ prs k i ys k') ?_ ?_ ?_ ?_ ?_ ?_ ?_
    · refine It.lst ?_ ?_
      · exact Ev.name (by tb_rel)
      · simp only [List.length_map]; exact small_le (by omega)
    · ktr_unf
    · intro lo k' _ _
      exact ⟨[], rfl, by simp, by simp, by simp, by simp⟩
    · rintro lo i ys k1 k2 ⟨qs, h1, h2, h3, h4, h5⟩ hl
      exact ⟨qs, h1, h2, h3, fun q hq => ⟨(h4 q hq).1, Nat.lt_of_lt_of_le (h4 q hq).2 hl⟩, h5⟩
    · rintro lo i ys k1 ⟨qs, rfl, h2, _⟩
      have := congrArg List.length h2
      simp only [List.length_map, List.length_take] at this ⊢
      omega
    · intro lo i p v ys C hp A s E ro rd hJ
      simp only [List.map_map, List.getElem?_map, Option.map_eq_some_iff] at hp
      obtain ⟨pr, hpr, rfl⟩ := hp
      refine wpAny_tests_nil ⟨⟨s.heap, s.toks, rfl, Kp.refl _⟩, ?_⟩
      simp only [if_true]
      obtain ⟨u, ⟨hKs, rfl⟩, hw⟩ := rd.only (.tail _ (.head _))
      have rd' := hw (sameK s.toks (itv pr)) ⟨Nat.le_refl _, rfl⟩
      have hpm : pr ∈ prs := List.mem_of_getElem? hpr
      have ht := htk pr hpm
      refine ev_mx M (pr := pr) (K := s.toks) (by omega) (by rfl) A s _ E ro rd' fun y h2 tk2 k2 l2 hy => ⟨⟨h2, tk2, rfl, k2⟩, ?_⟩
      obtain ⟨t, rfl, ht2, hd⟩ := hy
      obtain ⟨qs, rfl, h2', h3, h4, h5⟩ := hJ
      have et := take_succ prs i pr hpr
      have hnew : ∀ q ∈ qs, q.2 ≠ t := by
        intro q hq
        have hq4 := h4 q hq
        rcases hd with hd | rfl
        · omega
        · rcases h5 q hq with h6 | h6
          · rw [← List.take_append_drop i prs, List.map_append] at hnd
            have hnd' := (List.nodup_append.mp hnd).2.2
            refine hnd' _ h6 _ ?_
            rw [List.drop_eq_getElem_cons (List.getElem?_eq_some_iff.mp hpr).1, (List.getElem?_eq_some_iff.mp hpr).2]
            simp
          · omega
      refine ⟨qs ++ [(mx pr.1, t)], by simp, ?_, ?_, ?_, ?_⟩
      · rw [et, List.map_append, h2']; simp
      · rw [List.map_append, List.nodup_append]
        refine ⟨h3, by simp, fun x hx y hy => ?_⟩
        obtain ⟨q, hq, rfl⟩ := List.mem_map.mp hx
        simp only [List.map_cons, List.map_nil, List.mem_singleton] at hy
        subst hy
        exact hnew q hq
      · intro q hq
        rcases List.mem_append.mp hq with hq | hq
        · have := h4 q hq
          exact ⟨this.1, show q.2 < tk2 by have hl2 : s.toks ≤ tk2 := l2; omega⟩
        · cases List.mem_singleton.mp hq
          have hl2' : s.toks ≤ tk2 := l2
          rcases hd with hd | rfl
          · have hB := rd.pos
            have := M.lo
            exact ⟨by show 0 < t; omega, ht2⟩
          · exact ⟨ht.1, ht2⟩
      · intro q hq
        rw [et, List.map_append]
        rcases List.mem_append.mp hq with hq | hq
        · rcases h5 q hq with h6 | h6
          · exact .inl (List.mem_append.mpr (.inl h6))
          · exact .inr h6
        · cases List.mem_singleton.mp hq
          rcases hd with hd | rfl
          · exact .inr (by show k ≤ t; omega)
          · exact .inl (List.mem_append.mpr (.inr (by simp)))
    · rintro lo h k' a' ys hlo hl ⟨qs, rfl, h2, h3, h4, _⟩
      refine ⟨a', qs, rfl, hl, ?_, h3, h4⟩
      simp only [List.length_map, List.take_length] at h2
      rw [h2, hfst]
  refine Ex.open fun hp' k' v' hv' => ?_
  obtain ⟨a', qs, rfl, hL', hfst', hnd', htk'⟩ := hv'
  have hlen' : qs.length = c.length := by
    have := congrArg List.length hfst'
    simpa using this
  have hget : ∀ i, i < c.length → ∃ q, qs[i]? = some q ∧ q.1 = mx (c.getD i 0) := fun i hi => by
    have h1 : i < qs.length := by omega
    refine ⟨qs[i], by simp [h1], ?_⟩
    have h2 : (qs.map (·.1))[i]? = (c.map mx)[i]? := by rw [hfst']
    simp only [List.getElem?_map, List.getElem?_eq_getElem h1, List.getElem?_eq_getElem hi, Option.map_some, Option.some.injEq] at h2
    rw [h2]
    simp [List.getD, hi]
  obtain ⟨pj, hpj, hpj1⟩ := hget j hj
  have huq : ∀ i p, qs[i]? = some p → i ≠ j → p.1 < pj.1 := fun i p hp hne => by
    have hi : i < c.length := by rw [← hlen']; exact (List.getElem?_eq_some_iff.mp hp).1
    obtain ⟨q, hq, hq1⟩ := hget i hi
    rw [hp] at hq; cases hq
    rw [hq1, hpj1]; exact hu i hi hne
  have hPt : Parts qs pj.1 pj.2 := by
    refine ⟨Nat.ne_of_gt (htk' pj (List.mem_of_getElem? hpj)).1, fun p hp => ?_⟩
    obtain ⟨i, hi⟩ := List.getElem?_of_mem hp
    have e1 : p.1 = pj.1 → i = j := fun e => by
      by_cases h : i = j
      · exact h
      · have := huq i p hi h; omega
    refine ⟨Nat.ne_of_gt (htk' p hp).1, fun e => ?_, fun e => ?_⟩
    · have hi' := (List.getElem?_eq_some_iff.mp hi)
      have hj' := (List.getElem?_eq_some_iff.mp hpj)
      have : i = j := by
        refine (List.getElem?_inj (by simpa using hi'.1) hnd').mp ?_
        simp only [List.getElem?_map, hi, hpj, Option.map_some, e]
      subst this
      rw [hi] at hpj; cases hpj; rfl
    · have : i = j := e1 e
      subst this
      rw [hi] at hpj; cases hpj
      rw [hpj1]; exact mx_small hs
  refine ⟨lstP ((qs.map itv).map same), ⟨a', _, rfl, hL', All.of_same _⟩, ?_⟩
  refine Ex.cons (ρ₁ := [(nm "place", is (.int (j : Int))), (nm "sizes", lstP ((qs.map itv).map same)), (nm "crossed", fl c)]) ?_ ?_
  · refine Ex1.assign ?_
    refine Ev.call (fn_indexOf M qs pj.1 pj.2 hPt j ⟨pj, hpj, rfl⟩ fun i hi p hp => ?_) ?_
    · exact Int.ne_of_lt (huq i p hp (Nat.ne_of_lt hi))
    · refine EvL.cons (Ev.name (by tb_rel)) (EvL.cons ?_ EvL.nil)
      exact Ev.callB (bi_max hpj huq) (mg_max M) mb_max (EvL.cons (Ev.name (by tb_rel)) EvL.nil)
  have hjj : (((j : Nat) : Int)).toNat = j := by omega
  refine Ex.cons (ρ₁ := [(nm "highest", is (.int (if c.getD j 0 < 0 then 16 else 0))), (nm "place", is (.int (j : Int))), (nm "sizes", lstP ((qs.map itv).map same))]) ?_ ?_
  · refine Ex1.assign ?_
    refine Ev.ite (c := (b2i (decide (0 < c.getD j 0)) - b2i (decide (c.getD j 0 < 0)) == -1)) ?_ (fun hc => ?_) (fun hc => ?_)
    · refine Tr.cmp cm_eq ?_ ?_
      · refine Ev.call (fn_cmp3 M (c.getD j 0) 0) (EvL.cons ?_ (EvL.cons Ev.const_int EvL.nil))
        refine Ev.item (ds := c.map D.int) (k := (j : Int)) ?_ ?_ ?_ ?_ ?_
        · exact (Ev.name (p := fl c) (by tb_rel)).mono fun _ _ _ x => fl_is x
        · exact Ev.name (by tb_rel)
        · omega
        · omega
        · have := get_ints (r := c) (k := (j : Int)) (by omega) (by omega)
          rw [hjj] at this ⊢
          exact this
      · exact (EvF.neg Ev.const_int).ev
    · rw [cmp3_neg] at hc
      rw [if_pos (of_decide_eq_true hc)]
      exact Ev.const_int
    · rw [cmp3_neg] at hc
      rw [if_neg (of_decide_eq_false hc)]
      exact Ev.const_int
  have hit : ((qs.map itv).map same)[((j : Nat) : Int).toNat]? = some (same (itv pj)) := by
    rw [hjj]; simp [hpj]
  have hcnt : (((qs.countP fun p => p.1 == pj.1 : Nat)) : Int) = 1 := by
    have hjl : j < qs.length := by omega
    have e : qs = qs.take j ++ (pj :: qs.drop (j + 1)) := by
      have h1 : qs.drop j = pj :: qs.drop (j + 1) := by
        rw [List.drop_eq_getElem_cons hjl, (List.getElem?_eq_some_iff.mp hpj).2]
      rw [← h1, List.take_append_drop]
    have z1 : (qs.take j).countP (fun p => p.1 == pj.1) = 0 := by
      rw [List.countP_eq_zero]
      intro p hp
      obtain ⟨i, hi⟩ := List.getElem?_of_mem hp
      have hi1 := (List.getElem?_eq_some_iff.mp hi).1
      simp only [List.length_take] at hi1
      have hi2 : qs[i]? = some p := by rw [List.getElem?_take] at hi; split at hi <;> first | exact hi | cases hi
      have := huq i p hi2 (by omega)
      simp; omega
    have z2 : (qs.drop (j + 1)).countP (fun p => p.1 == pj.1) = 0 := by
      rw [List.countP_eq_zero]
      intro p hp
      obtain ⟨i, hi⟩ := List.getElem?_of_mem hp
      rw [List.getElem?_drop] at hi
      have := huq _ p hi (by omega)
      simp; omega
    rw [e, List.countP_append, List.countP_cons, z1, z2]
    simp
  refine Ex.one (Ex1.ret ?_)
  refine Ev.list (ds := [(j : Int) + (if c.getD j 0 < 0 then 16 else 0), mx (c.getD j 0), 1].map D.int) ?_ (small_le (by simp))
  simp only [List.map_cons, List.map_nil]
  refine EvL.cons ?_ (EvL.cons ?_ (EvL.cons ?_ EvL.nil))
  · exact (EvF.bin op_add (Ev.name (by tb_rel)) (Ev.name (by tb_rel))).ev
  · rw [← hpj1]
    exact (Ev.itemP (Ev.name (by tb_rel)) (Ev.name (by tb_rel)) (by omega) (by omega) hit).mono fun _ _ _ x => same_is x
  · rw [← hcnt]
    refine Ev.call (fn_countOf M qs pj.1 pj.2 hPt (by omega)) (EvL.cons (Ev.name (by tb_rel)) (EvL.cons ?_ EvL.nil))
    exact Ev.itemP (Ev.name (by tb_rel)) (Ev.name (by tb_rel)) (by omega) (by omega) hit
end
/-- what does not hang on the heap -/
noncomputable def Free (p : Pd) : Prop := ∀ h h' k k' v, k ≤ k' → p.P h k v → p.P h' k' v
theorem free_same {v : Value} : Free (same v) := fun _ _ _ _ _ _ x => x
theorem free_int {i : Int} : Free (is (.int i)) := fun _ _ _ _ _ _ x => by cases x; exact .int
theorem free_str {x : Str} : Free (is (.str x)) := fun _ _ _ _ _ _ x => by cases x; exact .str
noncomputable def inB (B : Base) (d : D) : Pd := ⟨fun _ _ v => Is B.b₀ v d, fun _ _ x => x⟩
theorem free_inB {B : Base} {d : D} : Free (inB B d) := fun _ _ _ _ _ _ x => x
noncomputable def AllFree (ρ : Rho) : Prop := ∀ q ∈ ρ, Free q.2
theorem allFree_nil : AllFree [] := fun _ h => (nomatch h)
theorem allFree_cons {x : Str} {p : Pd} {ρ : Rho} (h : Free p) (r : AllFree ρ) : AllFree ((x, p) :: ρ) := fun q hq => by
  rcases List.mem_cons.mp hq with rfl | hq
  · exact h
  · exact r q hq
/-- data without parts -/
noncomputable def Flat : D → Prop
  | .int _ | .bool _ | .str _ | .none => True
  | _ => False
theorem flat_is {h h' : Heap} {v : Value} {d : D} (f : Flat d) (x : Is h v d) : Is h' v d := by
  cases x with
  | int => exact .int
  | bool => exact .bool
  | str => exact .str
  | none => exact .none
  | list => exact f.elim
  | tup => exact f.elim
theorem flat_isL {h h' : Heap} : ∀ {vs : List Value} {ds : List D}, (∀ d ∈ ds, Flat d) → IsL h vs ds → IsL h' vs ds
  | _, _, _, .nil => .nil
  | _, _, f, .cons a r => .cons (flat_is (f _ (.head _)) a) (flat_isL (fun d hd => f d (.tail _ hd)) r)

/-- a list of the def's own, that may turn -/
structure Own (he : Addr → Option Obj) (h : Heap) (o : Addr) (ds : List D) : Prop where
  off : he o = none
  flat : ∀ d ∈ ds, Flat d
  ex : ∃ vs, h.PlainList o vs.toArray ∧ IsL h vs ds
theorem Own.keeps {he : Addr → Option Obj} {h h' : Heap} {o : Addr} {ds : List D} (x : Own he h o ds) (k : Kp h h') : Own he h' o ds := by
  obtain ⟨vs, ⟨n, e⟩, r⟩ := x.ex
  exact ⟨x.off, x.flat, vs, ⟨n, k _ _ e⟩, r.keeps k⟩
theorem Own.at {he : Addr → Option Obj} {h h' : Heap} {o : Addr} {ds : List D} (x : Own he h o ds) (k : ∀ ob, h.get? o = some ob → h'.get? o = some ob) : Own he h' o ds := by
  obtain ⟨vs, ⟨n, e⟩, r⟩ := x.ex
  exact ⟨x.off, x.flat, vs, ⟨n, k _ e⟩, flat_isL x.flat r⟩
theorem Own.hide {he he' : Addr → Option Obj} {h : Heap} {o : Addr} {ds : List D} (x : Own he h o ds) (k : he' o = none) : Own he' h o ds := ⟨k, x.flat, x.ex⟩
theorem Own.isl {he : Addr → Option Obj} {h : Heap} {o : Addr} {ds : List D} (x : Own he h o ds) : Is h (.ref o) (.list ds) := by
  obtain ⟨vs, ⟨n, e⟩, r⟩ := x.ex
  exact .list ⟨_, e, rfl, n, rfl⟩ r

section
variable {B : Base} {n : Nat} {env : Env} {ρ ρc : Rho} {o : Addr}
theorem Fm.own_ne {he : Addr → Option Obj} {h : Heap} {k : Nat} {ds : List D} (F : Fm B env he h k ρ) (x : Own he h o ds) : o ≠ env.locals ∧ (∀ z c, env.cells.lookup z = some c → o ≠ c) ∧ B.b₀.get? o = none := by
  obtain ⟨vs, ⟨nn, e⟩, r⟩ := x.ex
  refine ⟨?_, fun z c hz => ?_, ?_⟩
  · rintro rfl
    obtain ⟨m, ⟨o', es, ep, ho, hd', _⟩, _⟩ := F.rd.ns
    rw [ho] at e; cases e; cases hd'
  · rintro rfl
    obtain ⟨v, o', ho, hd'⟩ := (F.cells z o hz).2
    rw [ho] at e; cases e; cases hd'
  · cases q : B.b₀.get? o with
    | none => rfl
    | some ob => have := F.baseIn _ _ q; rw [x.off] at this; cases this
theorem Fm.mut {he : Addr → Option Obj} {h h' : Heap} {k : Nat} {ds : List D} (F : Fm B env he h k ρ) (x : Own he h o ds) (hf : AllFree ρ) (hs : Heap.SameBut o h h') : Fm B env he h' k ρ := by
  obtain ⟨h1, h2, h3⟩ := F.own_ne x
  have kp : ∀ b ob, he b = some ob → h'.get? b = some ob := fun b ob e => hs.extBut b ob (by rintro rfl; rw [x.off] at e; cases e) (F.keep b ob e)
  obtain ⟨m, hn, hv⟩ := F.rd.ns
  refine ⟨⟨F.rd.ok, fun b ob e => kp b ob (F.baseIn b ob e), F.rd.pos, m, hn.sameBut hs (Ne.symm h1), fun y q hm => ?_⟩, kp, F.baseIn, F.loc, fun z c hz => ⟨(F.cells z c hz).1, let ⟨v, hv⟩ := (F.cells z c hz).2; ⟨v, hv.sameBut hs (Ne.symm (h2 z c hz))⟩⟩, F.inj⟩
  obtain ⟨u, hu, hw⟩ := hv y q hm
  exact ⟨u, hf _ hm _ _ _ _ _ (Nat.le_refl _) hu, hw.imp id fun ⟨h1, c, h2', h3'⟩ => ⟨h1, c, h2', h3'.sameBut hs (Ne.symm (h2 _ _ h2'))⟩⟩
/-- with the own list held fast -/
theorem Fm.fast {he : Addr → Option Obj} {h : Heap} {k : Nat} {ds : List D} (F : Fm B env he h k ρ) (x : Own he h o ds) : ∃ ob, Fm B env (Mine.with1 he o ob) h k ρ ∧ ∀ h' k' ρ', Fm B env (Mine.with1 he o ob) h' k' ρ' → Fm B env he h' k' ρ' ∧ Own he h' o ds := by
  obtain ⟨h1, h2, h3⟩ := F.own_ne x
  obtain ⟨vs, ⟨nn, e⟩, r⟩ := id x.ex
  refine ⟨_, F.with1 e h1 h2 h3, fun h' k' ρ' F' => ⟨F'.unhide (fun b ob' e' => ?_) F.baseIn, x.at fun ob' e' => ?_⟩⟩
  · unfold Mine.with1
    rw [if_neg (by rintro rfl; rw [x.off] at e'; cases e')]; exact e'
  · rw [e] at e'; cases e'
    exact F'.keep o _ (by unfold Mine.with1; rw [if_pos rfl])

inductive OutW where
  | next (ρ : Rho) (ds : List D)
  | brk (ρ : Rho) (ds : List D)
  | ret (p : Pd)
noncomputable def OutW.Post (B : Base) (env : Env) (he : Addr → Option Obj) (o : Addr) (s : Shared) (Q : Flow → Shared → Prop) : OutW → Prop
  | .next ρ ds => ∀ h' tk', Fm B env he h' tk' ρ → Own he h' o ds → s.toks ≤ tk' → Q .next { s with heap := h', toks := tk' }
  | .brk ρ ds => ∀ h' tk', Fm B env he h' tk' ρ → Own he h' o ds → s.toks ≤ tk' → Q .brk { s with heap := h', toks := tk' }
  | .ret p => ∀ v h' tk', Fm B env he h' tk' [] → s.toks ≤ tk' → p.P h' tk' v → Q (.ret v) { s with heap := h', toks := tk' }
theorem OutW.Post.later {he : Addr → Option Obj} {s : Shared} {h₁ : Heap} {k₁ : Nat} {Q : Flow → Shared → Prop} : ∀ {u : OutW}, u.Post B env he o s Q → s.toks ≤ k₁ → u.Post B env he o { s with heap := h₁, toks := k₁ } Q
  | .next _ _, h, hl => fun h' tk' F w l => h h' tk' F w (Nat.le_trans hl l)
  | .brk _ _, h, hl => fun h' tk' F w l => h h' tk' F w (Nat.le_trans hl l)
  | .ret _, h, hl => fun v h' tk' F l => h v h' tk' F (Nat.le_trans hl l)
noncomputable def ExW (B : Base) (n : Nat) (env : Env) (o : Addr) (ρ : Rho) (ds : List D) (ss : List Stmt) (u : OutW) : Prop :=
  ∀ (A : Around) (s : Shared) (he : Addr → Option Obj) (Q : Flow → Shared → Prop) (E : Value → Shared → Prop), Room A n → Fm B env he s.heap s.toks ρ → Own he s.heap o ds → u.Post B env he o s Q → wpAny (model B.prog B.w) A (execs ss env) Q E s
noncomputable def ExW1 (B : Base) (n : Nat) (env : Env) (o : Addr) (ρ : Rho) (ds : List D) (st : Stmt) (u : OutW) : Prop :=
  ∀ (A : Around) (s : Shared) (he : Addr → Option Obj) (Q : Flow → Shared → Prop) (E : Value → Shared → Prop), Room A n → Fm B env he s.heap s.toks ρ → Own he s.heap o ds → u.Post B env he o s Q → wpAny (model B.prog B.w) A (exec st env) Q E s

variable {ds : List D}
theorem ExW.nil : ExW B n env o ρ ds [] (.next ρ ds) := fun A s he Q E ro F w h => wpAny_execs_nil (h s.heap s.toks F w (Nat.le_refl _))
theorem ExW.cons {st : Stmt} {rest : List Stmt} {ρ₁ : Rho} {ds₁ : List D} {u : OutW} (h1 : ExW1 B n env o ρ ds st (.next ρ₁ ds₁)) (h2 : ExW B n env o ρ₁ ds₁ rest u) : ExW B n env o ρ ds (st :: rest) u := fun A s he Q E ro F w h =>
  wpAny_execs_cons (h1 A s he _ E ro F w fun h' tk' F' w' l => h2 A _ he Q E ro F' w' (h.later l))
theorem ExW.stopR {st : Stmt} {rest : List Stmt} {p : Pd} (h1 : ExW1 B n env o ρ ds st (.ret p)) : ExW B n env o ρ ds (st :: rest) (.ret p) := fun A s he Q E ro F w h =>
  wpAny_execs_cons (h1 A s he _ E ro F w fun v h' tk' F' l x => h v h' tk' F' l x)
theorem ExW.stopB {st : Stmt} {rest : List Stmt} {ρ₁ : Rho} {ds₁ : List D} (h1 : ExW1 B n env o ρ ds st (.brk ρ₁ ds₁)) : ExW B n env o ρ ds (st :: rest) (.brk ρ₁ ds₁) := fun A s he Q E ro F w h =>
  wpAny_execs_cons (h1 A s he _ E ro F w fun h' tk' F' w' l => h h' tk' F' w' l)
theorem ExW.one {st : Stmt} {u : OutW} (h1 : ExW1 B n env o ρ ds st u) : ExW B n env o ρ ds [st] u := by
  cases u with
  | next ρ₁ ds₁ => exact ExW.cons h1 ExW.nil
  | brk ρ₁ ds₁ => exact ExW.stopB h1
  | ret p => exact ExW.stopR h1
theorem ExW.sub {ss : List Stmt} {u : OutW} {ρ' : Rho} (h : ExW B n env o ρ' ds ss u) (hs : ∀ p ∈ ρ', p ∈ ρ) : ExW B n env o ρ ds ss u := fun A s he Q E ro F w hq => h A s he Q E ro (F.sub hs) w hq
theorem ExW1.out {st : Stmt} {ρ₁ ρ₂ : Rho} {ds₁ : List D} (h : ExW1 B n env o ρ ds st (.next ρ₁ ds₁)) (hs : ∀ p ∈ ρ₂, p ∈ ρ₁) : ExW1 B n env o ρ ds st (.next ρ₂ ds₁) := fun A s he Q E ro F w hq => h A s he Q E ro F w fun h' tk' F' w' l => hq h' tk' (F'.sub hs) w' l
theorem ExW1.ite {t : Expr} {body orelse : List Stmt} {pos : Pos} {b : Bool} {u : OutW} (h : Tr B n env ρ t b) (h1 : b = true → ExW B n env o ρ ds body u) (h2 : b = false → ExW B n env o ρ ds orelse u) : ExW1 B n env o ρ ds (.If t body orelse pos) u :=
  fun A s he Q E ro F w hq => wpAny_If (h A s _ E ro F.rd fun h₁ tk₁ k₁ l₁ => by
    cases b with
    | true => exact h1 rfl A _ he Q E ro (F.keeps k₁ l₁) (w.keeps k₁) (hq.later l₁)
    | false => exact h2 rfl A _ he Q E ro (F.keeps k₁ l₁) (w.keeps k₁) (hq.later l₁))
theorem ExW1.brk {pos : Pos} : ExW1 B n env o ρ ds (.Break pos) (.brk ρ ds) := fun A s he Q E ro F w hq => by
  show wpAny _ A (do standAt pos; pure .brk) Q E s
  exact wpAny_bind (wpAny_standAt (wpAny_pure (hq s.heap s.toks F w (Nat.le_refl _))))
/-- a statement that leaves the own list be -/
theorem ExW1.lift {st : Stmt} {ρ₁ : Rho} (h : Ex1 B n env ρ st (.next ρ₁)) : ExW1 B n env o ρ ds st (.next ρ₁ ds) := fun A s he Q E ro F w hq => by
  obtain ⟨ob, F1, back⟩ := F.fast w
  exact h A s _ Q E ro F1 fun h' tk' F' l => let ⟨F2, w2⟩ := back h' tk' _ F'; hq h' tk' F2 w2 l
/-- a return that reads the own list -/
theorem ExW1.retR {x : Str} {e : Expr} {pos : Pos} {p : Pd} (hm : (x, same (.ref o)) ∈ ρ) (h : Ev B n env ((x, is (.list ds)) :: ρ) e p) : ExW1 B n env o ρ ds (.Return (some e) pos) (.ret p) := fun A s he Q E ro F w hq => by
  have rd : Rd B env s.heap s.toks ((x, is (.list ds)) :: ρ) := by
    obtain ⟨m, hn, hv⟩ := F.rd.ns
    refine ⟨F.rd.ok, F.rd.base, F.rd.pos, m, hn, fun y q hy => ?_⟩
    rcases List.mem_cons.mp hy with hy | hy
    · cases hy
      obtain ⟨u, hu, hw⟩ := hv _ _ hm
      have hu' : u = .ref o := hu
      subst hu'
      exact ⟨_, w.isl, hw⟩
    · exact hv y q hy
  exact wpAny_Return_some (h A s _ E ro rd fun v h₁ tk₁ k₁ l₁ i₁ => hq v h₁ tk₁ ((F.keeps k₁ l₁).sub fun _ hp => (nomatch hp)) l₁ i₁)
/-- o.append(e) -/
theorem ExW1.append {x : Str} {e : Expr} {px apos pos epos : Pos} {d : D} (hm : (x, same (.ref o)) ∈ ρ) (h : Ev B n env ρ e (is d)) (hd : Flat d) (hf : AllFree ρ) (hsz : ds.length ≤ 64)
    (hbase : attributeBase (.Name x px) "append" env (eval (.Name x px) env) = eval (.Name x px) env := by rfl) (hs : starEach [e] env = [(false, eval e env)] := by rfl) (hline : (apos.endLine == pos.line) = true := by rfl)
    (hi : interactive env = false := by rfl) (hsw : swapsWith (.Call (.Attribute (.Name x px) "append" apos) [e] [] pos) none epos.line env = pure false := by rfl) (hdb : (x == ("__debug__" : Str)) = false := by decide) :
    ExW1 B n env o ρ ds (.Expr (.Call (.Attribute (.Name x px) "append" apos) [e] [] pos) epos) (.next ρ (ds ++ [d])) := fun A s he Q E ro F w hq => by
  refine wpAny_Expr_any ?_ hi hsw
  refine Call_method1 hbase hs hline ?_
  refine Ev.name hm hdb A s _ E ro F.rd fun u h₁ tk₁ k₁ l₁ hu => ?_
  have hu' : u = .ref o := hu
  subst hu'
  have F₁ := F.keeps k₁ l₁
  have w₁ := w.keeps k₁
  obtain ⟨vs, ⟨nn, e1⟩, r⟩ := w₁.ex
  refine ⟨"list", "list.append", PySem.F.plainAttrs_list, PySem.F.slot_list_append, PySem.F.type_list_append, ⟨_, e1, rfl⟩, fun a ha => by cases ha; exact ⟨_, e1, rfl⟩, ?_⟩
  refine P.append_list ?_
  refine h A _ _ E ro F₁.rd fun v h₂ tk₂ k₂ l₂ hv => ?_
  have F₂ := F₁.keeps k₂ l₂
  have w₂ := w₁.keeps k₂
  obtain ⟨vs, ⟨nn, e2⟩, r⟩ := id w₂.ex
  refine ⟨vs.toArray, nn, ?_, e2, ?_⟩
  · rw [List.size_toArray, r.length]; exact small_le hsz
  · have e3 := PySem.IsL.update (show PySem.IsL h₂ o vs.toArray nn from e2) (·.push v)
    have e4 : (h₂.update o (Obj.mapSeq (·.push v))).PlainList o (vs ++ [v]).toArray := ⟨_, by simpa using e3⟩
    refine hq _ tk₂ (F₂.mut w₂ hf (Heap.SameBut.update ..)) ⟨w.off, fun d' hd' => ?_, vs ++ [v], e4, ?_⟩ (Nat.le_trans l₁ l₂)
    · rcases List.mem_append.mp hd' with hd' | hd'
      · exact w.flat d' hd'
      · cases List.mem_singleton.mp hd'; exact hd
    · exact (flat_isL w.flat r).snoc (flat_is hd hv)
end
section
variable {B : Base} {n : Nat} {env : Env} {ρ ρc : Rho} {o : Addr}
/-- no list among them -/
noncomputable def NoList (h : Heap) (fp : List Addr) : Prop := ∀ b ∈ fp, ∃ ob, h.get? b = some ob ∧ ob.cls ≠ .type "list"
theorem NoList.off {he : Addr → Option Obj} {h : Heap} {fp : List Addr} {ds : List D} (x : NoList h fp) (w : Own he h o ds) : o ∉ fp := fun hm => by
  obtain ⟨ob, e, hc⟩ := x o hm
  obtain ⟨vs, ⟨nn, e'⟩, _⟩ := w.ex
  rw [e] at e'; cases e'
  exact hc rfl
noncomputable def ItT (B : Base) (n : Nat) (env : Env) (ρ : Rho) (e : Expr) (items : List Pd) : Prop :=
  ∀ (A : Around) (s : Shared) (Q E : Value → Shared → Prop), Room A n → Rd B env s.heap s.toks ρ →
    (∀ I fp wr P St h' tk', Wk B A s.heap items I fp wr P St h' tk' → NoList h' fp → Kp s.heap h' → s.toks ≤ tk' → Q (.ref I) { s with heap := h', toks := tk' }) →
    wpAny (model B.prog B.w) A (eval e env) (fun xv s₁ => wpAny (model B.prog B.w) A (pyIter xv) Q E s₁) E s
noncomputable def ItDT (B : Base) (n : Nat) (env : Env) (ρ : Rho) (e : Expr) (items : List Pd) : Prop :=
  ∀ (A : Around) (s : Shared) (Q E : Value → Shared → Prop), Room A n → Rd B env s.heap s.toks ρ →
    (∀ en it fp P St h' tk', WkD B A s.heap items en it fp P St h' tk' → NoList h' (en :: fp) → Kp s.heap h' → s.toks ≤ tk' → Q (.ref en) { s with heap := h', toks := tk' }) →
    wpAny (model B.prog B.w) A (eval e env) (fun xv s₁ => wpAny (model B.prog B.w) A (pyIter xv) Q E s₁) E s
theorem ItT.tup {e : Expr} {ps : List Pd} (h : Ev B n env ρ e (tupP ps)) (hsz : ps.length ≤ sizeLine) : ItT B n env ρ e ps :=
  fun A s Q E ro rd hq => h A s _ E ro rd fun v h₁ tk₁ k₁ l₁ i₁ => by
    obtain ⟨a, vs, rfl, hl, r⟩ := i₁
    have hlt : a < h₁.objs.size := by obtain ⟨_, e, _⟩ := hl; exact Heap.lt_size e
    refine wpAny_pyIter_tuple hl ?_
    have up := Kp.push h₁ { cls := .type "tuple_iterator", data := .fields #[.ref a, .int 0 0] }
    have W := Walks.tuple (prog := B.prog) (w := B.w) ro.1 h₁.objs.size a (Nat.ne_of_lt hlt) vs.toArray
    have hlen : vs.toArray.size = ps.length := by simp [r.length]
    rw [hlen] at W
    have hl' : (h₁.push { cls := .type "tuple_iterator", data := .fields #[.ref a, .int 0 0] }).IsTuple a vs.toArray := by obtain ⟨o, e, r⟩ := hl; exact ⟨o, up _ _ e, r⟩
    refine hq _ _ _ _ _ _ tk₁ ⟨W, hsz, ⟨⟨_, Heap.get?_push_size _ rfl, rfl, rfl⟩, hl'⟩, fun b hb => ?_, fun b hb => ?_, fun i h st b hb => ?_, fun i h st b hb => ?_, fun i v p hP hp => ?_, fun i h st => ?_⟩ (fun b hb => ?_) (k₁.trans up) l₁
    · rw [Heap.size_push]
      rcases List.mem_cons.mp hb with rfl | hb
      · exact Nat.lt_succ_self _
      · rw [List.mem_singleton.mp hb]; exact Nat.lt_succ_of_lt hlt
    · rw [List.mem_singleton.mp hb]
      cases q : s.heap.get? h₁.objs.size with
      | none => rfl
      | some o => exact absurd (Heap.lt_size (k₁ _ _ q)) (Nat.lt_irrefl _)
    · rcases List.mem_cons.mp hb with rfl | hb
      · obtain ⟨o, e, _, d⟩ := st.1; exact ⟨o, e, .inl ⟨_, d⟩⟩
      · rw [List.mem_singleton.mp hb]
        obtain ⟨o, e, _, n, d⟩ := st.2; exact ⟨o, e, .inr ⟨_, _, d⟩⟩
    · rw [List.mem_singleton.mp hb]
      obtain ⟨o, e, _, d⟩ := st.1; exact ⟨o, _, e, d⟩
    · obtain ⟨v', hv', hi⟩ := r.get hp
      have : v' = v := by simpa [hv'] using hP
      subst this
      exact p.keeps hi up (Nat.le_refl _)
    · obtain ⟨o, e, c, _⟩ := st.1; exact ⟨o, _, e, c, by decide⟩
    · rcases List.mem_cons.mp hb with rfl | hb
      · exact ⟨_, Heap.get?_push_size _ rfl, show Value.type "tuple_iterator" ≠ .type "list" by decide⟩
      · rw [List.mem_singleton.mp hb]
        obtain ⟨ob, e, c, _⟩ := hl'
        exact ⟨ob, e, by rw [c]; decide⟩
theorem ItDT.tup {x : Str} {np pos : Pos} {e : Expr} {ps : List Pd} (h : Ev B n env ρ e (tupP ps)) (hg : B.mg x = none) (hb : B.mb x = some (.type "enumerate")) (hx : env.kindOf x = some .globalImplicit := by rfl)
    (hst : isStarred e = false := by rfl) (hd : (x == ("__debug__" : Str)) = false := by decide) : ItDT B n env ρ (.Call (.Name x np) [e] [] pos) ps :=
  fun A s Q E ro rd hq => by
    refine Call_ (built_name rd hx hg hb ?_ hd)
    have ha := (EvL.cons h EvL.nil hst) A s pos (fun vs s₁ => wpAny (model B.prog B.w) A (PySem.call (.type "enumerate") vs) (fun xv s₂ => wpAny (model B.prog B.w) A (pyIter xv) Q E s₂) E s₁) E ro rd fun vs h₁ tk₁ k₁ l₁ al => by
      cases al with | cons i r =>
      cases r
      obtain ⟨a, vs, rfl, hl, hal⟩ := i
      have hlt : a < h₁.objs.size := by obtain ⟨_, e, _⟩ := hl; exact Heap.lt_size e
      refine call_enum_tup hl fun h₂ he hit hz hk => ?_
      refine wpAny_pyIter_enum he ?_
      have hlen : vs.toArray.size = ps.length := by simp [hal.length]
      have D := Draws.tuple (prog := B.prog) (w := B.w) (A := A.in1) ro.1 h₁.objs.size a (Nat.ne_of_lt hlt) vs.toArray
      rw [hlen] at D
      have none_of : ∀ b, h₁.objs.size ≤ b → s.heap.get? b = none := fun b hb => by
        cases e : s.heap.get? b with
        | none => rfl
        | some o' => exact absurd (Heap.lt_size (k₁ _ _ e)) (Nat.not_lt.mpr hb)
      have hz' : h₂.objs.size = h₁.objs.size + 2 := hz
      have hl2 : h₂.IsTuple a vs.toArray := by obtain ⟨o, e, r⟩ := hl; exact ⟨o, hk _ o e, r⟩
      refine hq _ _ _ _ _ h₂ tk₁ ⟨D, he, ⟨hit, hl2⟩, Nat.ne_of_gt (Nat.lt_succ_self _), ?_, by simp, ?_, none_of _ (Nat.le_succ _), none_of _ (Nat.le_refl _), ?_, ?_, ?_⟩ (fun b hb => ?_) (k₁.trans hk) l₁
      · intro hm
        rcases List.mem_cons.mp hm with hm | hm
        · exact absurd hm (Nat.ne_of_gt (Nat.lt_succ_self _))
        · have h3 : h₁.objs.size + 1 = a := List.mem_singleton.mp hm
          rw [← h3] at hlt
          exact absurd hlt (Nat.not_lt.mpr (Nat.le_succ _))
      · intro b hb
        rcases List.mem_cons.mp hb with rfl | hb
        · rw [hz']; exact Nat.lt_add_of_pos_right (by decide)
        · rw [List.mem_singleton.mp hb, hz']; exact Nat.lt_of_lt_of_le hlt (Nat.le_add_right _ _)
      · intro i h st b hb
        rcases List.mem_cons.mp hb with rfl | hb
        · obtain ⟨o, e, _, d⟩ := st.1; exact ⟨o, e, .inl ⟨_, d⟩⟩
        · rw [List.mem_singleton.mp hb]
          obtain ⟨o, e, _, n, d⟩ := st.2; exact ⟨o, e, .inr ⟨_, _, d⟩⟩
      · intro i h st
        obtain ⟨o, e, _, d⟩ := st.1; exact ⟨o, _, e, d⟩
      · intro i v p hP hp
        obtain ⟨v', hv', hi⟩ := hal.get hp
        have : v' = v := by simpa [hv'] using hP
        subst this
        exact p.keeps hi hk (Nat.le_refl _)
      · rcases List.mem_cons.mp hb with rfl | hb
        · exact ⟨_, he, show Value.type "enumerate" ≠ .type "list" by decide⟩
        rcases List.mem_cons.mp hb with rfl | hb
        · obtain ⟨ob, e, c, _⟩ := hit
          exact ⟨ob, e, by rw [c]; decide⟩
        · rw [List.mem_singleton.mp hb]
          obtain ⟨ob, e, c, _⟩ := hl2
          exact ⟨ob, e, by rw [c]; decide⟩
    rw [star_cons [] env hst] at ha ⊢
    exact PyProof.Rows.callWith_type rfl (evalArgs_plain ha)

open Classical in
/-- all that stands but the frame's own and its own list -/
noncomputable def hidO (env : Env) (o : Addr) (h : Heap) : Addr → Option Obj := fun b => if b = o then none else hid env h b
theorem hidO_self {h : Heap} : hidO env o h o = none := by unfold hidO; rw [if_pos rfl]
theorem hidO_of {h : Heap} {b : Addr} {ob : Obj} (hne : b ≠ o) (e : hid env h b = some ob) : hidO env o h b = some ob := by unfold hidO; rw [if_neg hne]; exact e
theorem hidO_some {h : Heap} {b : Addr} {ob : Obj} (e : hidO env o h b = some ob) : hid env h b = some ob := by
  unfold hidO at e
  split at e
  · cases e
  · exact e
theorem Fm.hideO {he : Addr → Option Obj} {h : Heap} {k : Nat} {ds : List D} (F : Fm B env he h k ρ) (w : Own he h o ds) : Fm B env (hidO env o h) h k ρ ∧ Own (hidO env o h) h o ds :=
  ⟨F.hide.unhide (fun b ob e => hidO_some e) fun b ob e => hidO_of (by rintro rfl; rw [(F.own_ne w).2.2] at e; cases e) (F.le_hid (F.baseIn b ob e)), w.hide hidO_self⟩
theorem Fm.unhideO {he : Addr → Option Obj} {h h₀ : Heap} {k k₀ : Nat} {ρ₀ : Rho} {ds ds₀ : List D} (F₀ : Fm B env he h₀ k₀ ρ₀) (w₀ : Own he h₀ o ds₀) (F : Fm B env (hidO env o h₀) h k ρ) (w : Own (hidO env o h₀) h o ds) : Fm B env he h k ρ ∧ Own he h o ds :=
  ⟨F.unhide (fun b ob e => hidO_of (by rintro rfl; rw [w₀.off] at e; cases e) (F₀.le_hid e)) F₀.baseIn, w.hide w₀.off⟩

theorem Own.of_wr {he : Addr → Option Obj} {h h' : Heap} {wr : List Addr} {ds : List D} (w : Own he h o ds) (hk : ∀ b ob, b ∉ wr → h.get? b = some ob → h'.get? b = some ob) (hw : ∀ b ∈ wr, ∃ ob fs, h.get? b = some ob ∧ ob.data = .fields fs) : Own he h' o ds :=
  w.at fun ob e => hk o ob (fun hb => by
    obtain ⟨ob', fs, e', d'⟩ := hw o hb
    obtain ⟨vs, ⟨nn, e2⟩, _⟩ := w.ex
    rw [e2] at e'; cases e'; cases d') e

theorem ExW1.for {target iter : Expr} {body orelse : List Stmt} {pos : Pos} {items : List Pd} (ρs ρb : Nat → Rho) (ds : Nat → List D) (j : Nat) {u : OutW} (hit : ItT B n env ρ iter items) (hfree : ∀ p ∈ items, Free p) (h0 : ∀ p ∈ ρs 0, p ∈ ρ)
    (has : ∀ i p, items[i]? = some p → i ≤ j → AsT B n env (ρs i) (ρb i) target p) (hbody : ∀ i, i < j → i < items.length → ExW B n env o (ρb i) (ds i) body (.next (ρs (i + 1)) (ds (i + 1))))
    (hend : (j = items.length ∧ ExW B n env o (ρs j) (ds j) orelse u) ∨ (j < items.length ∧ ((∃ p, u = .ret p ∧ ExW B n env o (ρb j) (ds j) body (.ret p)) ∨ ∃ ρ' ds', u = .next ρ' ds' ∧ ExW B n env o (ρb j) (ds j) body (.brk ρ' ds'))))
    (hs : ∀ x, foldedSetIterable iter env x = pure x := by intro _; rfl) : ExW1 B n env o ρ (ds 0) (.For target iter body orelse pos) u := fun A s he Q E ro F w hq => by
  refine wpAny_For (hit A s _ E ro F.rd fun I fp wr P St h₂ tk₂ W nl k₂ l₂ => ?_) hs
  have F₂ : Fm B env he h₂ tk₂ (ρs 0) := (F.keeps k₂ l₂).sub h0
  have w₂ : Own he h₂ o (ds 0) := w.keeps k₂
  have hofp : o ∉ fp := nl.off w₂
  have hjn : j ≤ items.length := by rcases hend with ⟨h, _⟩ | ⟨h, _⟩ <;> omega
  have hwr : ∀ b ∈ wr, he b = none := fun b hb => by
    cases e : he b with
    | none => rfl
    | some o' => have := F.keep b o' e; rw [W.new b hb] at this; cases this
  have hq' : u.Post B env he o { s with heap := h₂, toks := tk₂ } Q := hq.later l₂
  refine codeAny_forLoop_any
    (fun k s' => ∃ h' tk i, s' = { s with heap := h', toks := tk } ∧ i ≤ j ∧ k = items.length + 1 - i ∧ St i h' ∧ Fm B env he h' tk (ρs i) ∧ Own he h' o (ds i) ∧ tk₂ ≤ tk) ?_ (items.length + 1)
    ⟨h₂, tk₂, 0, rfl, Nat.zero_le _, rfl, W.st, F₂, w₂, Nat.le_refl _⟩
  rintro k s' ⟨H, tk, i, rfl, hi, rfl, hst', F', w', htk⟩
  have hw' := W.kindw i H hst'
  by_cases hlt : i < items.length
  · refine toks_go (W.W.item i _ _ _ hlt hst' fun v h₃ tk₃ hPv hst₃ hk₃ htk₃ => ?_)
    have htk₃' : tk ≤ tk₃ := htk₃
    have hk₃' : ∀ b o, b ∉ wr → H.get? b = some o → h₃.get? b = some o := hk₃
    have F₃ : Fm B env he h₃ tk₃ (ρs i) := F'.of_wr hk₃' hw' hwr htk₃'
    have w₃ : Own he h₃ o (ds i) := w'.of_wr hk₃' hw'
    obtain ⟨oI, nm, hoI, hcI, hnI⟩ := W.quiet (i + 1) h₃ hst₃
    refine letGo_quiet (B := B) (o := oI) hoI hcI hnI ?_
    have hp : (items[i]).P h₃ tk₃ v := hfree _ (List.getElem_mem hlt) _ _ _ _ _ (by omega) (W.item i v _ hPv (by simp [hlt]))
    obtain ⟨Fh, wh⟩ := F₃.hideO w₃
    obtain ⟨ob, Ff, back⟩ := Fh.fast wh
    refine has i items[i] (by simp [hlt]) hi A { s with heap := h₃, toks := tk₃ } _ v _ _ ro Ff hp fun h₄ tk₄ F₄' l₄ => ?_
    have l₄' : tk₃ ≤ tk₄ := l₄
    obtain ⟨F₄, w₄⟩ := back _ _ _ F₄'
    by_cases hij : i < j
    · refine hbody i hij hlt A { s with heap := h₄, toks := tk₄ } (hidO env o h₃) _ _ ro F₄ w₄ fun h₅ tk₅ F₅ w₅ l₅ => ?_
      have l₅' : tk₄ ≤ tk₅ := l₅
      obtain ⟨F₆, w₆⟩ := F₃.unhideO w₃ F₅ w₅
      refine ⟨items.length + 1 - (i + 1), by omega, h₅, tk₅, i + 1, rfl, hij, rfl, W.W.frame _ _ _ hst₃ fun b hb o' e => ?_, F₆, w₆, by omega⟩
      obtain ⟨o'', e', hd⟩ := W.kind (i + 1) h₃ hst₃ b hb
      rw [e] at e'; cases e'
      exact F₅.keep b o' (hidO_of (by rintro rfl; exact hofp hb) (F₃.hid_data e hd))
    · have hij' : i = j := by omega
      subst hij'
      rcases hend with ⟨h, _⟩ | ⟨_, ⟨p, rfl, hb⟩ | ⟨ρ', ds', rfl, hb⟩⟩
      · omega
      · refine hb A { s with heap := h₄, toks := tk₄ } (hidO env o h₃) _ _ ro F₄ w₄ fun u h₅ tk₅ F₅ l₅ hu => ?_
        have l₅' : tk₄ ≤ tk₅ := l₅
        exact hq u h₅ tk₅ (F₅.unhide (fun b ob e => hidO_of (by rintro rfl; rw [w₃.off] at e; cases e) (F₃.le_hid e)) F₃.baseIn) (by omega) hu
      · refine hb A { s with heap := h₄, toks := tk₄ } (hidO env o h₃) _ _ ro F₄ w₄ fun h₅ tk₅ F₅ w₅ l₅ => ?_
        have l₅' : tk₄ ≤ tk₅ := l₅
        obtain ⟨F₆, w₆⟩ := F₃.unhideO w₃ F₅ w₅
        exact hq h₅ tk₅ F₆ w₆ (by omega)
  · have hin : i = items.length := by omega
    have hjj : j = items.length := by omega
    subst hin
    subst hjj
    rcases hend with ⟨_, hb⟩ | ⟨h, _⟩
    · refine toks_go (W.W.done _ _ _ hst' fun h₃ tk₃ hk₃ htk₃ => ?_)
      have htk₃' : tk ≤ tk₃ := htk₃
      have F₃ : Fm B env he h₃ tk₃ (ρs items.length) := F'.of_wr hk₃ hw' hwr htk₃'
      exact hb A { s with heap := h₃, toks := tk₃ } he _ _ ro F₃ (w'.of_wr hk₃ hw') (hq.later (by omega))
    · omega

theorem ExW1.forE {elts : List Expr} {tk0 : Nat} {tpos : Pos} {iter : Expr} {body orelse : List Stmt} {pos : Pos} {items : List Pd} (ρs ρb : Nat → Rho) (ds : Nat → List D) (j : Nat) {u : OutW} (hit : ItDT B n env ρ iter items) (hfree : ∀ p ∈ items, Free p) (h0 : ∀ p ∈ ρs 0, p ∈ ρ)
    (has : ∀ (i : Nat) p, items[i]? = some p → i ≤ j → AsT B n env (ρs i) (ρb i) (.Tuple elts tk0 tpos) (tupP [is (.int (i : Int)), p])) (hbody : ∀ i, i < j → i < items.length → ExW B n env o (ρb i) (ds i) body (.next (ρs (i + 1)) (ds (i + 1))))
    (hend : j = items.length ∧ ExW B n env o (ρs j) (ds j) orelse u)
    (hs : ∀ x, foldedSetIterable iter env x = pure x := by intro _; rfl) : ExW1 B n env o ρ (ds 0) (.For (.Tuple elts tk0 tpos) iter body orelse pos) u := fun A s he Q E ro F w hq => by
  refine wpAny_For (hit A s _ E ro F.rd fun en it fp P St h₂ tk₂ W nl k₂ l₂ => ?_) hs
  have F₂ : Fm B env he h₂ tk₂ (ρs 0) := (F.keeps k₂ l₂).sub h0
  have w₂ : Own he h₂ o (ds 0) := w.keeps k₂
  have hofp : o ∉ en :: fp := nl.off w₂
  have hjn : j = items.length := hend.1
  have hwr : ∀ b ∈ [en, it], he b = none := fun b hb => by
    cases e : he b with
    | none => rfl
    | some o' =>
      have := F.keep b o' e
      rcases List.mem_cons.mp hb with rfl | hb
      · rw [W.newE] at this; cases this
      · rw [List.mem_singleton.mp hb, W.newI] at this; cases this
  have T := WalksT.enumerateD W.D en W.ne W.enf W.itf
  have kindW : ∀ (i : Nat) h, ((∃ old, IsEnum h en it ((i : Nat) : Int) old) ∧ St i h) → ∀ b ∈ [en, it], ∃ o fs, h.get? b = some o ∧ o.data = .fields fs := fun i h st b hb => by
    rcases List.mem_cons.mp hb with rfl | hb
    · obtain ⟨old, he⟩ := st.1; exact ⟨_, _, he, rfl⟩
    · rw [List.mem_singleton.mp hb]; exact W.kindI i h st.2
  refine codeAny_forLoop_any
    (fun k s' => ∃ h' tk i, s' = { s with heap := h', toks := tk } ∧ i ≤ j ∧ k = items.length + 1 - i ∧ ((∃ old, IsEnum h' en it ((i : Nat) : Int) old) ∧ St i h') ∧ Fm B env he h' tk (ρs i) ∧ Own he h' o (ds i) ∧ tk₂ ≤ tk) ?_ (items.length + 1)
    ⟨h₂, tk₂, 0, rfl, Nat.zero_le _, rfl, ⟨⟨_, W.isen⟩, W.st⟩, F₂, w₂, Nat.le_refl _⟩
  rintro k s' ⟨H, tk, i, rfl, hi, rfl, hst', F', w', htk⟩
  have hw' := kindW i H hst'
  by_cases hlt : i < items.length
  · refine toks_go (T.item i _ _ _ hlt hst' fun TT vals h₃ tk₃ hPt hTsz hTT hMid hk₃ htk₃ => ?_)
    have htk₃' : tk ≤ tk₃ := htk₃
    have hk₃' : ∀ b o, b ∉ [en, it] → H.get? b = some o → h₃.get? b = some o := hk₃
    have F₃ : Fm B env he h₃ tk₃ (ρs i) := F'.of_wr hk₃' hw' hwr htk₃'
    have w₃ : Own he h₃ o (ds i) := w'.of_wr hk₃' hw'
    have hw₃ : ∀ b ∈ [en, it], ∃ o fs, h₃.get? b = some o ∧ o.data = .fields fs := fun b hb => by
      rcases List.mem_cons.mp hb with rfl | hb
      · obtain ⟨⟨x, ho⟩, _⟩ := hMid; exact ⟨_, _, ho, rfl⟩
      · rw [List.mem_singleton.mp hb]; exact W.kindI _ _ hMid.2.1
    have hTw := T.apart i TT h₃ hMid
    refine T.go elts tk0 tpos i TT { s with heap := h₃, toks := tk₃ } _ _ hMid fun h₄ hst₄ hk₄ => ?_
    have hk₄' : ∀ b o, b ∉ [en, it] → h₃.get? b = some o → h₄.get? b = some o := hk₄
    have F₄ : Fm B env he h₄ tk₃ (ρs i) := F₃.of_wr hk₄' hw₃ hwr (Nat.le_refl _)
    have w₄ : Own he h₄ o (ds i) := w₃.of_wr hk₄' hw₃
    obtain ⟨t, x, hPx, rfl⟩ := hPt
    have hp : (items[i]).P h₄ tk₃ x := hfree _ (List.getElem_mem hlt) _ _ _ _ _ (by omega) (W.item i x _ hPx (by simp [hlt]))
    have hTT₄ : IsTup h₄ TT #[.int i t, x] := by
      obtain ⟨o, e, c, nn, d⟩ := hTT
      exact ⟨o, hk₄' _ _ hTw e, c, nn, d⟩
    obtain ⟨Fh, wh⟩ := F₄.hideO w₄
    obtain ⟨ob, Ff, back⟩ := Fh.fast wh
    refine has i items[i] (by simp [hlt]) hi A { s with heap := h₄, toks := tk₃ } _ (.ref TT) _ _ ro Ff ⟨TT, [.int i t, x], rfl, hTT₄, .cons .int (.cons hp .nil)⟩ fun h₅ tk₅ F₅' l₅ => ?_
    have l₅' : tk₃ ≤ tk₅ := l₅
    obtain ⟨F₅, w₅⟩ := back _ _ _ F₅'
    refine hbody i (by omega) hlt A { s with heap := h₅, toks := tk₅ } (hidO env o h₄) _ _ ro F₅ w₅ fun h₆ tk₆ F₆ w₆ l₆ => ?_
    have l₆' : tk₅ ≤ tk₆ := l₆
    have hst₄' := hst₄
    obtain ⟨F₇, w₇⟩ := F₄.unhideO w₄ F₆ w₆
    refine ⟨items.length + 1 - (i + 1), by omega, h₆, tk₆, i + 1, rfl, by omega, rfl, T.frame _ _ _ hst₄ fun b hb o' e => ?_, F₇, w₇, by omega⟩
    have hbo : b ≠ o := by rintro rfl; exact hofp hb
    rcases List.mem_cons.mp hb with rfl | hb
    · obtain ⟨⟨old, hen⟩, _⟩ := hst₄
      have hen' := e.symm.trans hen
      refine F₆.keep _ o' (hidO_of hbo (F₄.hid_data e (.inl ?_)))
      rw [Option.some.inj hen']
      exact ⟨_, rfl⟩
    · obtain ⟨o'', e', hd⟩ := W.kind (i + 1) h₄ hst₄.2 b hb
      rw [e] at e'; cases e'
      exact F₆.keep b o' (hidO_of hbo (F₄.hid_data e hd))
  · have hin : i = items.length := by omega
    subst hin
    obtain ⟨rfl, hb⟩ := hend
    refine toks_go (T.done _ _ _ hst' fun h₃ tk₃ hk₃ htk₃ => ?_)
    have htk₃' : tk ≤ tk₃ := htk₃
    have F₃ : Fm B env he h₃ tk₃ (ρs items.length) := F'.of_wr hk₃ hw' hwr htk₃'
    exact hb A { s with heap := h₃, toks := tk₃ } he _ _ ro F₃ (w'.of_wr hk₃ hw') (hq.later (by omega))
end
section
variable {B : Base} {n : Nat} {env : Env} {ρ ρc : Rho} {o : Addr}
/-- x = [], and the list is the def's own -/
theorem Ex.own {x : Str} {px lpos pos : Pos} {rest : List Stmt} {p : Pd} {ρ' : Rho} (h : ∀ o, ExW B n env o ((x, same (.ref o)) :: ρ') [] rest (.ret p))
    (hx : Known env x := by first | exact .inl rfl | exact .inr ⟨rfl, _, rfl⟩) (hρ : ∀ q ∈ ρ', q ∈ ρ ∧ q.1 ≠ x := by ktr_rel) (hs : swapsWith (.List [] lpos) (some (.Name x px)) pos.line env = pure false := by rfl) :
    Ex B n env ρ (.Assign [.Name x px] (.List [] lpos) pos :: rest) (.ret p) := fun A s he Q E ro F hq => by
  refine wpAny_execs_cons (wpAny_Assign_Name (List_ (spliced_nil (wpAny_newObj_type ?_ (by size_fits)))) hs)
  have F1 := F.keeps (Kp.push s.heap { cls := .type "list", data := .seq ([] : List Value).toArray }) (Nat.le_refl _)
  have none_of : ∀ b, s.heap.objs.size ≤ b → he b = none := fun b hb => by
    cases e : he b with
    | none => rfl
    | some o' => exact absurd (Heap.lt_size (F.keep _ _ e)) (Nat.not_lt.mpr hb)
  have w1 : Own he (s.heap.push { cls := .type "list", data := .seq ([] : List Value).toArray }) s.heap.objs.size [] := ⟨none_of _ (Nat.le_refl _), fun _ h => (nomatch h), [], ⟨_, Heap.get?_push_size _ rfl⟩, .nil⟩
  obtain ⟨ob, Ff, back⟩ := F1.fast w1
  refine Fm.store (s := { s with heap := s.heap.push { cls := .type "list", data := .seq ([] : List Value).toArray } }) (p := same (.ref s.heap.objs.size)) Ff rfl hρ hx fun h₂ tk₂ F₂ l₂ _ => ?_
  have l₂' : s.toks ≤ tk₂ := l₂
  obtain ⟨F₃, w₃⟩ := back _ _ _ F₂
  exact h _ A { s with heap := h₂, toks := tk₂ } he _ _ ro F₃ w₃ fun v h' tk' F' l hv => hq v h' tk' F' (Nat.le_trans l₂' l) hv
end
noncomputable def xin (c : Nat) (t : Str) : Bool := !(Builtin.Str.occurrences t ⟨#[c]⟩ 0 t.length 1).isEmpty
noncomputable def rb (b : Bool) : Int := if b then 1 else 0
noncomputable def cat (x : Str) (k : Nat) : Nat := x.cps.getD k 0
noncomputable def r3 (x : Str) (k : Nat) : List Int := [rb (xin (cat x (k + 2)) (nm "xst")), rb (cat x (k + 1) == 119), rb (cat x k == 114)]
noncomputable def rightsOf (x : Str) : List Int := (r3 x 7 ++ r3 x 4 ++ r3 x 1) ++ [rb (xin (cat x 9) (nm "SsTt")), rb (xin (cat x 6) (nm "SsTt")), rb (xin (cat x 3) (nm "SsTt"))]
theorem cat_get {x : Str} {k : Nat} (h : k < x.cps.size) : x.cps[k]? = some (cat x k) := by simp [cat, h]
section
variable {B : Base} {n : Nat} {env : Env} {ρ ρc : Rho} {o : Addr}
theorem Ev.oneZero {t : Expr} {k1 k2 : Nat} {p1 p2 pos : Pos} {b : Bool} (h : Tr B n env ρ t b) : Ev B n env ρ (.IfExp t (.Constant (.int 1) k1 p1) (.Constant (.int 0) k2 p2) pos) (is (.int (rb b))) :=
  Ev.ite h (fun hc => by rw [hc]; exact Ev.const_int) (fun hc => by rw [hc]; exact Ev.const_int)
theorem Ev.charAt {v i : Expr} {pos : Pos} {x : Str} {k : Int} (hv : Ev B n env ρ v (is (.str x))) (hi : Ev B n env ρ i (is (.int k))) (h0 : 0 ≤ k) (hk : k.toNat < x.cps.size) (hb : x.cps.size ≤ 1000)
    (hs : ∀ o j t, subscripted i false o (.int j t) = operate [o, .int j t] (getItem o (.int j t)) := by intro _ _ _; with_unfolding_all rfl) : Ev B n env ρ (.Subscript v i pos) (is (.str ⟨#[cat x k.toNat]⟩)) :=
  Ev.itemS hv hi h0 (by omega) (cat_get hk) hs
theorem Ev.charN {v i : Expr} {pos : Pos} {x : Str} {k : Int} {j : Nat} (hv : Ev B n env ρ v (is (.str x))) (hi : Ev B n env ρ i (is (.int k))) (hj : k = (j : Int)) (hk : j < x.cps.size) (hb : x.cps.size ≤ 1000)
    (hs : ∀ o j t, subscripted i false o (.int j t) = operate [o, .int j t] (getItem o (.int j t)) := by intro _ _ _; with_unfolding_all rfl) : Ev B n env ρ (.Subscript v i pos) (is (.str ⟨#[cat x j]⟩)) := by
  subst hj
  have := Ev.charAt (pos := pos) hv hi (by omega) (by simpa using hk) hb hs
  simpa using this
theorem one_eq (a b : Nat) : ((⟨#[a]⟩ : Str).cps.toList == (⟨#[b]⟩ : Str).cps.toList) = (a == b) := by
  show ([a] == [b]) = _
  simp
end
section
variable {B : Base} (M : Mn B)
include M
omit M in
theorem AllFree.head2 {x y z : Str} {v : Value} {s : Str} {i : Int} : AllFree [(z, is (.int i)), (x, same v), (y, is (.str s))] := allFree_cons free_int (allFree_cons free_same (allFree_cons free_str allFree_nil))
theorem fn_rights {n : Nat} (x : Str) (hx : x.cps.size = 10) : Fn B (n + 1) (nm "_law_rights") [is (.str x)] (is (intsD (rightsOf x))) := by
  refine Fn.of (d := dd 38) (def_38 M) rfl fun pm code doc L ad => ?_
  dsimp only [Binds]
  refine Ex.own (ρ' := [(nm "row", is (.str x))]) fun o => ?_
  refine ExW.cons (ρ₁ := [(nm "rights", same (.ref o)), (nm "row", is (.str x))]) (ds₁ := (r3 x 7 ++ r3 x 4 ++ r3 x 1).map D.int) ?_ ?_
  · refine ExW1.for (items := ([7, 4, 1].map D.int).map is) (fun i => [(nm "rights", same (.ref o)), (nm "row", is (.str x))]) (fun i => [(nm "k", is (.int (([7, 4, 1] : List Nat).getD i 0))), (nm "rights", same (.ref o)), (nm "row", is (.str x))])
      (fun i => ((([7, 4, 1] : List Nat).take i).flatMap (r3 x)).map D.int) 3 ?_ ?_ ?_ ?_ ?_ (.inl ⟨rfl, ?_⟩)
    · refine ItT.tup (ps := ([7, 4, 1].map D.int).map is) ?_ ?_
      · refine Ev.mono (p := is (.tup ([7, 4, 1].map D.int))) ?_ fun _ _ _ x => tup_tupP x
        refine Ev.tup (EvL.ci (EvL.ci (EvL.ci EvL.nil))) (small_le (by decide))
      · exact small_le (by decide)
    · intro p hp
      simp only [List.map_cons, List.map_nil, List.mem_cons, List.not_mem_nil, or_false] at hp
      rcases hp with rfl | rfl | rfl <;> exact free_int
    · ktr_rel
    · intro i p hp _
      have : p = is (.int (([7, 4, 1] : List Nat).getD i 0)) := by
        match i, hp with
        | 0, hp => simpa using hp.symm
        | 1, hp => simpa using hp.symm
        | 2, hp => simpa using hp.symm
        | i + 3, hp => simp at hp
      subst this
      exact AsT.name
    · intro i hi _
      have hk : ([7, 4, 1] : List Nat).getD i 0 + 2 < 10 := by
        match i, hi with
        | 0, _ => decide
        | 1, _ => decide
        | 2, _ => decide
        | i + 3, hi => omega
      have hd : (([7, 4, 1] : List Nat).take (i + 1)).flatMap (r3 x) = (([7, 4, 1] : List Nat).take i).flatMap (r3 x) ++ r3 x (([7, 4, 1] : List Nat).getD i 0) := by
        match i, hi with
        | 0, _ => rfl
        | 1, _ => simp [List.take]
        | 2, _ => simp [List.take]
        | i + 3, hi => omega
      have hlen : ((([7, 4, 1] : List Nat).take i).flatMap (r3 x)).length ≤ 9 := by
        match i, hi with
        | 0, _ => simp
        | 1, _ => simp [List.take, r3]
        | 2, _ => simp [List.take, r3]
        | i + 3, hi => omega
      show ExW B n _ _ _ _ _ (.next _ (List.map D.int ((([7, 4, 1] : List Nat).take (i + 1)).flatMap (r3 x))))
      rw [hd]
      generalize (([7, 4, 1] : List Nat).take i).flatMap (r3 x) = pre at hlen
      generalize ([7, 4, 1] : List Nat).getD i 0 = k at hk
      have e : List.map D.int (pre ++ r3 x k) = ((pre.map D.int ++ [.int (rb (xin (cat x (k + 2)) (nm "xst")))]) ++ [.int (rb (cat x (k + 1) == 119))]) ++ [.int (rb (cat x k == 114))] := by simp [r3]
      rw [e]
      have hrow : ∀ pos, Ev B n (defEnv (dd 38) pm code doc L ad) [(nm "k", is (.int (k : Int))), (nm "rights", same (.ref o)), (nm "row", is (.str x))] (.Name (nm "row") pos) (is (.str x)) := fun _ => Ev.name (by tb_rel)
      refine ExW.cons (ρ₁ := [(nm "k", is (.int (k : Int))), (nm "rights", same (.ref o)), (nm "row", is (.str x))]) (ds₁ := pre.map D.int ++ [.int (rb (xin (cat x (k + 2)) (nm "xst")))]) ?_ ?_
      · refine ExW1.append ?_ ?_ trivial ?_ ?_
        · tb_rel
        · refine Ev.oneZero ?_
          refine Tr.cmp (a := is (.str ⟨#[cat x (k + 2)]⟩)) (b := is (.str (nm "xst"))) cm_ins ?_ ?_
          · refine Ev.charN (k := (k : Int) + 2) (hrow _) (EvF.bin op_add ?_ ?_).ev ?_ ?_ ?_
            · exact Ev.name (by tb_rel)
            · exact Ev.const_int
            · omega
            · omega
            · omega
          · exact Ev.const_str
        · exact AllFree.head2
        · simp; omega
      refine ExW.cons (ρ₁ := [(nm "k", is (.int (k : Int))), (nm "rights", same (.ref o)), (nm "row", is (.str x))]) (ds₁ := (pre.map D.int ++ [.int (rb (xin (cat x (k + 2)) (nm "xst")))]) ++ [.int (rb (cat x (k + 1) == 119))]) ?_ ?_
      · refine ExW1.append ?_ ?_ trivial ?_ ?_
        · tb_rel
        · refine Ev.oneZero ?_
          rw [← one_eq]
          refine Tr.cmp (a := is (.str ⟨#[cat x (k + 1)]⟩)) (b := is (.str (nm "w"))) cm_eqs ?_ ?_
          · refine Ev.charN (k := (k : Int) + 1) (hrow _) (EvF.bin op_add ?_ ?_).ev ?_ ?_ ?_
            · exact Ev.name (by tb_rel)
            · exact Ev.const_int
            · omega
            · omega
            · omega
          · exact Ev.const_str
        · exact AllFree.head2
        · simp; omega
      refine ExW.one ?_
      refine ExW1.out (ρ₁ := [(nm "k", is (.int (k : Int))), (nm "rights", same (.ref o)), (nm "row", is (.str x))]) ?_ (by ktr_rel)
      refine ExW1.append ?_ ?_ trivial ?_ ?_
      · tb_rel
      · refine Ev.oneZero ?_
        rw [← one_eq]
        refine Tr.cmp (a := is (.str ⟨#[cat x k]⟩)) (b := is (.str (nm "r"))) cm_eqs ?_ ?_
        · refine Ev.charN (k := (k : Int)) (hrow _) ?_ ?_ ?_ ?_
          · exact Ev.name (by tb_rel)
          · rfl
          · omega
          · omega
        · exact Ev.const_str
      · exact AllFree.head2
      · simp; omega
    · have e : (([7, 4, 1] : List Nat).take 3).flatMap (r3 x) = r3 x 7 ++ r3 x 4 ++ r3 x 1 := by simp [List.take]
      simp only [e]
      exact ExW.nil
  · refine ExW.one ?_
    refine ExW1.retR (x := nm "rights") ?_ ?_
    · tb_rel
    have e : rightsOf x = (r3 x 7 ++ r3 x 4 ++ r3 x 1) ++ ([9, 6, 3] : List Int).map fun k => rb (xin (cat x k.toNat) (nm "SsTt")) := rfl
    rw [e]
    have e2 : ((r3 x 7 ++ r3 x 4 ++ r3 x 1) ++ ([9, 6, 3] : List Int).map fun k => rb (xin (cat x k.toNat) (nm "SsTt"))).map D.int = (r3 x 7 ++ r3 x 4 ++ r3 x 1).map D.int ++ (([9, 6, 3] : List Int).map fun k => rb (xin (cat x k.toNat) (nm "SsTt"))).map D.int := List.map_append
    show Ev B n _ _ _ (is (.list ((r3 x 7 ++ r3 x 4 ++ r3 x 1 ++ _).map D.int)))
    rw [e2]
    refine Ev.bin (op_cat (B := B) ?_) ?_ ?_
    · rw [sizeLine_eq]; simp [r3]
    · exact Ev.name (by tb_rel)
    · refine Ev.compI (cl := [(nm "row", L + 1)]) (ρc := [(nm "row", is (.str x))]) (It.tup (Ev.tup (ds := [9, 6, 3].map D.int) (EvL.ci (EvL.ci (EvL.ci EvL.nil))) (small_le (by decide))) (small_le (by decide))) ?_ ?_
      · ktr_unf
      · intro k hk v C
        have hk2 : 0 ≤ k ∧ k < 10 := by
          simp only [List.mem_cons, List.not_mem_nil, or_false] at hk
          omega
        refine Ev.oneZero ?_
        refine Tr.cmp (a := is (.str ⟨#[cat x k.toNat]⟩)) (b := is (.str (nm "SsTt"))) cm_ins ?_ ?_
        · refine Ev.charAt (k := k) ?_ ?_ hk2.1 ?_ ?_
          · exact Ev.name (by tb_rel)
          · exact Ev.name (by tb_rel)
          · omega
          · omega
        · exact Ev.const_str
end
local macro_rules | `(tactic| ktr_unf) => `(tactic| first
  | with_reducible exact allFree_nil
  | (refine allFree_cons (by first | with_reducible exact free_same | with_reducible exact free_int | with_reducible exact free_str | with_reducible exact free_inB | exact free_str) ?_; ktr_unf))
section
variable {B : Base} {n : Nat} {env : Env} {ρ ρc : Rho} {o : Addr}
theorem strs_are {h : Heap} : ∀ {vs : List Value} {xs : List Str}, IsL h vs (xs.map .str) → ∃ l : List (Str × Tok), vs = strValues l ∧ l.map (·.1) = xs
  | _, [], .nil => ⟨[], rfl, rfl⟩
  | _, x :: xs, .cons (v := .str _ t) .str r => by
    obtain ⟨l, rfl, h2⟩ := strs_are r
    exact ⟨(x, t) :: l, rfl, by simp [h2]⟩
/-- sep.join(e) -/
theorem Ev.join {sep : Str} {xs : List Str} {e : Expr} {k : Nat} {p apos pos : Pos} (h : Ev B n env ρ e (is (.list (xs.map .str)))) (hok : JoinOk sep xs = true)
    (hbase : attributeBase (.Constant (.str sep) k p) "join" env (eval (.Constant (.str sep) k p) env) = eval (.Constant (.str sep) k p) env := by rfl) (hs : starEach [e] env = [(false, eval e env)] := by rfl) (hline : (apos.endLine == pos.line) = true := by rfl) :
    Ev B n env ρ (.Call (.Attribute (.Constant (.str sep) k p) "join" apos) [e] [] pos) (is (.str (Txt.join sep xs))) := fun A s Q E ro rd hq => by
  refine Call_method1 hbase hs hline ?_
  refine (Ev.const_str (x := sep) (k := k) (pos := p)) A s _ E ro rd fun u h₁ tk₁ k₁ l₁ hu => ?_
  cases hu
  refine ⟨"str", "str.join", PySem.F.plainAttrs_str, PySem.F.slot_str_join, PySem.F.type_str_join, typeIs_str _ _ _, (fun _ e => nomatch e), ?_⟩
  refine Calls.callWith_builtin rfl (Calls.evalArgs_plain (Calls.spliced_cons ?_))
  refine h A _ _ E ro (rd.keeps k₁ l₁) fun v h₂ tk₂ k₂ l₂ hv => Calls.spliced_nil ?_
  cases hv with | list hl r =>
  obtain ⟨l, rfl, hx⟩ := strs_are r
  refine toks_go (PySem.SC.join hl hx hok fun t' k' hk' => ?_)
  exact hq _ h₂ k' (k₁.trans k₂) (Nat.le_trans (Nat.le_trans l₁ l₂) hk') .str

theorem Ev.unB {e : Expr} {d : D} (h : Ev B n env ρ e (inB B d)) : Ev B n env ρ e (is d) := fun A s Q E ro rd hq =>
  h A s Q E ro rd fun v h' tk' k l x => hq v h' tk' k l (Is.keeps (rd.base.trans k) x)
theorem all_inB {h : Heap} {k : Nat} : ∀ {vs : List Value} {ds : List D}, IsL B.b₀ vs ds → All h k vs (ds.map (inB B))
  | _, _, .nil => .nil
  | _, _, .cons a r => .cons a (all_inB r)
theorem Ev.unBT {e : Expr} {ds : List D} (h : Ev B n env ρ e (inB B (.tup ds))) : Ev B n env ρ e (tupP (ds.map (inB B))) := fun A s Q E ro rd hq =>
  h A s Q E ro rd fun v h' tk' k l x => hq v h' tk' k l (by
    cases x with | tup hl r =>
    obtain ⟨ob, e, rest⟩ := hl
    refine ⟨_, _, rfl, ⟨ob, (rd.base.trans k) _ _ e, rest⟩, ?_⟩
    exact all_inB r)
theorem AsT.unB {ρ' : Rho} {target : Expr} {d : D} (h : AsT B n env ρ ρ' target (is d)) : AsT B n env ρ ρ' target (inB B d) := fun A s he v Q E ro F hv hq =>
  h A s he v Q E ro F (Is.keeps F.rd.base hv) hq
end
noncomputable def tabL : List (List (Int × Nat)) := [[(40960, 108), (49152, 115), (32768, 45), (24576, 98), (16384, 100), (8192, 99), (4096, 112)], [(256, 114)], [(128, 119)], [(2112, 115), (2048, 83), (64, 120)], [(32, 114)], [(16, 119)], [(1032, 115), (1024, 83), (8, 120)],
  [(4, 114)], [(2, 119)], [(513, 116), (512, 84), (1, 120)]]
noncomputable def pairD (p : Int × Nat) : D := .tup [.int p.1, .str ⟨#[p.2]⟩]
noncomputable def rowD (r : List (Int × Nat)) : D := .tup (r.map pairD)
noncomputable def tabD : D := .tup (tabL.map rowD)
/-- the table stands at the top -/
noncomputable def Tab (B : Base) : Prop := ∃ v, B.mg (nm "_filemode_table") = some v ∧ Is B.b₀ v tabD
noncomputable def hit (i : Nat) (mode : Int) (p : Int × Nat) : Bool := if (i : Int) == 0 then Builtin.bitAnd mode 61440 == p.1 else Builtin.bitAnd mode p.1 == p.1
noncomputable def pick (i : Nat) (mode : Int) (r : List (Int × Nat)) : Nat := match r[r.findIdx (hit i mode)]? with
  | some p => p.2
  | none => if (i : Int) == 0 then 63 else 45
noncomputable def signs (mode : Int) : List Nat := (List.range 10).map fun i => pick i mode (tabL.getD i [])
noncomputable def oneC (c : Nat) : D := .str ⟨#[c]⟩
noncomputable def modeStr (mode : Int) : Str := Txt.join (nm "") ((signs mode).map fun c => ⟨#[c]⟩)
section
variable {B : Base} (M : Mn B)
include M
theorem tr_ifmt {n : Nat} {env : Env} {ρ : Rho} {mode b : Int} {np p1 p2 p3 p4 : Pos} (h1 : (nm "mode", is (.int mode)) ∈ ρ) (h2 : (nm "bit", is (.int b)) ∈ ρ) (hx : env.kindOf (nm "S_IFMT") = some .globalImplicit) :
    Tr B (n + 1) env ρ (.Compare (.Call (.Name (nm "S_IFMT") np) [.Name (nm "mode") p1] [] p2) [.Eq] [.Name (nm "bit") p3] p4) (Builtin.bitAnd mode 61440 == b) :=
  Tr.cmp cm_eq (EvF.call (fn_ifmt M mode) (EvL.cons (Ev.name h1) EvL.nil) hx).ev (Ev.name h2)
omit M in
theorem tr_mask {n : Nat} {env : Env} {ρ : Rho} {mode b : Int} {p1 p2 p3 p4 p5 : Pos} (h1 : (nm "mode", is (.int mode)) ∈ ρ) (h2 : (nm "bit", is (.int b)) ∈ ρ) :
    Tr B n env ρ (.Compare (.BinOp (.Name (nm "mode") p1) .BitAnd (.Name (nm "bit") p2) p3) [.Eq] [.Name (nm "bit") p4] p5) (Builtin.bitAnd mode b == b) :=
  Tr.cmp cm_eq (EvF.bin op_and (Ev.name h1) (Ev.name h2)).ev (Ev.name h2)
omit M in
theorem tr_zero {n : Nat} {env : Env} {ρ : Rho} {i : Nat} {k : Nat} {p1 p2 p3 : Pos} (h1 : (nm "index", is (.int (i : Int))) ∈ ρ) :
    Tr B n env ρ (.Compare (.Name (nm "index") p1) [.Eq] [.Constant (.int 0) k p2] p3) ((i : Int) == 0) :=
  Tr.cmp cm_eq (Ev.name h1) Ev.const_int
theorem fn_filemode {n : Nat} (T : Tab B) (mode : Int) : Fn B (n + 2) (nm "filemode") [is (.int mode)] (is (.str (modeStr mode))) := by
  refine Fn.of (d := dd 34) (def_34 M) rfl fun pm code doc L ad => ?_
  dsimp only [Binds]
  refine Ex.own (ρ' := [(nm "mode", is (.int mode))]) fun o => ?_
  refine ExW.cons (ρ₁ := [(nm "perm", same (.ref o)), (nm "mode", is (.int mode))]) (ds₁ := (signs mode).map oneC) ?_ ?_
  · refine ExW1.forE (items := tabL.map fun r => inB B (rowD r)) (fun i => [(nm "perm", same (.ref o)), (nm "mode", is (.int mode))])
      (fun i => [(nm "table", inB B (rowD (tabL.getD i []))), (nm "index", is (.int (i : Int))), (nm "perm", same (.ref o)), (nm "mode", is (.int mode))])
      (fun i => ((signs mode).take i).map oneC) 10 ?_ ?_ ?_ ?_ ?_ ⟨rfl, ?_⟩
    · refine ItDT.tup (ps := tabL.map fun r => inB B (rowD r)) ?_ (mg_enum M) mb_enum
      have e : (tabL.map fun r => inB B (rowD r)) = (tabL.map rowD).map (inB B) := by rw [List.map_map]; rfl
      rw [e]
      refine Ev.unBT ?_
      intro A s Q E ro rd hq
      obtain ⟨v, hv, hi⟩ := T
      exact glob_name rd (by rfl) hv (hq v s.heap s.toks (Kp.refl _) (Nat.le_refl _) hi)
    · intro p hp
      obtain ⟨r, _, rfl⟩ := List.mem_map.mp hp
      exact free_inB
    · ktr_rel
    · intro i p hp _
      have : p = inB B (rowD (tabL.getD i [])) := by
        simp only [List.getElem?_map, Option.map_eq_some_iff] at hp
        obtain ⟨a, ha, rfl⟩ := hp
        simp [List.getD, ha]
      subst this
      exact AsT.pairP (ρ₁ := [(nm "perm", same (.ref o)), (nm "mode", is (.int mode))])
    · intro i hi _
      have hd : ((signs mode).take (i + 1)).map oneC = ((signs mode).take i).map oneC ++ [oneC (pick i mode (tabL.getD i []))] := by
        rw [take_succ (signs mode) i (pick i mode (tabL.getD i [])) (by simp [signs, hi]), List.map_append]; rfl
      have hlen : (((signs mode).take i).map oneC).length ≤ 10 := by simp; omega
      show ExW B _ _ _ _ _ _ (.next _ (((signs mode).take (i + 1)).map oneC))
      rw [hd]
      generalize ((signs mode).take i).map oneC = pre at hlen
      have hrl : (tabL.getD i []).length ≤ 7 := by
        match i, hi with
        | 0, _ => decide
        | 1, _ => decide
        | 2, _ => decide
        | 3, _ => decide
        | 4, _ => decide
        | 5, _ => decide
        | 6, _ => decide
        | 7, _ => decide
        | 8, _ => decide
        | 9, _ => decide
        | i + 10, h => omega
      generalize tabL.getD i [] = r at hrl
      refine ExW.one ?_
      refine ExW1.out (ρ₁ := [(nm "perm", same (.ref o)), (nm "mode", is (.int mode))]) ?_ (by ktr_rel)
      refine ExW1.for (items := (r.map pairD).map (inB B)) (fun k => [(nm "index", is (.int (i : Int))), (nm "perm", same (.ref o)), (nm "mode", is (.int mode))])
        (fun k => [(nm "char", is (oneC (r.getD k (0, 0)).2)), (nm "bit", is (.int (r.getD k (0, 0)).1)), (nm "index", is (.int (i : Int))), (nm "perm", same (.ref o)), (nm "mode", is (.int mode))])
        (fun k => pre) (r.findIdx (hit i mode)) ?_ ?_ ?_ ?_ ?_ ?_
      · refine ItT.tup ?_ ?_
        · refine Ev.unBT ?_
          exact Ev.name (p := inB B (rowD r)) (by tb_rel)
        · simp only [List.length_map]; exact small_le (by omega)
      · intro p hp
        obtain ⟨d, _, rfl⟩ := List.mem_map.mp hp
        exact free_inB
      · ktr_rel
      · intro k p hp _
        have : p = inB B (pairD (r.getD k (0, 0))) := by
          simp only [List.map_map, List.getElem?_map, Option.map_eq_some_iff] at hp
          obtain ⟨a, ha, rfl⟩ := hp
          simp [List.getD, ha]
        subst this
        refine AsT.unB ?_
        exact AsT.pair (ρ₁ := [(nm "index", is (.int (i : Int))), (nm "perm", same (.ref o)), (nm "mode", is (.int mode))])
      · intro k hk hk2
        have hk3 : k < r.length := by simpa using hk2
        have hno : hit i mode (r.getD k (0, 0)) = false := by
          have := List.not_of_lt_findIdx hk
          simpa [List.getD, hk3] using this
        generalize r.getD k (0, 0) = p at hno
        refine ExW.one ?_
        refine ExW1.ite (tr_zero (i := i) (by tb_rel)) (fun hc => ?_) (fun hc => ?_)
        · unfold hit at hno
          rw [if_pos hc] at hno
          refine ExW.one ?_
          refine ExW1.ite (tr_ifmt M (by tb_rel) (by tb_rel) rfl) (fun hc2 => ?_) (fun hc2 => ?_)
          · rw [hno] at hc2; cases hc2
          · exact ExW.sub ExW.nil (by ktr_rel)
        · unfold hit at hno
          rw [if_neg (by rw [hc]; decide)] at hno
          refine ExW.one ?_
          refine ExW1.ite (tr_mask (by tb_rel) (by tb_rel)) (fun hc2 => ?_) (fun hc2 => ?_)
          · rw [hno] at hc2; cases hc2
          · exact ExW.sub ExW.nil (by ktr_rel)
      · by_cases hj : r.findIdx (hit i mode) < r.length
        · refine .inr ⟨by simpa using hj, .inr ⟨_, _, rfl, ?_⟩⟩
          have hyes : hit i mode (r.getD (r.findIdx (hit i mode)) (0, 0)) = true := by
            have := List.findIdx_getElem (w := hj)
            simpa [List.getD, hj] using this
          have hpk : pick i mode r = (r.getD (r.findIdx (hit i mode)) (0, 0)).2 := by
            unfold pick
            simp [List.getD, hj]
          rw [hpk]
          generalize r.getD (r.findIdx (hit i mode)) (0, 0) = p at hyes
          refine ExW.one ?_
          refine ExW1.ite (tr_zero (i := i) (by tb_rel)) (fun hc => ?_) (fun hc => ?_)
          · unfold hit at hyes
            rw [if_pos hc] at hyes
            refine ExW.one ?_
            refine ExW1.ite (tr_ifmt M (by tb_rel) (by tb_rel) rfl) (fun hc2 => ?_) (fun hc2 => ?_)
            · refine ExW.cons (ρ₁ := [(nm "perm", same (.ref o)), (nm "mode", is (.int mode))]) (ds₁ := pre ++ [oneC p.2]) ?_ ?_
              · refine ExW1.out (ρ₁ := [(nm "char", is (oneC p.2)), (nm "bit", is (.int p.1)), (nm "index", is (.int (i : Int))), (nm "perm", same (.ref o)), (nm "mode", is (.int mode))]) ?_ (by ktr_rel)
                refine ExW1.append ?_ ?_ trivial ?_ ?_
                · tb_rel
                · exact Ev.name (by tb_rel)
                · ktr_unf
                · omega
              · exact ExW.stopB ExW1.brk
            · rw [hyes] at hc2; cases hc2
          · unfold hit at hyes
            rw [if_neg (by rw [hc]; decide)] at hyes
            refine ExW.one ?_
            refine ExW1.ite (tr_mask (by tb_rel) (by tb_rel)) (fun hc2 => ?_) (fun hc2 => ?_)
            · refine ExW.cons (ρ₁ := [(nm "perm", same (.ref o)), (nm "mode", is (.int mode))]) (ds₁ := pre ++ [oneC p.2]) ?_ ?_
              · refine ExW1.out (ρ₁ := [(nm "char", is (oneC p.2)), (nm "bit", is (.int p.1)), (nm "index", is (.int (i : Int))), (nm "perm", same (.ref o)), (nm "mode", is (.int mode))]) ?_ (by ktr_rel)
                refine ExW1.append ?_ ?_ trivial ?_ ?_
                · tb_rel
                · exact Ev.name (by tb_rel)
                · ktr_unf
                · omega
              · exact ExW.stopB ExW1.brk
            · rw [hyes] at hc2; cases hc2
        · have hje : r.findIdx (hit i mode) = r.length := by
            have := List.findIdx_le_length (xs := r) (p := hit i mode)
            omega
          refine .inl ⟨by simpa using hje, ?_⟩
          have hpk : pick i mode r = if (i : Int) == 0 then 63 else 45 := by
            unfold pick
            rw [hje]; simp
          rw [hpk]
          refine ExW.one ?_
          refine ExW1.ite (tr_zero (i := i) (by tb_rel)) (fun hc => ?_) (fun hc => ?_)
          · rw [if_pos hc]
            refine ExW.one ?_
            refine ExW1.out (ρ₁ := [(nm "index", is (.int (i : Int))), (nm "perm", same (.ref o)), (nm "mode", is (.int mode))]) ?_ (by ktr_rel)
            refine ExW1.append (d := oneC 63) ?_ ?_ trivial ?_ ?_
            · tb_rel
            · exact Ev.const_str
            · ktr_unf
            · omega
          · rw [if_neg (by rw [hc]; decide)]
            refine ExW.one ?_
            refine ExW1.out (ρ₁ := [(nm "index", is (.int (i : Int))), (nm "perm", same (.ref o)), (nm "mode", is (.int mode))]) ?_ (by ktr_rel)
            refine ExW1.append (d := oneC 45) ?_ ?_ trivial ?_ ?_
            · tb_rel
            · exact Ev.const_str
            · ktr_unf
            · omega
    · have e : (signs mode).take 10 = signs mode := List.take_of_length_le (by simp [signs])
      simp only [e]
      exact ExW.nil
  · refine ExW.one ?_
    refine ExW1.retR (x := nm "perm") ?_ ?_
    · tb_rel
    have e : (signs mode).map oneC = ((signs mode).map fun c => (⟨#[c]⟩ : Str)).map D.str := by rw [List.map_map]; rfl
    rw [e]
    refine Ev.join ?_ ?_
    · exact Ev.name (by tb_rel)
    · rfl
end
theorem toks_go2 {α : Type} {M : Model} {A : Around} {t : Sem α} {Q : α → Shared → Prop} {E : Value → Shared → Prop} {s : Shared} (h : wpAny M A t (fun a s' => s.toks ≤ s'.toks → Q a s') (fun e s' => s.toks ≤ s'.toks → E e s') s) : wpAny M A t Q E s :=
  wpAny_mono (wpAny_toks_of (Nat.le_refl _) h) (fun _ _ x => x.2 x.1) fun _ _ x => x.2 x.1

/-- all stands but Dm; what is in S, up to its slots -/
structure KpX (S Dm : List Addr) (h h' : Heap) : Prop where
  keep : ∀ b o, b ∉ S → b ∉ Dm → h.get? b = some o → h'.get? b = some o
  slots : ∀ b o, b ∈ S → h.get? b = some o → ∃ sl, h'.get? b = some { o with slots := sl }
theorem KpX.of_kp {S Dm : List Addr} {h h' : Heap} (k : Kp h h') : KpX S Dm h h' := ⟨fun b o _ _ e => k b o e, fun b o _ e => ⟨o.slots, k b o e⟩⟩
theorem KpX.trans {S Dm : List Addr} {h₁ h₂ h₃ : Heap} (x : KpX S Dm h₁ h₂) (y : KpX S Dm h₂ h₃) : KpX S Dm h₁ h₃ :=
  ⟨fun b o n1 n2 e => y.keep b o n1 n2 (x.keep b o n1 n2 e), fun b o hb e => by
    obtain ⟨sl, e1⟩ := x.slots b o hb e
    obtain ⟨sl2, e2⟩ := y.slots b _ hb e1
    exact ⟨sl2, e2⟩⟩

open Classical in
/-- he, where S is as it is now -/
noncomputable def heS (he : Addr → Option Obj) (S : List Addr) (h : Heap) : Addr → Option Obj := fun b => if b ∈ S then h.get? b else he b
theorem heS_off {he : Addr → Option Obj} {S : List Addr} {h : Heap} {b : Addr} (hb : b ∉ S) : heS he S h b = he b := by unfold heS; rw [if_neg hb]
theorem heS_on {he : Addr → Option Obj} {S : List Addr} {h : Heap} {b : Addr} (hb : b ∈ S) : heS he S h b = h.get? b := by unfold heS; rw [if_pos hb]
section
variable {B : Base} {n : Nat} {env : Env} {ρ ρc : Rho}
theorem Fm.slots {he : Addr → Option Obj} {h h' : Heap} {k k' : Nat} {S Dm : List Addr} (F : Fm B env he h k ρ) (x : KpX (env.locals :: S) Dm h h') (hDm : ∀ b ∈ Dm, he b = none ∧ ∀ ob, h.get? b = some ob → ∃ vs n, ob.data = .seq vs n)
    (hS : ∀ b ∈ S, B.b₀.get? b = none ∧ (he b).isSome = true) (hf : AllFree ρ) (hl : k ≤ k') : Fm B env (heS he S h') h' k' ρ := by
  have hLS : env.locals ∉ S := fun hm => by have := (hS _ hm).2; rw [F.loc] at this; cases this
  have hcS : ∀ z c, env.cells.lookup z = some c → c ∉ S := fun z c hz hm => by have := (hS _ hm).2; rw [(F.cells z c hz).1] at this; cases this
  have kp : ∀ b ob, heS he S h' b = some ob → h'.get? b = some ob := fun b ob e => by
    by_cases hb : b ∈ S
    · rw [heS_on hb] at e; exact e
    · rw [heS_off hb] at e
      refine x.keep b ob ?_ ?_ (F.keep b ob e)
      · intro hm
        rcases List.mem_cons.mp hm with rfl | hm
        · rw [F.loc] at e; cases e
        · exact hb hm
      · intro hm
        rw [(hDm b hm).1] at e; cases e
  have bIn : ∀ b ob, B.b₀.get? b = some ob → heS he S h' b = some ob := fun b ob e => by
    have hb : b ∉ S := fun hm => by rw [(hS b hm).1] at e; cases e
    rw [heS_off hb]; exact F.baseIn b ob e
  obtain ⟨m, hn, hv⟩ := F.rd.ns
  have hn' : h'.Ns env.locals m := by
    obtain ⟨oL, es, ep, ho, hd, r⟩ := hn
    obtain ⟨sl, e⟩ := x.slots _ _ (.head _) ho
    exact ⟨_, es, ep, e, hd, r⟩
  have cellK : ∀ z c v, env.cells.lookup z = some c → h.IsCell c v → h'.IsCell c v := fun z c v hz ⟨oc, ho, hd⟩ => by
    refine ⟨oc, x.keep c oc ?_ ?_ ho, hd⟩
    · intro hm
      rcases List.mem_cons.mp hm with rfl | hm
      · obtain ⟨oL, es, ep, ho', hd', r⟩ := hn
        rw [ho] at ho'; cases ho'
        rw [hd] at hd'; cases hd'
      · exact hcS z c hz hm
    · intro hm
      obtain ⟨vs, nn, hd'⟩ := (hDm c hm).2 _ ho
      rw [hd] at hd'; cases hd'
  refine ⟨⟨F.rd.ok, fun b ob e => kp b ob (bIn b ob e), Nat.le_trans F.rd.pos hl, m, hn', fun y q hm => ?_⟩, kp, bIn, by rw [heS_off hLS]; exact F.loc, fun z c hz => ⟨by rw [heS_off (hcS z c hz)]; exact (F.cells z c hz).1, let ⟨v, hv⟩ := (F.cells z c hz).2; ⟨v, cellK z c v hz hv⟩⟩, F.inj⟩
  obtain ⟨u, hu, hw⟩ := hv y q hm
  exact ⟨u, hf _ hm _ _ _ _ _ hl hu, hw.imp id fun ⟨h1, c, h2, h3⟩ => ⟨h1, c, h2, cellK y c _ h2 h3⟩⟩

/-- except ValueError: taken, and its suite goes on where all stands, the frames up to their slots -/
theorem caught_value {l : List Env} {A : Around} {s : Shared} {h : Heap} {e L : Addr} {vx : Str} {np hp : Pos} {b₀ : Stmt} {suite : List Stmt} {Q : Flow → Shared → Prop} {E : Value → Shared → Prop} {m : Str → Option Value}
    (hfr : A.frames = some (env :: l)) (hFr : h.FunFrames B.b₀ l) (hfm : env.frame = some L) (hk : env.scope.kind ≠ .module) (hL : h.Ns L m) (hL0 : B.b₀.get? L = none) (hx : Heap.NewExc h s.heap e "ValueError")
    (hname : ∀ (h' : Heap), KpX (L :: l.filterMap (·.frame)) [] h h' → ∀ (A' : Around) (Q' E' : Value → Shared → Prop), Q' (.type "ValueError") { s with heap := h' } → wpAny (model B.prog B.w) A' (eval (.Name vx np) env) Q' E' { s with heap := h' })
    (hk2 : ∀ h', KpX (L :: l.filterMap (·.frame)) [] h h' → ∀ E', wpAny (model B.prog B.w) (A.mark (some (.ref e))) (execs (b₀ :: suite) env) Q E' { s with heap := h' }) :
    wpAny (model B.prog B.w) A (noteFrame (.ref e) env) (fun _ s₂ => wpAny (model B.prog B.w) A (setFlight (.ref e) none) (fun _ s₃ => wpAny (model B.prog B.w) A (handleBy (.ref e) env [.ExceptHandler (some (.Name vx np)) none (b₀ :: suite) hp]) Q E s₃) E s₂) E s := by
  obtain ⟨ob, tp, he, hcls, hd⟩ := hx.there
  have hFl : h.FunFrames B.b₀ (env :: l) := .cons hk hfm hL hL0 hFr
  have hfms : (env :: l).filterMap (·.frame) = L :: l.filterMap (·.frame) := by rw [List.filterMap_cons, hfm]
  have hFb : h.FunFrames (hideAll h (L :: l.filterMap (·.frame))) (env :: l) := funFrames_hide hFl fun env' he' a ha => by
    rw [← hfms]; exact List.mem_filterMap.mpr ⟨env', he', ha⟩
  have hFs : s.heap.FunFrames (hideAll h (L :: l.filterMap (·.frame))) (env :: l) := hFb.of_keeps fun b o e _ => ⟨o, hx.keeps b o e, rfl⟩
  have st : (hideAll h (L :: l.filterMap (·.frame))).StaysIn s.heap := fun b o e => hx.keeps b o (of_hideAll _ e)
  have fresh : (hideAll h (L :: l.filterMap (·.frame))).get? e = none := by
    cases q : (hideAll h (L :: l.filterMap (·.frame))).get? e with
    | none => rfl
    | some o => have := of_hideAll _ q; rw [hx.new] at this; cases this
  have nf : ∀ b ∈ L :: l.filterMap (·.frame), ∀ o, h.get? b = some o → ∀ vs, o.data ≠ .fields vs := fun b hb o e => by
    rw [← hfms] at hb
    obtain ⟨_, o', e', hn⟩ := hFl.mem hb
    rw [e] at e'; cases e'; exact hn
  have toX : ∀ h', (hideAll h (L :: l.filterMap (·.frame))).StaysIn h' → s.heap.UpToSlots h' → KpX (L :: l.filterMap (·.frame)) [] h h' := fun h' k1 k2 =>
    ⟨fun b o hb _ e => k1 b o (hideAll_get _ e hb), fun b o hb e => k2 b o (hx.keeps b o e) (nf b hb o e)⟩
  unfold noteFrame
  simp only [hfm]
  refine wpAny_bind (wpAny_field he hd (x := .none) rfl ?_)
  rw [if_neg (by decide)]
  refine wpAny_entryW (a0 := tp) hfr hFs hfm he st fresh hd (by show 1 < 6; decide) rfl fun h₁ hN => ?_
  obtain ⟨k1, k2, k3, k4⟩ := hN
  rw [hcls] at k3
  refine wpAny_landsW (l := env :: l) (L := L) (s := { s with heap := h₁ }) ⟨k1, fresh, k2, k3⟩ fun h₂ hfly u2 => ?_
  have u2' : s.heap.UpToSlots h₂ := Heap.UpToSlots.trans k4 u2
  obtain ⟨ob₂, he₂, hc₂⟩ := hfly.there
  refine wpAny_handleBy_builtin (X := "ValueError") (T := "ValueError") (b := true) (isSubtype_of_subB (by decide +kernel)) (isSubtype_of_subB (by decide +kernel)) (isSubtype_of_subB (by decide +kernel)) ?_
  refine hname h₂ (toX h₂ hfly.1 u2') _ _ _ ⟨rfl, ⟨ob₂, he₂, hc₂⟩, ?_⟩
  rw [if_pos rfl]
  refine lands_againW (s := { s with heap := h₂ }) hfly fun h₃ hfly₃ u3 => ?_
  exact hk2 h₃ (toX h₃ hfly₃.1 (u2'.trans u3)) _
end
/-- what unorderable_list_difference makes: the missing, the rest -/
noncomputable def ulrF : List Int → List Int → List Int → List Int × List Int
  | [], m, a => (m, a)
  | x :: r, m, a => if x ∈ a then ulrF r m (a.erase x) else ulrF r (m ++ [x]) a
theorem erase_idx (x : Int) : ∀ a : List Int, x ∈ a → a.eraseIdx (a.findIdx (· == x)) = a.erase x
  | [], h => by cases h
  | y :: r, h => by
    by_cases hy : y == x
    · simp [List.findIdx_cons, hy, List.erase_cons]
    · have hx : x ∈ r := by
        rcases List.mem_cons.mp h with h | h
        · subst h; simp at hy
        · exact h
      have hy' : (y == x) = false := by simpa using hy
      simp [List.findIdx_cons, hy', List.erase_cons, erase_idx x r hx]
theorem Own.keepsS {he : Addr → Option Obj} {h h' : Heap} {o : Addr} {ds : List D} (x : Own he h o ds) (k : KpS h h') : Own he h' o ds := by
  obtain ⟨vs, ⟨n, e⟩, _⟩ := id x.ex
  exact x.at fun ob e' => by rw [e] at e'; cases e'; exact k _ _ _ _ e rfl
theorem flat_ints (ns : List Int) : ∀ d ∈ ns.map D.int, Flat d := fun d hd => by
  obtain ⟨i, _, rfl⟩ := List.mem_map.mp hd
  exact trivial
structure UI (B : Base) (env : Env) (he : Addr → Option Obj) (h : Heap) (k : Nat) (D1 D2 Mz : Addr) (r m a : List Int) : Prop where
  F : Fm B env he h k [(nm "missing", same (.ref Mz)), (nm "expected", same (.ref D1)), (nm "actual", same (.ref D2))]
  w1 : Own he h D1 (r.reverse.map D.int)
  w2 : Own he h D2 (a.map D.int)
  w3 : Own he h Mz (m.map D.int)
/-- he has all that h₀ had, but D1, D2; the frames up to their slots -/
structure HeOk (h₀ : Heap) (S : List Addr) (D1 D2 : Addr) (he : Addr → Option Obj) : Prop where
  keep : ∀ b o, b ∉ S → b ≠ D1 → b ≠ D2 → h₀.get? b = some o → he b = some o
  slots : ∀ b o, b ∈ S → h₀.get? b = some o → ∃ sl, he b = some { o with slots := sl }
theorem snoc_ints {vs : List Value} {ns : List Int} {x : Int} (h : IntsAre vs (ns ++ [x])) : ∃ vs' t, vs = vs' ++ [.int x t] ∧ IntsAre vs' ns := by
  induction ns generalizing vs with
  | nil =>
    cases h with | cons _ t r =>
    cases r
    exact ⟨[], t, rfl, .nil⟩
  | cons y r ih =>
    cases h with | cons _ t r' =>
    obtain ⟨vs', t', rfl, h2⟩ := ih r'
    exact ⟨.int y t :: vs', t', rfl, .cons y t h2⟩
noncomputable def isI (k : Int) : Value → Bool
  | .int a _ => a == k
  | _ => false
theorem eqg {k : Int} {t : Tok} {vs : List Value} {ns : List Int} (h : IntsAre vs ns) : ∀ y, y ∈ vs → MeetsSeq.EqGives y (.int k t) (isI k y) := by
  induction h with
  | nil => intro y hy; cases hy
  | cons a u r ih =>
    intro y hy
    rcases List.mem_cons.mp hy with rfl | hy
    · exact MeetsSeq.EqGives.int a k u t
    · exact ih y hy
theorem ints_get {vs : List Value} {ns : List Int} (h : IntsAre vs ns) (k : Int) : ∀ (i : Nat) (hi : i < vs.length) (hj : i < ns.length), isI k vs[i] = (ns[i] == k) := by
  induction h with
  | nil => intro i hi; simp at hi
  | cons a u r ih =>
    intro i hi hj
    cases i with
    | zero => rfl
    | succ i => exact ih i (by simpa using hi) (by simpa using hj)
theorem ints_erase {vs : List Value} {ns : List Int} (h : IntsAre vs ns) : ∀ j, IntsAre (vs.eraseIdx j) (ns.eraseIdx j) := by
  induction h with
  | nil => intro j; simpa using IntsAre.nil
  | cons a u r ih =>
    intro j
    cases j with
    | zero => simpa using r
    | succ j => simpa using IntsAre.cons a u (ih j)
noncomputable def ulrParam : List Str := [nm "expected", nm "actual"]
section
variable {B : Base} {n : Nat} {env : Env}
theorem UI.pop {A : Around} {s : Shared} {he : Addr → Option Obj} {D1 D2 Mz : Addr} {x : Int} {r m a : List Int} {px apos pos py spos : Pos} {Q : Flow → Shared → Prop} {E : Value → Shared → Prop} (ro : Room A n) (U : UI B env he s.heap s.toks D1 D2 Mz (x :: r) m a)
    (h12 : D1 ≠ D2) (h13 : D1 ≠ Mz) (hsz : r.length ≤ 64) (hitem : env.kindOf (nm "item") = some .local)
    (hQ : ∀ h' tk' t, UI B env he h' tk' D1 D2 Mz r m a → Fm B env he h' tk' [(nm "item", same (.int x t)), (nm "missing", same (.ref Mz)), (nm "expected", same (.ref D1)), (nm "actual", same (.ref D2))] → s.toks ≤ tk' → Q .next { s with heap := h', toks := tk' })
    (hbase : attributeBase (.Name (nm "expected") px) (nm "pop") env (eval (.Name (nm "expected") px) env) = eval (.Name (nm "expected") px) env) (hline : (apos.endLine == pos.line) = true)
    (hs : swapsWith (.Call (.Attribute (.Name (nm "expected") px) (nm "pop") apos) [] [] pos) (some (.Name (nm "item") py)) spos.line env = pure false) :
    wpAny (model B.prog B.w) A (exec (.Assign [.Name (nm "item") py] (.Call (.Attribute (.Name (nm "expected") px) (nm "pop") apos) [] [] pos) spos) env) Q E s := by
  refine wpAny_Assign_Name (Call_method0 hbase hline ?_) hs
  refine Ev.name (p := same (.ref D1)) (by tb_rel) (by decide) A s _ E ro U.F.rd fun u h₁ tk₁ k₁ l₁ hu => ?_
  have hu' : u = .ref D1 := hu
  subst hu'
  have F₁ := U.F.keeps k₁ l₁
  have w₁ := U.w1.keeps k₁
  have w₂ := U.w2.keeps k₁
  have w₃ := U.w3.keeps k₁
  obtain ⟨vs, ⟨nn, e1⟩, hr⟩ := id w₁.ex
  have hi : IntsAre vs (r.reverse ++ [x]) := by
    have := ints_are hr
    simpa using this
  obtain ⟨vs', t, rfl, hi'⟩ := snoc_ints hi
  refine ⟨"list", "list.pop", PySem.F.plainAttrs_list, PySem.F.slot_list_pop, PySem.F.type_list_pop, ⟨_, e1, rfl⟩, fun a ha => by cases ha; exact ⟨_, e1, rfl⟩, ?_⟩
  have hlen : (vs' ++ [Value.int x t]).toArray.size = r.length + 1 := by
    have := hi'.length
    simp [this]
  have hvl : vs'.length = r.length := by have := hi'.length; simpa using this
  refine P.pop_list (y := .int x t) e1 ?_ ?_ ?_
  · simp [hvl]
  · have e3 := PySem.IsL.update (show PySem.IsL h₁ D1 (vs' ++ [Value.int x t]).toArray nn from e1) (fun xs => xs.eraseIdxIfInBounds ((vs' ++ [Value.int x t]).toArray.size - 1))
    have e5 : (vs' ++ [Value.int x t]).toArray.eraseIdxIfInBounds ((vs' ++ [Value.int x t]).toArray.size - 1) = vs'.toArray := by
      apply Array.toList_inj.mp
      simp [Array.toList_eraseIdxIfInBounds, List.eraseIdx_append_of_length_le]
    rw [e5] at e3
    have hsb : Heap.SameBut D1 h₁ (h₁.update D1 (Obj.mapSeq fun xs => xs.eraseIdxIfInBounds ((vs' ++ [Value.int x t]).toArray.size - 1))) := Heap.SameBut.update ..
    generalize (h₁.update D1 (Obj.mapSeq fun xs => xs.eraseIdxIfInBounds ((vs' ++ [Value.int x t]).toArray.size - 1))) = h₂ at e3 hsb
    have F₂ := F₁.mut w₁ (by ktr_unf) hsb
    have w1' : Own he h₂ D1 (r.reverse.map D.int) := ⟨w₁.off, flat_ints _, vs', ⟨_, e3⟩, are_ints hi'⟩
    have w2' : Own he h₂ D2 (a.map D.int) := w₂.at fun ob e => hsb.extBut _ _ (Ne.symm h12) e
    have w3' : Own he h₂ Mz (m.map D.int) := w₃.at fun ob e => hsb.extBut _ _ (Ne.symm h13) e
    refine Fm.store (s := { s with heap := h₂, toks := tk₁ }) (p := same (.int x t)) F₂ rfl (ρ' := [(nm "missing", same (.ref Mz)), (nm "expected", same (.ref D1)), (nm "actual", same (.ref D2))]) (by ktr_rel) (.inl hitem) fun h₃ tk₃ F₃ l₃ ks => ?_
    have l₃' : tk₁ ≤ tk₃ := l₃
    have ks' : KpS h₂ h₃ := ks
    exact hQ h₃ tk₃ t ⟨F₃.sub (by ktr_rel), w1'.keepsS ks', w2'.keepsS ks', w3'.keepsS ks'⟩ F₃ (Nat.le_trans l₁ l₃')
  · rw [hlen, sizeLine_eq]; omega
end
theorem funFrames_of {b₀ h h' : Heap} : ∀ {l : List Env}, (∀ b ∈ l.filterMap (·.frame), ∀ o, h.get? b = some o → ∃ o', h'.get? b = some o' ∧ o'.data = o.data) → h.FunFrames b₀ l → h'.FunFrames b₀ l
  | [], _, _ => trivial
  | env :: l, k, ⟨hk, ⟨L, o, hf, hn, ho, hd⟩, hr⟩ => by
    have e : (env :: l).filterMap (·.frame) = L :: l.filterMap (·.frame) := by rw [List.filterMap_cons, hf]
    obtain ⟨o', ho', hd'⟩ := k L (by rw [e]; exact .head _) o ho
    exact ⟨hk, ⟨L, o', hf, hn, ho', fun vs => hd' ▸ hd vs⟩, funFrames_of (fun b hb => k b (by rw [e]; exact .tail _ hb)) hr⟩
section
variable {B : Base} {n : Nat} {env : Env} {ρ : Rho}
theorem name_raw {x : Str} {pos : Pos} {p : Pd} {A : Around} {s : Shared} {Q E : Value → Shared → Prop} (rd : Rd B env s.heap s.toks ρ) (hm : (x, p) ∈ ρ) (hd : (x == ("__debug__" : Str)) = false) (h : ∀ v, p.P s.heap s.toks v → Q v s) : wpAny (model B.prog B.w) A (eval (.Name x pos) env) Q E s := by
  obtain ⟨m, hn, hv⟩ := rd.ns
  obtain ⟨v, hi, hw⟩ := hv x p hm
  rcases hw with ⟨hl, e⟩ | ⟨hl, c, hc, hcell⟩
  · exact wpAny_Name (wpAny_loadName_local rd.ok.k hl hn e (h v hi)) hd
  · exact wpAny_Name (wpAny_loadName_cell rd.ok.k hl hc hcell (h v hi)) hd
theorem UI.remove {A : Around} {l : List Env} {L : Addr} {s : Shared} {he : Addr → Option Obj} {D1 D2 Mz : Addr} {x : Int} {t : Tok} {r m a : List Int} {px apos pos py epos pz aposm posm pi eposm np hp tpos : Pos} {Q : Flow → Shared → Prop} {E : Value → Shared → Prop} (M : Mn B)
    (hh : A.handled = none) (U : UI B env he s.heap s.toks D1 D2 Mz r m a)
    (F : Fm B env he s.heap s.toks [(nm "item", same (.int x t)), (nm "missing", same (.ref Mz)), (nm "expected", same (.ref D1)), (nm "actual", same (.ref D2))])
    (hL : env.locals = L) (hfr : A.frames = some (env :: l)) (hfm : env.frame = some L) (hk : env.scope.kind ≠ .module) (hFr : s.heap.FunFrames B.b₀ l) (hS : ∀ b ∈ l.filterMap (·.frame), (he b).isSome = true)
    (h12 : D1 ≠ D2) (h13 : D1 ≠ Mz) (h23 : D2 ≠ Mz) (ha : a.length ≤ 64) (hm : m.length ≤ 64) (hve : env.kindOf (nm "ValueError") = some .globalImplicit)
    (hQ : ∀ h' tk' he', UI B env he' h' tk' D1 D2 Mz r (if x ∈ a then m else m ++ [x]) (if x ∈ a then a.erase x else a) → (∀ b, b ∉ l.filterMap (·.frame) → he' b = he b) →
      (∀ b o, b ∈ l.filterMap (·.frame) → he b = some o → ∃ sl, he' b = some { o with slots := sl }) → s.toks ≤ tk' → Q .next { s with heap := h', toks := tk' })
    (hbase : attributeBase (.Name (nm "actual") px) (nm "remove") env (eval (.Name (nm "actual") px) env) = eval (.Name (nm "actual") px) env) (hline : (apos.endLine == pos.line) = true)
    (hst : starEach [.Name (nm "item") py] env = [(false, eval (.Name (nm "item") py) env)])
    (hi : interactive env = false) (hsw : swapsWith (.Call (.Attribute (.Name (nm "actual") px) (nm "remove") apos) [.Name (nm "item") py] [] pos) none epos.line env = pure false)
    (hbasem : attributeBase (.Name (nm "missing") pz) (nm "append") env (eval (.Name (nm "missing") pz) env) = eval (.Name (nm "missing") pz) env) (hlinem : (aposm.endLine == posm.line) = true)
    (hstm : starEach [.Name (nm "item") pi] env = [(false, eval (.Name (nm "item") pi) env)])
    (hswm : swapsWith (.Call (.Attribute (.Name (nm "missing") pz) (nm "append") aposm) [.Name (nm "item") pi] [] posm) none eposm.line env = pure false) :
    wpAny (model B.prog B.w) A (exec (.Try [.Expr (.Call (.Attribute (.Name (nm "actual") px) (nm "remove") apos) [.Name (nm "item") py] [] pos) epos]
      [.ExceptHandler (some (.Name (nm "ValueError") np)) none [.Expr (.Call (.Attribute (.Name (nm "missing") pz) (nm "append") aposm) [.Name (nm "item") pi] [] posm) eposm] hp] [] [] tpos) env) Q E s := by
  refine wpAny_Try_except (wpAny_execs_cons (wpAny_Expr_any (Call_method1 hbase hst hline ?_) hi hsw))
  refine name_raw F.rd (p := same (.ref D2)) (by tb_rel) (by decide) fun u hu => ?_
  have hu' : u = .ref D2 := hu
  subst hu'
  obtain ⟨vs, ⟨nn, e1⟩, hr⟩ := id U.w2.ex
  have hia := ints_are hr
  have hvl := hia.length
  refine ⟨"list", "list.remove", PySem.F.plainAttrs_list, PySem.F.slot_list_remove, PySem.F.type_list_remove, ⟨_, e1, rfl⟩, fun a ha => by cases ha; exact ⟨_, e1, rfl⟩, ?_⟩
  refine toks_go2 (seqMethod1_meets PySem.F.slot_list_remove PySem.F.entry_list_remove ?_)
  refine name_raw F.rd (p := same (.int x t)) (by tb_rel) (by decide) fun u hu => ?_
  have hu' : u = .int x t := hu
  subst hu'
  refine ⟨⟨_, e1, rfl⟩, PySem.F.args_list_remove_2 _ _, ?_⟩
  by_cases hx : x ∈ a
  · have hj : a.findIdx (· == x) < a.length := List.findIdx_lt_length_of_exists ⟨x, hx, by simp⟩
    have hjv : a.findIdx (· == x) < vs.length := by omega
    refine ⟨_, MeetsSeq.list_remove D2 vs.toArray nn (.int x t) (isI x) (fun y hy => eqg hia y (by simpa using hy)) (a.findIdx (· == x)) (by simpa using hjv) ?_ ?_ ?_, e1, ?_⟩
    · have := ints_get hia x _ hjv hj
      have h2 := List.findIdx_getElem (w := hj)
      simp only [List.getElem_toArray]
      rw [this]; exact h2
    · intro i hi hlt
      have hiv : i < vs.length := by simpa using hi
      have := ints_get hia x i hiv (by omega)
      have h2 := List.not_of_lt_findIdx hlt
      simp only [List.getElem_toArray]
      rw [this]
      simpa using h2
    · simp only [List.size_toArray]; rw [hvl]; exact small_le ha
    · intro _
      show wpAny _ A (execs [] env) _ _ _
      refine wpAny_execs_nil ?_
      show wpAny _ A (execs [] env) _ _ _
      refine wpAny_execs_nil ?_
      have e3 := PySem.IsL.update (show PySem.IsL s.heap D2 vs.toArray nn from e1) (fun xs => xs.eraseIdxIfInBounds (a.findIdx (· == x)))
      have e5 : vs.toArray.eraseIdxIfInBounds (a.findIdx (· == x)) = (vs.eraseIdx (a.findIdx (· == x))).toArray := by
        apply Array.toList_inj.mp
        simp [Array.toList_eraseIdxIfInBounds]
      rw [e5] at e3
      have hsb : Heap.SameBut D2 s.heap (s.heap.update D2 (Obj.mapSeq fun xs => xs.eraseIdxIfInBounds (a.findIdx (· == x)))) := Heap.SameBut.update ..
      generalize (s.heap.update D2 (Obj.mapSeq fun xs => xs.eraseIdxIfInBounds (a.findIdx (· == x)))) = h₂ at e3 hsb
      have F₂ := U.F.mut U.w2 (by ktr_unf) hsb
      refine hQ h₂ s.toks he ?_ (fun _ _ => rfl) (fun b o _ e => ⟨o.slots, e⟩) (Nat.le_refl _)
      rw [if_pos hx, if_pos hx]
      refine ⟨F₂, U.w1.at fun ob e => hsb.extBut _ _ h12 e, ⟨U.w2.off, flat_ints _, _, ⟨_, e3⟩, ?_⟩, U.w3.at fun ob e => hsb.extBut _ _ (Ne.symm h23) e⟩
      rw [← erase_idx x a hx]
      exact are_ints (ints_erase hia _)
  · refine ⟨_, MeetsSeq.list_remove_none D2 vs.toArray nn (.int x t) (isI x) (fun y hy => eqg hia y (by simpa using hy)) ?_, e1, hh, ?_⟩
    · intro i hi
      have hiv : i < vs.length := by simpa using hi
      have hia2 : i < a.length := by omega
      have := ints_get hia x i hiv hia2
      simp only [List.getElem_toArray]
      rw [this]
      have hne : a[i] ≠ x := fun h => hx (by rw [← h]; exact List.getElem_mem hia2)
      simpa using hne
    · intro h' tk e hxn htk
      have htk' : s.toks ≤ tk := htk
      show wpAny _ A (noteFrame (.ref e) env) _ _ _
      subst hL
      obtain ⟨mL, hnL, _⟩ := id U.F.rd.ns
      have hL0 : B.b₀.get? env.locals = none := by
        cases q : B.b₀.get? env.locals with
        | none => rfl
        | some o => have := U.F.baseIn _ _ q; rw [U.F.loc] at this; cases this
      have hS2 : ∀ b ∈ l.filterMap (·.frame), B.b₀.get? b = none ∧ (he b).isSome = true := fun b hb => ⟨(hFr.mem hb).1, hS b hb⟩
      have Fs : ∀ h'', KpX (env.locals :: l.filterMap (·.frame)) [] s.heap h'' → Fm B env (heS he (l.filterMap (·.frame)) h'') h'' tk [(nm "item", same (.int x t)), (nm "missing", same (.ref Mz)), (nm "expected", same (.ref D1)), (nm "actual", same (.ref D2))] := fun h'' hk'' =>
        F.slots hk'' (fun b hb => (nomatch hb)) hS2 (by ktr_unf) htk'
      have wat : ∀ h'' D ds, KpX (env.locals :: l.filterMap (·.frame)) [] s.heap h'' → Own he s.heap D ds → Own (heS he (l.filterMap (·.frame)) h'') h'' D ds := fun h'' D ds hk'' w => by
        have hDS : D ∉ l.filterMap (·.frame) := fun hm => by have := hS _ hm; rw [w.off] at this; cases this
        have w' : Own he h'' D ds := w.at fun ob e => hk''.keep _ _ (fun hm => by
          rcases List.mem_cons.mp hm with hm | hm
          · exact (U.F.own_ne w).1 hm
          · exact hDS hm) (fun hm => (nomatch hm)) e
        exact w'.hide (by rw [heS_off hDS]; exact w.off)
      refine caught_value (s := { s with heap := h', toks := tk }) hfr hFr hfm hk hnL hL0 hxn (fun h'' hk'' A' Q' E' hq => ?_) (fun h'' hk'' E' => ?_)
      · exact built_name (s := { s with heap := h'', toks := tk }) (Fs h'' hk'').rd hve (mg_vale M) mb_vale hq
      · have F₃ := Fs h'' hk''
        refine wpAny_execs_cons (wpAny_Expr_any (Call_method1 hbasem hstm hlinem ?_) hi hswm)
        refine name_raw (s := { s with heap := h'', toks := tk }) F₃.rd (p := same (.ref Mz)) (by tb_rel) (by decide) fun u hu => ?_
        have hu' : u = .ref Mz := hu
        subst hu'
        have w3 := wat h'' Mz _ hk'' U.w3
        obtain ⟨vm, ⟨nm', em⟩, hrm⟩ := id w3.ex
        refine ⟨"list", "list.append", PySem.F.plainAttrs_list, PySem.F.slot_list_append, PySem.F.type_list_append, ⟨_, em, rfl⟩, fun a ha => by cases ha; exact ⟨_, em, rfl⟩, ?_⟩
        refine P.append_list ?_
        refine name_raw (s := { s with heap := h'', toks := tk }) F₃.rd (p := same (.int x t)) (by tb_rel) (by decide) fun u hu => ?_
        have hu' : u = .int x t := hu
        subst hu'
        refine ⟨vm.toArray, nm', ?_, em, ?_⟩
        · have := hrm.length
          simp only [List.length_map] at this
          rw [List.size_toArray, this]; exact small_le hm
        have e3 := PySem.IsL.update (show PySem.IsL h'' Mz vm.toArray nm' from em) (·.push (Value.int x t))
        have hsb : Heap.SameBut Mz h'' (h''.update Mz (Obj.mapSeq (·.push (Value.int x t)))) := Heap.SameBut.update ..
        have e4 : (h''.update Mz (Obj.mapSeq (·.push (Value.int x t)))).PlainList Mz (vm ++ [Value.int x t]).toArray := ⟨_, by simpa using e3⟩
        show wpAny _ _ (execs [] env) Q E' { s with heap := h''.update Mz (Obj.mapSeq (·.push (Value.int x t))), toks := tk }
        generalize h''.update Mz (Obj.mapSeq (·.push (Value.int x t))) = h₄ at hsb e4
        refine wpAny_execs_nil ?_
        have F₄ := (F₃.mut w3 (by ktr_unf) hsb).sub (ρ' := [(nm "missing", same (.ref Mz)), (nm "expected", same (.ref D1)), (nm "actual", same (.ref D2))]) (by ktr_rel)
        refine hQ h₄ tk (heS he (l.filterMap (·.frame)) h'') ?_ (fun b hb => heS_off hb) (fun b o hb e => ?_) htk'
        · rw [if_neg hx, if_neg hx]
          refine ⟨F₄, (wat h'' D1 _ hk'' U.w1).at fun ob e => hsb.extBut _ _ h13 e, (wat h'' D2 _ hk'' U.w2).at fun ob e => hsb.extBut _ _ h23 e, ⟨w3.off, flat_ints _, _, e4, ?_⟩⟩
          rw [List.map_append]
          exact (flat_isL (flat_ints _) hrm).snoc (Is.int (i := x) (t := t))
        · rw [heS_on hb]
          exact hk''.slots b o (.tail _ hb) (U.F.keep b o e)
end
noncomputable def FnU (B : Base) (n : Nat) : Prop := ∃ a o fd, B.mg (nm "unorderable_list_difference") = some (.ref a) ∧ B.b₀.get? a = some o ∧ o.data = .func fd ∧
  ∀ (A : Around) (s : Shared) (l : List Env) (D1 D2 : Addr) (vs1 vs2 : List Value) (es as : List Int) (Q E : Value → Shared → Prop), Room A n → A.frames = some l → s.heap.FunFrames B.b₀ l → Kp B.b₀ s.heap → B.lo ≤ s.toks →
    s.heap.PlainList D1 vs1.toArray → IntsAre vs1 es → s.heap.PlainList D2 vs2.toArray → IntsAre vs2 as → D1 ≠ D2 → B.b₀.get? D1 = none → B.b₀.get? D2 = none → D1 ∉ l.filterMap (·.frame) → D2 ∉ l.filterMap (·.frame) → es.length ≤ 32 → as.length ≤ 32 →
    (∀ T h' tk', KpX (l.filterMap (·.frame)) [D1, D2] s.heap h' → s.toks ≤ tk' → Is h' (.ref T) (.tup [intsD (ulrF es.reverse [] as).1, intsD (ulrF es.reverse [] as).2]) → Q (.ref T) { s with heap := h', toks := tk' }) →
    wpAny (model B.prog B.w) A (call (.ref a) [.ref D1, .ref D2]) Q E s
theorem length_erase_le (x : Int) (a : List Int) : (a.erase x).length ≤ a.length := List.length_erase_le
section
variable {B : Base} (M : Mn B)
include M
theorem fn_ulr {n : Nat} : FnU B (n + 1) := by
  have D0 := def_0 M
  obtain ⟨a, o, pm, code, doc, hg, ho, hdat, hcd⟩ := B.T.fn (dd 0) D0.mem
  refine ⟨a, o, _, hg, ho, hdat, fun A s l D1 D2 vs1 vs2 es as Q E ro hfr hFr kb kp p1 i1 p2 i2 h12 b1 b2 n1 n2 hes has hq => wpAny_call ?_⟩
  refine enter (ps := [same (.ref D1), same (.ref D2)]) ro kb kp (.cons rfl (.cons rfl .nil)) (xs := [nm "expected", nm "actual"]) rfl ho hdat hcd rfl rfl rfl rfl D0.co D0.gen D0.k (D0.bind _ _ _ _ rfl) D0.nd D0.kind fun L he h₁ tk₁ hin hout htk F => ?_
  generalize hR : (fun (e : Value) (s' : Shared) => wpAny (model B.prog B.w) (A.deeper (callEnvC (docDef (dd 0).name (dd 0).params (dd 0).body (dd 0).scope pm code doc) L a)) (leaving (callEnvC (docDef (dd 0).name (dd 0).params (dd 0).body (dd 0).scope pm code doc) L a) e) (fun _ s'' => wants Q E (.error e) s'') (fun e' s'' => wants Q E (.error e') s'') s') = EE
  clear hR
  have hn1 : ∀ {b : Addr}, b ∈ l.filterMap (·.frame) → b ≠ D1 ∧ b ≠ D2 := fun hb => ⟨by rintro rfl; exact n1 hb, by rintro rfl; exact n2 hb⟩
  have F0 : Fm B (defEnv (dd 0) pm code doc L a) (fun b => if b = D1 ∨ b = D2 then none else he b) h₁ tk₁ [(nm "expected", same (.ref D1)), (nm "actual", same (.ref D2))] :=
    F.unhide (fun b ob e => by
      by_cases hb : b = D1 ∨ b = D2
      · rw [if_pos hb] at e; cases e
      · rw [if_neg hb] at e; exact e) fun b ob e => by
        rw [if_neg (by rintro (rfl | rfl); rw [b1] at e; cases e; rw [b2] at e; cases e)]
        exact F.baseIn b ob e
  have H0 : HeOk s.heap (l.filterMap (·.frame)) D1 D2 (fun b => if b = D1 ∨ b = D2 then none else he b) := by
    refine ⟨fun b ob hb h1 h2 e => ?_, fun b ob hb e => ⟨ob.slots, ?_⟩⟩
    · show (if b = D1 ∨ b = D2 then none else he b) = _
      rw [if_neg (by rintro (h | h); exact h1 h; exact h2 h)]
      exact hin b ob e
    · show (if b = D1 ∨ b = D2 then none else he b) = _
      obtain ⟨h1, h2⟩ := hn1 hb
      rw [if_neg (by rintro (h | h); exact h1 h; exact h2 h)]
      exact hin b ob e
  have hsK : Kp s.heap h₁ := fun b ob e => F.keep b ob (hin b ob e)
  have W1 : Own (fun b => if b = D1 ∨ b = D2 then none else he b) h₁ D1 (es.map D.int) := ⟨if_pos (.inl rfl), flat_ints _, vs1, p1.at fun ob e => hsK _ _ e, are_ints i1⟩
  have W2 : Own (fun b => if b = D1 ∨ b = D2 then none else he b) h₁ D2 (as.map D.int) := ⟨if_pos (.inr rfl), flat_ints _, vs2, p2.at fun ob e => hsK _ _ e, are_ints i2⟩
  generalize (fun b => if b = D1 ∨ b = D2 then none else he b) = he0 at F0 H0 W1 W2
  clear F hin hout
  have hsize1 : D1 < h₁.objs.size := by obtain ⟨vs, ⟨nn, e⟩, _⟩ := W1.ex; exact Heap.lt_size e
  have hsize2 : D2 < h₁.objs.size := by obtain ⟨vs, ⟨nn, e⟩, _⟩ := W2.ex; exact Heap.lt_size e
  -- missing = []
  refine wpAny_execs_cons (wpAny_Assign_Name (List_ (spliced_nil (wpAny_newObj_type ?_ (by size_fits)))) (by rfl))
  have F1 := F0.keeps (Kp.push h₁ { cls := .type "list", data := .seq ([] : List Value).toArray }) (Nat.le_refl _)
  have none_of : ∀ b, h₁.objs.size ≤ b → he0 b = none := fun b hb => by
    cases e : he0 b with
    | none => rfl
    | some o' => exact absurd (Heap.lt_size (F0.keep _ _ e)) (Nat.not_lt.mpr hb)
  have w1 : Own he0 (h₁.push { cls := .type "list", data := .seq ([] : List Value).toArray }) h₁.objs.size (([] : List Int).map D.int) := ⟨none_of _ (Nat.le_refl _), fun _ h => (nomatch h), [], ⟨_, Heap.get?_push_size _ rfl⟩, .nil⟩
  refine Fm.store (s := { s with heap := h₁.push { cls := .type "list", data := .seq ([] : List Value).toArray }, toks := tk₁ }) (p := same (.ref h₁.objs.size)) (ρ' := [(nm "expected", same (.ref D1)), (nm "actual", same (.ref D2))]) F1 rfl (by ktr_rel) (.inl rfl) fun h₂ tk₂ F₂ l₂ ks => ?_
  have l₂' : tk₁ ≤ tk₂ := l₂
  have ks' : KpS (h₁.push { cls := .type "list", data := .seq ([] : List Value).toArray }) h₂ := ks
  have U0 : UI B (defEnv (dd 0) pm code doc L a) he0 h₂ tk₂ D1 D2 h₁.objs.size es.reverse [] as := ⟨F₂, by rw [List.reverse_reverse]; exact (W1.keeps (Kp.push _ _)).keepsS ks', (W2.keeps (Kp.push _ _)).keepsS ks', w1.keepsS ks'⟩
  have h13 : D1 ≠ h₁.objs.size := Nat.ne_of_lt hsize1
  have h23 : D2 ≠ h₁.objs.size := Nat.ne_of_lt hsize2
  generalize h₁.objs.size = Mz at U0 h13 h23
  -- the loop
  refine wpAny_execs_cons (wpAny_While ?_)
  refine codeAny_whileLoop (fun k s' => ∃ he h tk r m a', s' = { s with heap := h, toks := tk } ∧ k = r.length ∧ UI B (defEnv (dd 0) pm code doc L a) he h tk D1 D2 Mz r m a' ∧ HeOk s.heap (l.filterMap (·.frame)) D1 D2 he ∧ ulrF r m a' = ulrF es.reverse [] as ∧
    m.length + r.length ≤ 32 ∧ a'.length ≤ 32 ∧ s.toks ≤ tk) ?_ es.reverse.length ⟨he0, h₂, tk₂, es.reverse, [], as, rfl, rfl, U0, H0, rfl, by simpa using hes, has, by omega⟩
  rintro k s' ⟨he', h, tk, r, m, a', rfl, rfl, U, H, hul, hml, hal, htk'⟩
  obtain ⟨vr, ⟨nr, er⟩, hir⟩ := id U.w1.ex
  have hvr : vr.length = r.length := by have := hir.length; simpa using this
  refine isTrue_plain ?_ (by rfl)
  refine name_raw (s := { s with heap := h, toks := tk }) U.F.rd (p := same (.ref D1)) (by first | tb_rel | exact .tail _ (.head _)) (by decide) fun u hu => ?_
  have hu' : u = .ref D1 := hu
  subst hu'
  refine wpAny_truthy_list (s := { s with heap := h, toks := tk }) ⟨_, er, rfl, nr, rfl⟩ (by simp only [List.size_toArray, hvr]; omega) ?_
  have U' : UI B (defEnv (dd 0) pm code doc L a) he' h (tk + 1 + 1) D1 D2 Mz r m a' := ⟨U.F.keeps (Kp.refl _) (by omega), U.w1, U.w2, U.w3⟩
  cases r with
  | nil =>
    have hv0 : vr = [] := List.length_eq_zero_iff.mp (by simpa using hvr)
    subst hv0
    show wpAny _ _ (execs [] _) _ _ _
    refine wpAny_execs_nil ?_
    -- the return
    have F3 : Fm B (defEnv (dd 0) pm code doc L a) he' h (tk + 1 + 1) [(nm "missing", is (intsD m)), (nm "actual", is (intsD a'))] := by
      obtain ⟨mm, hn, hv⟩ := U'.F.rd.ns
      refine ⟨⟨U'.F.rd.ok, U'.F.rd.base, U'.F.rd.pos, mm, hn, fun y q hy => ?_⟩, U'.F.keep, U'.F.baseIn, U'.F.loc, U'.F.cells, U'.F.inj⟩
      rcases List.mem_cons.mp hy with hy | hy
      · cases hy
        obtain ⟨u, hu, hw⟩ := hv (nm "missing") _ (.head _)
        have hu' : u = .ref Mz := hu
        subst hu'
        exact ⟨_, U.w3.isl, hw⟩
      · cases List.mem_singleton.mp hy
        obtain ⟨u, hu, hw⟩ := hv (nm "actual") _ (.tail _ (.tail _ (.head _)))
        have hu' : u = .ref D2 := hu
        subst hu'
        exact ⟨_, U.w2.isl, hw⟩
    refine Ex.one (B := B) (n := n) (ρ := [(nm "missing", is (intsD m)), (nm "actual", is (intsD a'))]) (o := .ret (is (.tup [intsD m, intsD a']))) (Ex1.ret (Ev.tup (ds := [intsD m, intsD a']) (EvL.cons (Ev.name (by tb_rel)) (EvL.cons (Ev.name (by tb_rel)) EvL.nil)) (small_le (by simp)))) _ { s with heap := h, toks := tk + 1 + 1 } he' _ _ ro.deeper F3 fun v h' tk' F4 l4 hv => ?_
    have hv2 : Is h' v (.tup [intsD m, intsD a']) := hv
    have l4' : tk + 1 + 1 ≤ tk' := l4
    have hul' : (m, a') = ulrF es.reverse [] as := hul
    have e1 : m = (ulrF es.reverse [] as).1 := by rw [← hul']
    have e2 : a' = (ulrF es.reverse [] as).2 := by rw [← hul']
    rw [e1, e2] at hv2
    cases hv2 with | tup ht hr2 =>
    refine hq _ h' tk' ⟨fun b ob hb hd e => F4.keep b ob (H.keep b ob hb (fun h => hd (by rw [h]; exact .head _)) (fun h => hd (by rw [h]; exact .tail _ (.head _))) e), fun b ob hb e => ?_⟩ (by omega) (.tup ht hr2)
    obtain ⟨sl, e'⟩ := H.slots b ob hb e
    exact ⟨sl, F4.keep b _ e'⟩
  | cons x r =>
    have hv1 : (!vr.toArray.isEmpty) = true := by
      cases vr with
      | nil => simp at hvr
      | cons v vr => rfl
    rw [hv1]
    show wpAny _ _ (execs _ _) _ _ _
    refine wpAny_execs_cons ?_
    refine UI.pop (s := { s with heap := h, toks := tk + 1 + 1 }) ro.deeper U' h12 h13 (by simp at hml; omega) rfl (fun h3 tk3 t U3 F3 l3 => ?_) rfl rfl rfl
    have l3' : tk + 1 + 1 ≤ tk3 := l3
    have hSome : ∀ b ∈ l.filterMap (·.frame), (he' b).isSome = true := fun b hb => by
      obtain ⟨_, ob, e, _⟩ := hFr.mem hb
      obtain ⟨sl, e'⟩ := H.slots b ob hb e
      rw [e']; rfl
    have hFr3 : h3.FunFrames B.b₀ l := funFrames_of (fun b hb ob e => by
      obtain ⟨sl, e'⟩ := H.slots b ob hb e
      exact ⟨_, F3.keep b _ e', rfl⟩) hFr
    refine wpAny_execs_cons ?_
    refine UI.remove (s := { s with heap := h3, toks := tk3 }) M ro.deeper.1 U3 F3 rfl (Around.frames_deeper hfr) rfl (by rw [F3.rd.ok.k]; decide) hFr3 hSome h12 h13 h23 (by omega) (by simp at hml; omega) rfl (fun h4 tk4 he4 U4 k1 k2 l4 => ?_) rfl rfl rfl rfl rfl rfl rfl rfl rfl
    have l4' : tk3 ≤ tk4 := l4
    refine wpAny_execs_nil ?_
    refine ⟨r.length, by simp, he4, h4, tk4, r, _, _, rfl, rfl, U4, ⟨fun b ob hb hb1 hb2 e => by rw [k1 b hb]; exact H.keep b ob hb hb1 hb2 e, fun b ob hb e => ?_⟩, ?_, ?_, ?_, by omega⟩
    · obtain ⟨sl, e'⟩ := H.slots b ob hb e
      obtain ⟨sl2, e2⟩ := k2 b _ hb e'
      exact ⟨sl2, e2⟩
    · rw [← hul]
      show _ = (if x ∈ a' then ulrF r m (a'.erase x) else ulrF r (m ++ [x]) a')
      split <;> rfl
    · simp only [List.length_cons] at hml
      split
      · omega
      · simp; omega
    · split
      · exact Nat.le_trans (length_erase_le _ _) hal
      · exact hal
end
theorem mkInts : ∀ ns : List Int, IntsAre (ns.map fun i => Value.int i 0) ns
  | [] => .nil
  | n :: r => .cons n 0 (mkInts r)
theorem ints_uniq : ∀ {vs : List Value} {ns ms : List Int}, IntsAre vs ns → IntsAre vs ms → ns = ms
  | _, _, _, .nil, .nil => rfl
  | _, _, _, .cons _ _ r, .cons _ _ q => by rw [ints_uniq r q]
theorem pick_upto (ns : List Int) {y : Int} (h : 0 ≤ y) : pickNums ns none (some y) none = ns.take y.toNat := ints_uniq ((mkInts ns).pick _ _ _) (kmk_upto (mkInts ns) h)
theorem pick_from (ns : List Int) {x : Int} (h : 0 ≤ x) : pickNums ns (some x) none none = ns.drop x.toNat := ints_uniq ((mkInts ns).pick _ _ _) (kmk_from (mkInts ns) h)
theorem pick_run (ns : List Int) {x y : Int} (h : 0 ≤ x) (h2 : 0 ≤ y) : pickNums ns (some x) (some y) none = (ns.drop x.toNat).take (min y.toNat ns.length - x.toNat) := ints_uniq ((mkInts ns).pick _ _ _) (kmk_run (mkInts ns) h h2)
theorem ints_rev {vs : List Value} {ns : List Int} (h : IntsAre vs ns) : IntsAre vs.reverse ns.reverse := by
  induction h with
  | nil => exact .nil
  | cons a t r ih =>
    simp only [List.reverse_cons]
    exact IntsAre.append ih (.cons a t .nil)
theorem pick_rev (ns : List Int) : pickNums ns none none (some (-1)) = ns.reverse := by
  refine ints_uniq ((mkInts ns).pick _ _ _) ?_
  rw [krv_pick]
  exact ints_rev (mkInts ns)
theorem mul_small {a b : Int} (h1 : -(2 ^ 64) < a) (h2 : a < 2 ^ 64) : IntMulOk a b := .of_left (intBits_le_64 h1 h2)
section
variable {B : Base} {n : Nat} {env : Env} {ρ ρc : Rho}
/-- the same as a fact of any state -/
theorem Ev.compIfN {elt iter c : Expr} {x : Str} {px : Pos} {scope : Scope} {cl : List (Str × Addr)} {pos : Pos} {xs : List Int} {keep : Int → Bool} {f : Int → Int} {q : Pd} (hit : It B n env ρ iter ((xs.map D.int).map is)) (b : Blk env scope cl x ρ ρc)
    (htest : ∀ i, i ∈ xs → ∀ v C, Tr B n (compEnvC scope cl C env) ((x, same v) :: (x, is (.int i)) :: ρc) c (keep i))
    (helt : ∀ i, i ∈ xs → keep i = true → ∀ v C, Ev B n (compEnvC scope cl C env) ((x, same v) :: (x, is (.int i)) :: ρc) elt (is (.int (f i))))
    (hq : ∀ (s : Shared) h k a ys, Rd B env s.heap s.toks ρ → s.heap.get? a = none → h.PlainList a ys.toArray → IntsAre ys ((xs.filter keep).map f) → q.P h k (.ref a))
    (hs : ∀ x, foldedSetIterable iter env x = pure x := by intro _; rfl) : Ev B n env ρ (.ListComp elt [⟨.Name x px, iter, [c], 0⟩] scope pos) q :=
  fun A s Q E ro rd hQ => compIf_at hit b htest helt ro rd (fun h' tk' a ys k l hn hl hi => hQ _ h' tk' k l (hq s h' tk' a ys rd hn hl hi)) hs
theorem Ev.tupP {es : List Expr} {k : Nat} {pos : Pos} {ps : List Pd} (h : EvL B n env ρ es ps) (hsz : ps.length ≤ sizeLine) : Ev B n env ρ (.Tuple es k pos) (Mine.tupP ps) :=
  fun A s Q E ro rd hq => Tuple_ (h A s pos _ E ro rd fun vs h₁ tk₁ k₁ l₁ al => by
    refine wpAny_newObj_type ?_ (by show vs.toArray.size ≤ sizeLine; rw [List.size_toArray, al.length]; exact hsz)
    exact hq _ _ tk₁ (k₁.trans (Kp.push _ _)) l₁ ⟨_, vs, rfl, ⟨_, Heap.get?_push_size _ rfl, rfl, _, rfl⟩, al.keeps (Kp.push _ _) (Nat.le_refl _)⟩)
/-- a list of ints at D -/
noncomputable def plD (d : Addr) (xs : List Int) : Pd := ⟨fun h _ v => v = .ref d ∧ ∃ vs, h.PlainList d vs.toArray ∧ IntsAre vs xs, fun ks _ x => by
  obtain ⟨e, vs, ⟨n, ho⟩, hi⟩ := x
  exact ⟨e, vs, ⟨n, ks _ _ _ _ ho rfl⟩, hi⟩⟩
/-- a list of ints that is not D -/
noncomputable def neD (d : Addr) (xs : List Int) : Pd := ⟨fun h _ v => ∃ a vs, v = .ref a ∧ a ≠ d ∧ h.PlainList a vs.toArray ∧ IntsAre vs xs, fun ks _ x => by
  obtain ⟨a, vs, e, hne, ⟨n, ho⟩, hi⟩ := x
  exact ⟨a, vs, e, hne, ⟨n, ks _ _ _ _ ho rfl⟩, hi⟩⟩
/-- a list of ints that was not in g -/
noncomputable def npl (g : Heap) (xs : List Int) : Pd := ⟨fun h _ v => ∃ a vs, v = .ref a ∧ g.get? a = none ∧ h.PlainList a vs.toArray ∧ IntsAre vs xs, fun ks _ x => by
  obtain ⟨a, vs, e, hne, ⟨n, ho⟩, hi⟩ := x
  exact ⟨a, vs, e, hne, ⟨n, ks _ _ _ _ ho rfl⟩, hi⟩⟩
/-- p held of it in g -/
noncomputable def pin (g : Heap) (k : Nat) (p : Pd) : Pd := ⟨fun _ _ v => p.P g k v, fun _ _ x => x⟩
theorem free_pin {g : Heap} {k : Nat} {p : Pd} : Free (pin g k p) := fun _ _ _ _ _ _ x => x
noncomputable def pins (g : Heap) (k : Nat) (ρ : Rho) : Rho := ρ.map fun q => (q.1, pin g k q.2)
theorem free_pins {g : Heap} {k : Nat} {ρ : Rho} : AllFree (pins g k ρ) := fun q hq => by
  obtain ⟨q', _, rfl⟩ := List.mem_map.mp hq
  exact free_pin
theorem Fm.pins {he : Addr → Option Obj} {h : Heap} {k : Nat} (F : Fm B env he h k ρ) : Fm B env he h k (ρ ++ Mine.pins h k ρ) := by
  obtain ⟨m, hn, hv⟩ := F.rd.ns
  refine ⟨⟨F.rd.ok, F.rd.base, F.rd.pos, m, hn, fun y q hm => ?_⟩, F.keep, F.baseIn, F.loc, F.cells, F.inj⟩
  rcases List.mem_append.mp hm with hm | hm
  · exact hv y q hm
  · obtain ⟨q', hq', e⟩ := List.mem_map.mp hm
    cases e
    obtain ⟨u, hu, hw⟩ := hv _ _ hq'
    exact ⟨u, hu, hw⟩
theorem Fm.unpin {he : Addr → Option Obj} {g h : Heap} {k0 k : Nat} (F : Fm B env he h k (Mine.pins g k0 ρ)) (hk : KpS g h) (hl : k0 ≤ k) : Fm B env he h k ρ := by
  obtain ⟨m, hn, hv⟩ := F.rd.ns
  refine ⟨⟨F.rd.ok, F.rd.base, F.rd.pos, m, hn, fun y q hm => ?_⟩, F.keep, F.baseIn, F.loc, F.cells, F.inj⟩
  obtain ⟨u, hu, hw⟩ := hv y (pin g k0 q) (List.mem_map.mpr ⟨(y, q), hm, rfl⟩)
  exact ⟨u, q.mono hk hl hu, hw⟩
/-- the callers' frames stand in he -/
noncomputable def FrOn (B : Base) (he : Addr → Option Obj) (l : List Env) : Prop := ∀ e ∈ l, e.scope.kind ≠ .module ∧ ∃ L o, e.frame = some L ∧ B.b₀.get? L = none ∧ he L = some o ∧ (∀ vs, o.data ≠ .fields vs) ∧ ∀ vs n, o.data ≠ .seq vs n
theorem FrOn.funs {he : Addr → Option Obj} {h : Heap} : ∀ {l : List Env}, FrOn B he l → (∀ b o, he b = some o → h.get? b = some o) → h.FunFrames B.b₀ l
  | [], _, _ => trivial
  | e :: l, f, k => by
    obtain ⟨hk, L, o, hf, hb, ho, h1, _⟩ := f e (.head _)
    exact ⟨hk, ⟨L, o, hf, hb, k L o ho, h1⟩, FrOn.funs (fun e' he' => f e' (.tail _ he')) k⟩
theorem FrOn.mem {he : Addr → Option Obj} {l : List Env} (f : FrOn B he l) {b : Addr} (hb : b ∈ l.filterMap (·.frame)) : B.b₀.get? b = none ∧ ∃ o, he b = some o ∧ ∀ vs n, o.data ≠ .seq vs n := by
  obtain ⟨e, he', hf⟩ := List.mem_filterMap.mp hb
  obtain ⟨_, L, o, hf', h1, h2, _, h4⟩ := f e he'
  rw [hf] at hf'; cases hf'
  exact ⟨h1, o, h2, h4⟩
/-- statements that may turn the callers' frames' slots, up to a return -/
noncomputable def ExH (B : Base) (n : Nat) (env : Env) (l : List Env) (ρ : Rho) (ss : List Stmt) (p : Pd) : Prop :=
  ∀ (A : Around) (s : Shared) (he : Addr → Option Obj) (Q : Flow → Shared → Prop) (E : Value → Shared → Prop), Room A n → A.frames = some (env :: l) → FrOn B he l → Fm B env he s.heap s.toks ρ →
    (∀ v h' tk' he', Fm B env he' h' tk' [] → (∀ b, b ∉ l.filterMap (·.frame) → he' b = he b) → (∀ b o, b ∈ l.filterMap (·.frame) → he b = some o → ∃ sl, he' b = some { o with slots := sl }) → s.toks ≤ tk' → p.P h' tk' v → Q (.ret v) { s with heap := h', toks := tk' }) →
    wpAny (model B.prog B.w) A (execs ss env) Q E s
theorem ExH.of {l : List Env} {ss : List Stmt} {p : Pd} (h : Ex B n env ρ ss (.ret p)) : ExH B n env l ρ ss p := fun A s he Q E ro _ _ F hq =>
  h A s he Q E ro F fun v h' tk' F' l' hv => hq v h' tk' he F' (fun _ _ => rfl) (fun b o _ e => ⟨o.slots, e⟩) l' hv
theorem ExH.cons {l : List Env} {st : Stmt} {ss : List Stmt} {ρ₁ : Rho} {p : Pd} (h1 : Ex1 B n env ρ st (.next ρ₁)) (h2 : ExH B n env l ρ₁ ss p) : ExH B n env l ρ (st :: ss) p := fun A s he Q E ro hf hon F hq =>
  wpAny_execs_cons (h1 A s he _ E ro F fun h' tk' F' l' => h2 A _ he Q E ro hf hon F' fun v h'' tk'' he' F'' k1 k2 l'' hv => hq v h'' tk'' he' F'' k1 k2 (Nat.le_trans l' l'') hv)
theorem ExH.sub {l : List Env} {ss : List Stmt} {ρ₁ : Rho} {p : Pd} (h : ExH B n env l ρ₁ ss p) (hs : ∀ q ∈ ρ₁, q ∈ ρ) : ExH B n env l ρ ss p := fun A s he Q E ro hf hon F hq => h A s he Q E ro hf hon (F.sub hs) hq
end
noncomputable def orW (m : Int) (x p : Int) : Int := Builtin.bitOr x ((word m).getD p.toNat 0 * 2 ^ p.toNat)
noncomputable def xorP (x p : Int) : Int := Builtin.bitXor x (1 * 2 ^ p.toNat)
noncomputable def numA (m above : Int) : Int := (rangeI 16).foldl (orW m) (above * 65536)
noncomputable def num (m above : Int) (P : List Int) : Int := P.foldl xorP (numA m above)
noncomputable def takenOf (x : Int) : Int := Builtin.bitOr (Builtin.bitAnd x 61440) (Builtin.bitAnd x 4095)
noncomputable def cameOf (t : Int) : List Int := (rangeI 16).map fun p => Builtin.bitAnd (t.fdiv (2 ^ p.toNat)) 1
noncomputable def rowOf (bits : List Int) : List Int := bits.map fun b => 1 - 2 * b
noncomputable def onesOf (w : List Int) : List Int := (rangeI 16).filter fun p => w.getD p.toNat 0 == 1
noncomputable def due1 (m : Int) (P : List Int) : List Int := P.reverse.filter fun p => (word m).getD p.toNat 0 == 1
noncomputable def due2 (m : Int) (P : List Int) : List Int := P.filter fun p => (word m).getD p.toNat 0 == 0
noncomputable def lostOf (P : List Int) : Nat := (P.filter fun p => decide (p < 12)).length
/-- what _law_told is to tell -/
noncomputable def Tells (c : List Int) (a b : Int) : Prop := ∃ j, j < 16 ∧ (∀ i, i < 16 → i ≠ j → mx (c.getD i 0) < mx (c.getD j 0)) ∧ mx (c.getD j 0) ≤ 256 ∧ (j : Int) + (if c.getD j 0 < 0 then 16 else 0) = a ∧ mx (c.getD j 0) = b
/-- the plain law at a message, places, bits above -/
structure Good (m above : Int) (P : List Int) : Prop where
  mr : m ∈ rangeI 32
  pr : ∀ p ∈ P, 0 ≤ p ∧ p < 16
  pl : P.length ≤ 16
  t0 : 0 ≤ takenOf (num m above P)
  t1 : takenOf (num m above P) < 65536
  told : Tells (crossed (rowOf (cameOf (takenOf (num m above P))))) m (16 - 2 * (P.length : Int))
  cross : crossed (crossed (rowOf (cameOf (takenOf (num m above P))))) = (rowOf (cameOf (takenOf (num m above P)))).map fun x => 16 * x
  ulr : ulrF (onesOf (word m)).reverse [] (onesOf (cameOf (takenOf (num m above P)))) = (due1 m P, due2 m P)
  sz : (modeStr (num m above P)).cps.size = 10
  kind : cat (modeStr (num m above P)) 0 = cat (nm "?pc?d?b?-?l?s???") ((takenOf (num m above P)).fdiv 4096).toNat
  rights : rightsOf (modeStr (num m above P)) = (cameOf (takenOf (num m above P))).take 12
  told2 : lostOf P ≤ 1 → Tells (crossed (rowOf ((cameOf (takenOf (num m above P))).take 12) ++ [0, 0, 0, 0])) m (12 - 2 * (lostOf P : Int))
theorem word_bit (m p : Int) : (word m).getD p.toNat 0 = 0 ∨ (word m).getD p.toNat 0 = 1 := by
  by_cases h : p.toNat < 16
  · have hl : p.toNat < (word m).length := by rw [word_length]; exact h
    have e : (word m).getD p.toNat 0 ∈ word m := by simp [List.getD, hl]
    obtain ⟨q, _, hq⟩ := List.mem_map.mp (show (word m).getD p.toNat 0 ∈ (rangeI 16).map _ from e)
    rw [← hq]
    have h1 := Int.fmod_nonneg_of_pos (m.fdiv 16 + oddL.getD (Builtin.bitAnd (m.fmod 16) q).toNat 0) (b := 2) (by decide)
    have h2 := Int.fmod_lt_of_pos (m.fdiv 16 + oddL.getD (Builtin.bitAnd (m.fmod 16) q).toNat 0) (b := 2) (by decide)
    omega
  · left
    simp [List.getD, List.getElem?_eq_none (show (word m).length ≤ p.toNat by rw [word_length]; omega)]
theorem came_length (t : Int) : (cameOf t).length = 16 := by simp [cameOf, rangeI]
theorem rowOf_length (b : List Int) : (rowOf b).length = b.length := by simp [rowOf]
section
variable {B : Base} {n : Nat} {env : Env} {ρ ρc : Rho}
theorem Ev.wordAt {x y : Str} {p1 p2 pos : Pos} {r : List Int} {p : Int} (h1 : (x, is (intsD r)) ∈ ρ) (h2 : (y, is (.int p)) ∈ ρ) (h0 : 0 ≤ p) (hl : p < r.length) (hb : r.length ≤ 1000) (hd1 : (x == ("__debug__" : Str)) = false := by decide) (hd2 : (y == ("__debug__" : Str)) = false := by decide) :
    Ev B n env ρ (.Subscript (.Name x p1) (.Name y p2) pos) (is (.int (r.getD p.toNat 0))) :=
  Ev.item (Ev.name h1 hd1) (Ev.name h2 hd2) h0 (by omega) (get_ints h0 hl)
end
section
variable {B : Base} (M : Mn B)
include M
theorem fn_told2 {n : Nat} {c : List Int} {a b : Int} (h : Tells c a b) (hc : c.length = 16) : Fn B (n + 2) (nm "_law_told") [fl c] (is (intsD [a, b, 1])) := by
  obtain ⟨j, hj, hu, hs, e1, e2⟩ := h
  have := fn_told M (n := n) c j (by omega) (by omega) (fun i hi hne => hu i (by omega) hne) hs
  rw [e1, e2] at this
  exact this
set_option maxHeartbeats 4000000 in
theorem ex_first {n : Nat} {pm code doc : Value} {L ad : Addr} (m above : Int) (P : List Int) (hm : m ∈ rangeI 32) (hP : ∀ p ∈ P, 0 ≤ p ∧ p < 16) (hl : P.length ≤ 16) {l : List Env} {q : Pd}
    (h : ExH B (n + 3) (defEnv (dd 39) pm code doc L ad) l [(nm "taken", is (.int (takenOf (num m above P)))), (nm "number", is (.int (num m above P))), (nm "word", is (intsD (word m))), (nm "message", is (.int m)), (nm "places", is (intsD P))] ((dd 39).body.drop 5) q) :
    ExH B (n + 3) (defEnv (dd 39) pm code doc L ad) l [(nm "message", is (.int m)), (nm "places", is (intsD P)), (nm "above", is (.int above))] (dd 39).body q := by
  refine ExH.cons (ρ₁ := [(nm "word", is (intsD (word m))), (nm "message", is (.int m)), (nm "places", is (intsD P)), (nm "above", is (.int above))]) ?_ ?_
  · refine Ex1.assign ?_
    exact Ev.call (fn_word M m hm) (EvL.cons (Ev.name (by tb_rel)) EvL.nil)
  refine ExH.cons (ρ₁ := [(nm "number", is (.int (above * 65536))), (nm "word", is (intsD (word m))), (nm "message", is (.int m)), (nm "places", is (intsD P))]) ?_ ?_
  · refine Ex1.assign ?_
    exact (EvF.call (fn_mul M above 65536 (.of_right (intBits_le_64 (by decide) (by decide)))) (EvL.cons (Ev.name (by tb_rel)) (EvL.cons Ev.const_int EvL.nil))).ev
  refine ExH.cons (ρ₁ := [(nm "number", is (.int (numA m above))), (nm "word", is (intsD (word m))), (nm "message", is (.int m)), (nm "places", is (intsD P))]) ?_ ?_
  · refine Ex1.for (items := ((rangeI 16).map D.int).map is) (fun i => [(nm "number", is (.int (((rangeI 16).take i).foldl (orW m) (above * 65536)))), (nm "word", is (intsD (word m))), (nm "message", is (.int m)), (nm "places", is (intsD P))])
      (fun i => [(nm "p", is (.int (i : Int))), (nm "number", is (.int (((rangeI 16).take i).foldl (orW m) (above * 65536)))), (nm "word", is (intsD (word m))), (nm "message", is (.int m)), (nm "places", is (intsD P))]) 16 ?_ ?_ ?_ ?_ (.inl ⟨by simp [rangeI], ?_⟩)
    · exact It.range (m := 16) Ev.const_int (mg_range M) mb_range (by decide)
    · intro p hp; exact hp
    · intro i p hp _
      have : p = is (.int (i : Int)) := by
        simp only [rangeI, List.map_map, List.getElem?_map, Option.map_eq_some_iff] at hp
        obtain ⟨a, ha, rfl⟩ := hp
        have := (List.getElem?_eq_some_iff.mp ha).2
        simp at this
        simp [this]
      subst this
      exact AsT.name
    · intro i hi _
      have e : (((rangeI 16).take (i + 1)).foldl (orW m) (above * 65536)) = orW m (((rangeI 16).take i).foldl (orW m) (above * 65536)) (i : Int) := by
        rw [take_succ (rangeI 16) i (i : Int) (by simp [rangeI, hi]), List.foldl_append]; rfl
      show Ex B _ _ _ _ (.next ((nm "number", is (.int (((rangeI 16).take (i + 1)).foldl (orW m) (above * 65536)))) :: _))
      rw [e]
      have hw := word_bit m (i : Int)
      refine Ex.one (Ex1.assign (EvF.call (fn_or_ M _ _) (EvL.cons (Ev.name (by tb_rel)) (EvL.cons (EvF.call (fn_lshift M _ _ (by omega) (by omega) ?_) (EvL.cons (Ev.wordAt (p := (i : Int)) (by tb_rel) (by tb_rel) (by omega) (by rw [word_length]; omega) (by rw [word_length]; omega)) (EvL.cons (Ev.name (by tb_rel)) EvL.nil))).ev EvL.nil))).ev)
      rcases hw with hw | hw <;> (rw [hw]; decide)
    · have e : (rangeI 16).take 16 = rangeI 16 := List.take_of_length_le (by simp [rangeI])
      simp only [e]
      exact Ex.nil
  refine ExH.cons (ρ₁ := [(nm "number", is (.int (num m above P))), (nm "word", is (intsD (word m))), (nm "message", is (.int m)), (nm "places", is (intsD P))]) ?_ ?_
  · refine Ex1.for (items := (P.map D.int).map is) (fun i => [(nm "number", is (.int ((P.take i).foldl xorP (numA m above)))), (nm "word", is (intsD (word m))), (nm "message", is (.int m)), (nm "places", is (intsD P))])
      (fun i => [(nm "p", is (.int (P.getD i 0))), (nm "number", is (.int ((P.take i).foldl xorP (numA m above)))), (nm "word", is (intsD (word m))), (nm "message", is (.int m)), (nm "places", is (intsD P))]) P.length ?_ ?_ ?_ ?_ (.inl ⟨by simp, ?_⟩)
    · refine It.list (ds := P.map D.int) ?_ ?_
      · exact Ev.name (by tb_rel)
      · exact small_le (by simp; omega)
    · intro p hp
      simp only [List.take_zero, List.foldl_nil] at hp
      exact hp
    · intro i p hp _
      have : p = is (.int (P.getD i 0)) := by
        simp only [List.map_map, List.getElem?_map, Option.map_eq_some_iff] at hp
        obtain ⟨a, ha, rfl⟩ := hp
        simp [List.getD, ha]
      subst this
      exact AsT.name
    · intro i hi _
      have hp := hP (P.getD i 0) (by simp [List.getD, hi])
      have e : ((P.take (i + 1)).foldl xorP (numA m above)) = xorP ((P.take i).foldl xorP (numA m above)) (P.getD i 0) := by
        rw [take_succ P i (P.getD i 0) (by simp [List.getD, hi]), List.foldl_append]; rfl
      show Ex B _ _ _ _ (.next ((nm "number", is (.int ((P.take (i + 1)).foldl xorP (numA m above)))) :: _))
      rw [e]
      generalize P.getD i 0 = p at hp
      exact Ex.one (Ex1.assign (EvF.call (fn_xor M _ _) (EvL.cons (Ev.name (by tb_rel)) (EvL.cons (EvF.call (fn_lshift M 1 p (by omega) (by omega) (by decide)) (EvL.cons Ev.const_int (EvL.cons (Ev.name (by tb_rel)) EvL.nil))).ev EvL.nil))).ev)
    · have e : P.take P.length = P := List.take_length
      simp only [e]
      exact Ex.nil
  refine ExH.cons (ρ₁ := [(nm "taken", is (.int (takenOf (num m above P)))), (nm "number", is (.int (num m above P))), (nm "word", is (intsD (word m))), (nm "message", is (.int m)), (nm "places", is (intsD P))]) ?_ h
  refine Ex1.assign ?_
  exact (EvF.call (fn_or_ M _ _) (EvL.cons (EvF.call (fn_ifmt M _) (EvL.cons (Ev.name (by tb_rel)) EvL.nil)).ev (EvL.cons (EvF.call (fn_imode M _) (EvL.cons (Ev.name (by tb_rel)) EvL.nil)).ev EvL.nil))).ev
end
section
variable {B : Base} {n : Nat} {env : Env} {ρ ρc : Rho}
/-- an if that is not taken -/
theorem Ex1.skip {t : Expr} {body : List Stmt} {pos : Pos} {b : Bool} (h : Tr B n env ρ t b) (hb : b = false) : Ex1 B n env ρ (.If t body [] pos) (.next ρ) :=
  Ex1.ite h (fun hc => by rw [hb] at hc; cases hc) (fun _ => Ex.nil)
theorem Tr.neSame {l r : Expr} {pos : Pos} {ns : List Int} (hl : Ev B n env ρ l (is (intsD ns))) (hr : Ev B n env ρ r (is (intsD ns))) (hm : behindInMarks .NotEq r = false := by with_unfolding_all rfl) : Tr B n env ρ (.Compare l [.NotEq] [r] pos) false := by
  have := Tr.cmp (pos := pos) (cm_nel (B := B) (ns := ns) (ms := ns)) hl hr hm
  simpa using this
end
section
variable {B : Base} (M : Mn B)
include M
theorem ev_len {n : Nat} {env : Env} {ρ : Rho} {e : Expr} {P : List Int} {np pos : Pos} (h : Ev B n env ρ e (is (intsD P))) (hl : P.length ≤ 64) (hx : env.kindOf (nm "len") = some .globalImplicit := by rfl) (hs : isStarred e = false := by rfl) :
    Ev B n env ρ (.Call (.Name (nm "len") np) [e] [] pos) (is (.int (P.length : Int))) := by
  have := Ev.callB (np := np) (pos := pos) (bi_len (B := B) (ds := P.map D.int) (small_le (by simpa using hl))) (mg_len M) mb_len (EvL.cons h EvL.nil hs) hx hs
  simpa using this
omit M in
theorem ev_oneMinus {n : Nat} {env : Env} {ρ : Rho} {b : Int} {k1 k2 : Nat} {p1 p2 p3 p4 p5 : Pos} (h : (nm "bit", is (.int b)) ∈ ρ) :
    Ev B n env ρ (.BinOp (.Constant (.int 1) k1 p1) .Sub (.BinOp (.Constant (.int 2) k2 p2) .Mult (.Name (nm "bit") p3) p4) p5) (is (.int (1 - 2 * b))) :=
  (EvF.bin op_sub Ev.const_int (EvF.bin (op_mul (mul_small (by decide) (by decide))) Ev.const_int (Ev.name h)).ev).ev
set_option maxHeartbeats 4000000 in
theorem ex_second {n : Nat} {pm code doc : Value} {L ad : Addr} (m above : Int) (P : List Int) (G : Good m above P) {l : List Env} {q : Pd}
    (h : ExH B (n + 3) (defEnv (dd 39) pm code doc L ad) l [(nm "came", is (intsD (cameOf (takenOf (num m above P))))), (nm "taken", is (.int (takenOf (num m above P)))), (nm "number", is (.int (num m above P))), (nm "word", is (intsD (word m))), (nm "message", is (.int m)), (nm "places", is (intsD P))] ((dd 39).body.drop 10) q) :
    ExH B (n + 3) (defEnv (dd 39) pm code doc L ad) l [(nm "taken", is (.int (takenOf (num m above P)))), (nm "number", is (.int (num m above P))), (nm "word", is (intsD (word m))), (nm "message", is (.int m)), (nm "places", is (intsD P))] ((dd 39).body.drop 5) q := by
  have t0 := G.t0
  have htold := G.told
  have hcross := G.cross
  generalize takenOf (num m above P) = t at *
  generalize num m above P = x at *
  refine ExH.cons (ρ₁ := [(nm "came", is (intsD (cameOf t))), (nm "taken", is (.int t)), (nm "number", is (.int x)), (nm "word", is (intsD (word m))), (nm "message", is (.int m)), (nm "places", is (intsD P))]) ?_ ?_
  · refine Ex1.assign ?_
    refine Ev.compI (cl := [(nm "taken", L + 1 + 1)]) (ρc := [(nm "taken", is (.int t))]) (It.range (m := 16) Ev.const_int (mg_range M) mb_range (by decide)) ?_ ?_
    · ktr_unf
    · intro p hp v C
      obtain ⟨h0, h1⟩ := mem_range hp
      refine (EvF.call (fn_and_ M _ _) (EvL.cons (EvF.call (fn_rshift M t p t0 h0) (EvL.cons ?_ (EvL.cons ?_ EvL.nil))).ev (EvL.ci EvL.nil))).ev
      · exact Ev.name (by tb_rel)
      · exact Ev.name (by tb_rel)
  have hcl := came_length t
  generalize cameOf t = C at *
  refine ExH.cons (ρ₁ := [(nm "row", is (intsD (rowOf C))), (nm "came", is (intsD C)), (nm "taken", is (.int t)), (nm "number", is (.int x)), (nm "word", is (intsD (word m))), (nm "message", is (.int m)), (nm "places", is (intsD P))]) ?_ ?_
  · refine Ex1.assignI (cl := []) (ρc := []) ?_ ?_ ?_
    · refine It.list (ds := C.map D.int) ?_ ?_
      · exact Ev.name (by tb_rel)
      · exact small_le (by simp; omega)
    · ktr_unf
    · intro b hb v C'
      exact ev_oneMinus (by tb_rel)
  have hrl : (rowOf C).length = 16 := by rw [rowOf_length]; exact hcl
  generalize rowOf C = R at *
  refine ExH.cons (ρ₁ := [(nm "crossed", fl (crossed R)), (nm "row", is (intsD R)), (nm "came", is (intsD C)), (nm "taken", is (.int t)), (nm "number", is (.int x)), (nm "word", is (intsD (word m))), (nm "message", is (.int m)), (nm "places", is (intsD P))]) ?_ ?_
  · refine Ex1.assign ?_
    refine Ev.call (fn_crossed M R hrl) (EvL.cons ?_ EvL.nil)
    exact Ev.name (by tb_rel)
  have hxl := crossed_length R
  refine ExH.cons (ρ₁ := [(nm "crossed", fl (crossed R)), (nm "row", is (intsD R)), (nm "came", is (intsD C)), (nm "taken", is (.int t)), (nm "number", is (.int x)), (nm "word", is (intsD (word m))), (nm "message", is (.int m)), (nm "places", is (intsD P))]) ?_ ?_
  · refine Ex1.skip (b := false) ?_ rfl
    refine Tr.neSame (ns := [m, 16 - 2 * (P.length : Int), 1]) ?_ ?_
    · refine Ev.call (fn_told2 M htold hxl) (EvL.cons ?_ EvL.nil)
      exact Ev.name (by tb_rel)
    · refine Ev.list (ds := [m, 16 - 2 * (P.length : Int), 1].map D.int) ?_ (small_le (by simp))
      refine EvL.cons ?_ (EvL.cons ?_ (EvL.ci EvL.nil))
      · exact Ev.name (by tb_rel)
      · refine (EvF.bin op_sub Ev.const_int (EvF.bin (op_mul (mul_small (by decide) (by decide))) Ev.const_int ?_).ev).ev
        refine ev_len M ?_ (by have := G.pl; omega)
        exact Ev.name (by tb_rel)
  refine ExH.cons (ρ₁ := [(nm "crossed", fl (crossed R)), (nm "row", is (intsD R)), (nm "came", is (intsD C)), (nm "taken", is (.int t)), (nm "number", is (.int x)), (nm "word", is (intsD (word m))), (nm "message", is (.int m)), (nm "places", is (intsD P))]) ?_ ?_
  · refine Ex1.skip (b := false) ?_ rfl
    refine Tr.neSame (ns := R.map fun x => 16 * x) ?_ ?_
    · rw [← hcross]
      refine Ev.mono (p := fl (crossed (crossed R))) ?_ fun _ _ _ x => fl_is x
      refine Ev.call (fn_crossed M (crossed R) hxl) (EvL.cons ?_ EvL.nil)
      refine Ev.mono (p := fl (crossed R)) ?_ fun _ _ _ x => fl_is x
      exact Ev.name (by tb_rel)
    · refine Ev.compI (cl := []) (ρc := []) ?_ ?_ ?_
      · refine It.list (ds := R.map D.int) ?_ ?_
        · exact Ev.name (by tb_rel)
        · exact small_le (by simp; omega)
      · ktr_unf
      · intro b hb v C'
        refine (EvF.bin (op_mul (mul_small (by decide) (by decide))) Ev.const_int ?_).ev
        exact Ev.name (by tb_rel)
  exact h.sub (by ktr_rel)
end
/-- data as the library says it -/
theorem reads_two {h : Heap} {v : Value} {a b : List Int} (x : Is h v (.tup [intsD a, intsD b])) : ∃ as, Reads h v (.tuple [.list (a.map .int), .list (b.map .int)]) as := by
  cases x with | tup ht r =>
  cases r with | cons i1 r =>
  cases r with | cons i2 r =>
  cases r
  cases i1 with | list l1 r1 =>
  cases i2 with | list l2 r2 =>
  obtain ⟨o, ho, hc, n, hd⟩ := ht
  exact ⟨_, reads_tuple_at ho hc hd (.cons (reads_newData l1 (ke_carried (ints_are r1))) (.cons (reads_newData l2 (ke_carried (ints_are r2))) .nil))⟩
theorem shaped_two (a b : List Int) : SeqAt.shaped (.tuple [.list (a.map PyData.int), .list (b.map PyData.int)]) = true := by
  simp [SeqAt.shaped, PyData.canLay0, PyData.canLayAll0, PyData.depth, PyData.depthAll, ke_canLayAll0, ke_depthAll]
theorem ne_two {prog : Program} {w : World} {A : Around} {E : Value → Shared → Prop} {s : Shared} {v v' : Value} {a b c d : List Int} {Q : Value → Shared → Prop} (x : Is s.heap v (.tup [intsD a, intsD b])) (y : Is s.heap v' (.tup [intsD c, intsD d])) (hu : A.units + 64 < cLine)
    (h : Q (.bool (!(decide (a = c) && decide (b = d)))) s) : wpAny (model prog w) A (compareOp .NotEq v v') Q E s := by
  obtain ⟨as, rx⟩ := reads_two x
  obtain ⟨bs, ry⟩ := reads_two y
  refine ne_dataH rx ry (shaped_two _ _) (shaped_two _ _) hu ?_
  have e : PyData.eqv (.tuple [.list (a.map .int), .list (b.map .int)]) (.tuple [.list (c.map .int), .list (d.map .int)]) = (decide (a = c) && decide (b = d)) := by
    simp [PyData.eqv, PyData.eqvAll, ked_eqvAll]
  rw [e]; exact h
theorem onesOf_length (w : List Int) : (onesOf w).length ≤ 16 := Nat.le_trans (List.length_filter_le _ _) (by simp [rangeI])
theorem heS_get {he : Addr → Option Obj} {S : List Addr} {h h' : Heap} {L : Addr} {o : Obj} (hL : L ∈ S) (e : h.get? L = some o) (k : ∀ b o, b ∈ S → h.get? b = some o → ∃ sl, h'.get? b = some { o with slots := sl }) : ∃ sl, heS he S h' L = some { o with slots := sl } := by
  obtain ⟨sl, e'⟩ := k L o hL e
  exact ⟨sl, by rw [heS_on hL]; exact e'⟩
section
variable {B : Base} (M : Mn B)
include M
omit M in
theorem ev_wordIs {n : Nat} {env : Env} {ρ : Rho} {x : Str} {r : List Int} {p c : Int} {k : Nat} {p1 p2 p3 p4 p5 : Pos} (h1 : (x, is (intsD r)) ∈ ρ) (h2 : (nm "p", is (.int p)) ∈ ρ) (h0 : 0 ≤ p) (hl : p < r.length) (hb : r.length ≤ 1000) (hd1 : (x == ("__debug__" : Str)) = false := by decide) :
    Tr B n env ρ (.Compare (.Subscript (.Name x p1) (.Name (nm "p") p2) p3) [.Eq] [.Constant (.int c) k p4] p5) (r.getD p.toNat 0 == c) :=
  Tr.cmp cm_eq (Ev.wordAt h1 h2 h0 hl hb hd1) Ev.const_int
set_option maxHeartbeats 8000000 in
theorem ex_block {n : Nat} {pm code doc : Value} {L ad : Addr} (m : Int) (P C : List Int) (hP : ∀ p ∈ P, 0 ≤ p ∧ p < 16) (hPl : P.length ≤ 16) (hC : C.length = 16) (hulr : ulrF (onesOf (word m)).reverse [] (onesOf C) = (due1 m P, due2 m P)) {t x : Int} {l : List Env} {q : Pd}
    (h : ExH B (n + 3) (defEnv (dd 39) pm code doc L ad) l [(nm "came", is (intsD C)), (nm "taken", is (.int t)), (nm "number", is (.int x)), (nm "word", is (intsD (word m))), (nm "message", is (.int m)), (nm "places", is (intsD P))] ((dd 39).body.drop 13) q) :
    ExH B (n + 3) (defEnv (dd 39) pm code doc L ad) l [(nm "came", is (intsD C)), (nm "taken", is (.int t)), (nm "number", is (.int x)), (nm "word", is (intsD (word m))), (nm "message", is (.int m)), (nm "places", is (intsD P))] ((dd 39).body.drop 10) q := by
  intro A s he Q E ro hf hon F hq
  have hwl := word_length m
  generalize hW : word m = W at *
  -- pinned facts, all else held fast
  have Fp : Fm B (defEnv (dd 39) pm code doc L ad) (hid (defEnv (dd 39) pm code doc L ad) s.heap) s.heap s.toks [(nm "came", is (intsD C)), (nm "taken", is (.int t)), (nm "number", is (.int x)), (nm "word", is (intsD W)), (nm "message", is (.int m)), (nm "places", is (intsD P)),
    (nm "came", pin s.heap s.toks (is (intsD C))), (nm "taken", pin s.heap s.toks (is (.int t))), (nm "number", pin s.heap s.toks (is (.int x))), (nm "word", pin s.heap s.toks (is (intsD W))), (nm "message", pin s.heap s.toks (is (.int m))), (nm "places", pin s.heap s.toks (is (intsD P)))] := F.pins.hide
  -- ones
  refine wpAny_execs_cons (assignIf_at (cl := [(nm "word", L + 1)]) (ρc := [(nm "word", is (intsD W))]) (xs := rangeI 16) (keep := fun p => W.getD p.toNat 0 == 1) (f := fun p => p) (q := npl s.heap (onesOf W))
    (ρ' := [(nm "came", is (intsD C)), (nm "word", is (intsD W)), (nm "places", is (intsD P)), (nm "came", pin s.heap s.toks (is (intsD C))), (nm "taken", pin s.heap s.toks (is (.int t))), (nm "number", pin s.heap s.toks (is (.int x))), (nm "word", pin s.heap s.toks (is (intsD W))), (nm "message", pin s.heap s.toks (is (.int m))), (nm "places", pin s.heap s.toks (is (intsD P)))])
    (It.range (m := 16) Ev.const_int (mg_range M) mb_range (by decide)) ?_ ?_ ?_ ro Fp ?_ (fun h1 tk1 F1 l1 => ?_))
  · ktr_unf
  · intro p hp v C'
    obtain ⟨h0, h1⟩ := mem_range hp
    exact ev_wordIs (by tb_rel) (by tb_rel) h0 (by rw [hwl]; omega) (by omega)
  · intro p hp _ v C'
    exact Ev.name (by tb_rel)
  · intro h' k a ys hn hl hi
    exact ⟨a, ys, rfl, hn, hl, by simpa [onesOf] using hi⟩
  have l1' : s.toks ≤ tk1 := l1
  obtain ⟨D, hD0, vsD, pD, iD, F1'⟩ : ∃ D, s.heap.get? D = none ∧ ∃ vs, h1.PlainList D vs.toArray ∧ IntsAre vs (onesOf W) ∧ Fm B (defEnv (dd 39) pm code doc L ad) (hid (defEnv (dd 39) pm code doc L ad) s.heap) h1 tk1
      [(nm "ones", plD D (onesOf W)), (nm "came", is (intsD C)), (nm "word", is (intsD W)), (nm "places", is (intsD P)), (nm "came", pin s.heap s.toks (is (intsD C))), (nm "taken", pin s.heap s.toks (is (.int t))), (nm "number", pin s.heap s.toks (is (.int x))), (nm "word", pin s.heap s.toks (is (intsD W))), (nm "message", pin s.heap s.toks (is (.int m))), (nm "places", pin s.heap s.toks (is (intsD P)))] := by
    obtain ⟨mm, hn, hv⟩ := F1.rd.ns
    obtain ⟨u, ⟨D, vs, rfl, hD, hp, hi⟩, hw⟩ := hv _ _ (.head _)
    refine ⟨D, hD, vs, hp, hi, ⟨F1.rd.ok, F1.rd.base, F1.rd.pos, mm, hn, fun y q hm => ?_⟩, F1.keep, F1.baseIn, F1.loc, F1.cells, F1.inj⟩
    rcases List.mem_cons.mp hm with hm | hm
    · cases hm
      exact ⟨_, ⟨rfl, vs, hp, hi⟩, hw⟩
    · exact hv y q (.tail _ hm)
  -- due
  refine wpAny_execs_cons ((Ex1.assign (p := tupP [neD D (due1 m P), neD D (due2 m P)])
    (ρ' := [(nm "ones", plD D (onesOf W)), (nm "came", is (intsD C)), (nm "came", pin s.heap s.toks (is (intsD C))), (nm "taken", pin s.heap s.toks (is (.int t))), (nm "number", pin s.heap s.toks (is (.int x))), (nm "word", pin s.heap s.toks (is (intsD W))), (nm "message", pin s.heap s.toks (is (.int m))), (nm "places", pin s.heap s.toks (is (intsD P)))]) ?_) A { s with heap := h1, toks := tk1 } _ _ _ ro F1' (fun h2 tk2 F2 l2 => ?_))
  · refine Ev.tupP (EvL.cons ?_ (EvL.cons ?_ EvL.nil)) (small_le (by simp))
    · refine Ev.compIfN (cl := [(nm "word", L + 1)]) (ρc := [(nm "word", is (intsD W))]) (xs := P.reverse) (keep := fun p => W.getD p.toNat 0 == 1) (f := fun p => p) ?_ ?_ ?_ ?_ ?_
      · have e : P.reverse = pickNums P none none (some (-1)) := (pick_rev P).symm
        rw [e]
        refine It.list (ds := (pickNums P none none (some (-1))).map Mine.D.int) ?_ ?_
        · refine Ev.slice ?_ EvP.none EvP.none (EvP.some (EvF.neg Ev.const_int).ev) (by decide) (small_le (by omega))
          exact Ev.name (by tb_rel)
        · rw [← e]; exact small_le (by simp; omega)
      · ktr_unf
      · intro p hp v C'
        obtain ⟨h0, h1⟩ := hP p (List.mem_reverse.mp hp)
        exact ev_wordIs (by tb_rel) (by tb_rel) h0 (by rw [hwl]; omega) (by omega)
      · intro p hp _ v C'
        exact Ev.name (by tb_rel)
      · intro s' h' k a ys rd hn hl hi
        obtain ⟨u, rfl, vs, ⟨nn, e⟩, _⟩ := rd.get (x := nm "ones") (p := plD D (onesOf W)) (by tb_rel)
        refine ⟨a, ys, rfl, ?_, hl, by simpa [due1, hW] using hi⟩
        rintro rfl
        rw [hn] at e; cases e
    · refine Ev.compIfN (cl := [(nm "word", L + 1)]) (ρc := [(nm "word", is (intsD W))]) (xs := P) (keep := fun p => W.getD p.toNat 0 == 0) (f := fun p => p) ?_ ?_ ?_ ?_ ?_
      · refine It.list (ds := P.map Mine.D.int) ?_ ?_
        · exact Ev.name (by tb_rel)
        · exact small_le (by simp; omega)
      · ktr_unf
      · intro p hp v C'
        obtain ⟨h0, h1⟩ := hP p hp
        exact ev_wordIs (by tb_rel) (by tb_rel) h0 (by rw [hwl]; omega) (by omega)
      · intro p hp _ v C'
        exact Ev.name (by tb_rel)
      · intro s' h' k a ys rd hn hl hi
        obtain ⟨u, rfl, vs, ⟨nn, e⟩, _⟩ := rd.get (x := nm "ones") (p := plD D (onesOf W)) (by tb_rel)
        refine ⟨a, ys, rfl, ?_, hl, by simpa [due2, hW] using hi⟩
        rintro rfl
        rw [hn] at e; cases e
  have l2' : tk1 ≤ tk2 := l2
  obtain ⟨T, a1, a2, v1, v2, hT, ne1, ne2, pl1, il1, pl2, il2, F2'⟩ : ∃ T a1 a2 v1 v2, IsTup h2 T #[.ref a1, .ref a2] ∧ a1 ≠ D ∧ a2 ≠ D ∧ h2.PlainList a1 (v1 : List Value).toArray ∧ IntsAre v1 (due1 m P) ∧ h2.PlainList a2 (v2 : List Value).toArray ∧ IntsAre v2 (due2 m P) ∧
      Fm B (defEnv (dd 39) pm code doc L ad) (hid (defEnv (dd 39) pm code doc L ad) s.heap) h2 tk2
      [(nm "due", same (.ref T)), (nm "ones", plD D (onesOf W)), (nm "came", is (intsD C)), (nm "came", pin s.heap s.toks (is (intsD C))), (nm "taken", pin s.heap s.toks (is (.int t))), (nm "number", pin s.heap s.toks (is (.int x))), (nm "word", pin s.heap s.toks (is (intsD W))), (nm "message", pin s.heap s.toks (is (.int m))), (nm "places", pin s.heap s.toks (is (intsD P)))] := by
    obtain ⟨mm, hn, hv⟩ := F2.rd.ns
    obtain ⟨u, ⟨T, vs, rfl, hT, al⟩, hw⟩ := hv _ _ (.head _)
    cases al with | cons i1 r =>
    cases r with | cons i2 r =>
    cases r
    obtain ⟨a1, v1, rfl, ne1, pl1, il1⟩ := i1
    obtain ⟨a2, v2, rfl, ne2, pl2, il2⟩ := i2
    refine ⟨T, a1, a2, v1, v2, hT, ne1, ne2, pl1, il1, pl2, il2, ⟨F2.rd.ok, F2.rd.base, F2.rd.pos, mm, hn, fun y q hm => ?_⟩, F2.keep, F2.baseIn, F2.loc, F2.cells, F2.inj⟩
    rcases List.mem_cons.mp hm with hm | hm
    · cases hm
      exact ⟨_, rfl, hw⟩
    · exact hv y q (.tail _ hm)
  clear F2 F1' F1 pD iD
  obtain ⟨vsD2, pD2, iD2⟩ : ∃ vs, h2.PlainList D vs.toArray ∧ IntsAre vs (onesOf W) := by
    obtain ⟨u, hu⟩ := F2'.rd.get (x := nm "ones") (p := plD D (onesOf W)) (by tb_rel)
    exact hu.2
  obtain ⟨oT, eT, cT, nT, dT⟩ := hT
  obtain ⟨nD, eD⟩ := id pD2
  obtain ⟨n1, e1⟩ := id pl1
  obtain ⟨n2, e2⟩ := id pl2
  have hTD : T ≠ D := by
    rintro rfl
    rw [eT] at eD; cases eD
    exact absurd cT (show ¬ (Value.type "list" = .type "tuple") by decide)
  -- the call
  obtain ⟨af, of', fd, hg, hof, hdat, hcall⟩ := fn_ulr M (n := n + 2)
  refine wpAny_execs_cons (wpAny_If (wpAny_isTrue_Compare1 ?_))
  refine Call_ (glob_name (s := { s with heap := h2, toks := tk2 }) F2'.rd rfl hg ?_)
  refine callWith_function (o := of') (fd := fd) ?_
  rw [star_cons _ _ rfl]
  refine evalArgs_plain (spliced_cons ?_)
  refine name_raw (s := { s with heap := h2, toks := tk2 }) F2'.rd (p := plD D (onesOf W)) (by tb_rel) (by decide) fun u hu => ?_
  obtain rfl : u = .ref D := hu.1
  rw [star_cons _ _ rfl]
  refine spliced_cons ?_
  refine compIf_at (s := { s with heap := h2, toks := tk2 }) (ρ := [(nm "due", same (.ref T)), (nm "ones", plD D (onesOf W)), (nm "came", is (intsD C)), (nm "came", pin s.heap s.toks (is (intsD C))), (nm "taken", pin s.heap s.toks (is (.int t))), (nm "number", pin s.heap s.toks (is (.int x))), (nm "word", pin s.heap s.toks (is (intsD W))), (nm "message", pin s.heap s.toks (is (.int m))), (nm "places", pin s.heap s.toks (is (intsD P)))])
    (cl := [(nm "came", L + 1 + 1 + 1)]) (ρc := [(nm "came", is (intsD C))]) (xs := rangeI 16) (keep := fun p => C.getD p.toNat 0 == 1) (f := fun p => p) (It.range (m := 16) Ev.const_int (mg_range M) mb_range (by decide)) ?_ ?_ ?_ ro F2'.rd (fun h3 tk3 a' ys k3 l3 hn3 hl3 hi3 => spliced_nil ?_)
  · ktr_unf
  · intro p hp v C'
    obtain ⟨h0, h1⟩ := mem_range hp
    exact ev_wordIs (by tb_rel) (by tb_rel) h0 (by rw [hC]; omega) (by omega)
  · intro p hp _ v C'
    exact Ev.name (by tb_rel)
  have k3' : Kp h2 h3 := k3
  have l3' : tk2 ≤ tk3 := l3
  have hn3' : h2.get? a' = none := hn3
  have F3 := F2'.keeps k3' l3'
  have hi3' : IntsAre ys (onesOf C) := by simpa [onesOf] using hi3
  refine ⟨⟨F3.rd.base _ _ hof, hdat⟩, ?_⟩
  -- what is known of the addresses
  have hheD : hid (defEnv (dd 39) pm code doc L ad) s.heap D = none := by
    cases e : hid (defEnv (dd 39) pm code doc L ad) s.heap D with
    | none => rfl
    | some o => have := hid_some e; rw [hD0] at this; cases this
  have hheA : hid (defEnv (dd 39) pm code doc L ad) s.heap a' = none := by
    cases e : hid (defEnv (dd 39) pm code doc L ad) s.heap a' with
    | none => rfl
    | some o => have := F2'.keep _ _ e; rw [hn3'] at this; cases this
  have honh : FrOn B (hid (defEnv (dd 39) pm code doc L ad) s.heap) l := fun e he' => by
    obtain ⟨q1, L', o', q2, q3, q4, q5, q6⟩ := hon e he'
    exact ⟨q1, L', o', q2, q3, F.le_hid q4, q5, q6⟩
  have hb0 : ∀ b, hid (defEnv (dd 39) pm code doc L ad) s.heap b = none → B.b₀.get? b = none := fun b e => by
    cases q : B.b₀.get? b with
    | none => rfl
    | some o => have := F2'.baseIn _ _ q; rw [e] at this; cases this
  have hfmS : (defEnv (dd 39) pm code doc L ad :: l).filterMap (·.frame) = (defEnv (dd 39) pm code doc L ad).locals :: l.filterMap (·.frame) := rfl
  have hnotS : ∀ b vs nn, hid (defEnv (dd 39) pm code doc L ad) s.heap b = none → h3.get? b = some { cls := .type "list", data := .seq vs nn } → b ∉ (defEnv (dd 39) pm code doc L ad :: l).filterMap (·.frame) := fun b vs nn e e' hm => by
    rw [hfmS] at hm
    rcases List.mem_cons.mp hm with hm | hm
    · obtain ⟨mm, ⟨oL, es, ep, ho, hd, _⟩, _⟩ := F3.rd.ns
      rw [← hm, e'] at ho; cases ho; cases hd
    · obtain ⟨_, o', ho', _⟩ := honh.mem hm
      rw [e] at ho'; cases ho'
  obtain ⟨na', ea'⟩ := id hl3
  have hDa : D ≠ a' := by rintro rfl; rw [hn3'] at eD; cases eD
  obtain ⟨mL, hnsL, _⟩ := id F3.rd.ns
  have hFr3 : h3.FunFrames B.b₀ (defEnv (dd 39) pm code doc L ad :: l) := .cons (L := (defEnv (dd 39) pm code doc L ad).locals) (by rw [F3.rd.ok.k]; decide) rfl hnsL (hb0 _ F3.loc) (honh.funs F3.keep)
  refine hcall A { s with heap := h3, toks := tk3 } (defEnv (dd 39) pm code doc L ad :: l) D a' vsD2 ys (onesOf W) (onesOf C) _ _ ro hf hFr3 F3.rd.base F3.rd.pos (pD2.at fun o e => k3' _ _ e) iD2 hl3 hi3' hDa (hb0 _ hheD) (hb0 _ hheA)
    (hnotS D _ nD hheD (k3' _ _ eD)) (hnotS a' _ na' hheA ea') (Nat.le_trans (onesOf_length _) (by decide)) (Nat.le_trans (onesOf_length _) (by decide)) (fun T' h4 tk4 kx l4 hIs => ?_)
  have l4' : tk3 ≤ tk4 := l4
  rw [hulr] at hIs
  rw [hfmS] at kx
  have kx' : KpX ((defEnv (dd 39) pm code doc L ad).locals :: l.filterMap (·.frame)) [D, a'] h3 h4 := kx
  have F3s := F3.sub (ρ' := [(nm "due", same (.ref T)), (nm "came", pin s.heap s.toks (is (intsD C))), (nm "taken", pin s.heap s.toks (is (.int t))), (nm "number", pin s.heap s.toks (is (.int x))), (nm "word", pin s.heap s.toks (is (intsD W))), (nm "message", pin s.heap s.toks (is (.int m))), (nm "places", pin s.heap s.toks (is (intsD P)))]) (by ktr_rel)
  have F4 := F3s.slots kx' (fun b hb => by
    rcases List.mem_cons.mp hb with rfl | hb
    · exact ⟨hheD, fun ob e => by rw [k3' _ _ eD] at e; cases e; exact ⟨_, _, rfl⟩⟩
    · rw [List.mem_singleton.mp hb]
      exact ⟨hheA, fun ob e => by rw [ea'] at e; cases e; exact ⟨_, _, rfl⟩⟩) (fun b hb => by
    obtain ⟨q1, o', q2, _⟩ := honh.mem hb
    exact ⟨q1, by rw [q2]; rfl⟩) (allFree_cons free_same (allFree_cons free_pin (allFree_cons free_pin (allFree_cons free_pin (allFree_cons free_pin (allFree_cons free_pin (allFree_cons free_pin allFree_nil))))))) l4'
  refine name_raw (s := { s with heap := h4, toks := tk4 }) F4.rd (p := same (.ref T)) (by tb_rel) (by decide) fun u hu => ?_
  obtain rfl : u = .ref T := hu
  -- what due is now
  have keep4 : ∀ b o vs nn, h2.get? b = some o → o.data = .seq vs nn → b ≠ D → h4.get? b = some o := fun b o vs nn e hd hne => by
    have e3 := k3' _ _ e
    refine kx'.keep b o (fun hm => ?_) (fun hm => ?_) e3
    · rcases List.mem_cons.mp hm with hm | hm
      · obtain ⟨oL, es, ep, ho, hd', _⟩ := hnsL
        rw [← hm, e3] at ho; cases ho
        rw [hd] at hd'; cases hd'
      · obtain ⟨_, o', ho', hns⟩ := honh.mem hm
        have := F3.keep _ _ ho'
        rw [e3] at this; cases this
        exact hns _ _ hd
    · rcases List.mem_cons.mp hm with rfl | hm
      · exact hne rfl
      · rw [List.mem_singleton.mp hm] at e
        rw [hn3'] at e; cases e
  have hIs2 : Is h4 (.ref T) (.tup [intsD (due1 m P), intsD (due2 m P)]) := by
    refine .tup (vs := [.ref a1, .ref a2]) ⟨oT, keep4 T oT _ _ eT dT hTD, cT, nT, dT⟩ (.cons (.list ⟨_, keep4 a1 _ _ _ e1 rfl ne1, rfl, n1, rfl⟩ (are_ints il1)) (.cons (.list ⟨_, keep4 a2 _ _ _ e2 rfl ne2, rfl, n2, rfl⟩ (are_ints il2)) .nil))
  refine ne_two (s := { s with heap := h4, toks := tk4 }) hIs hIs2 ro.units ?_
  refine wpAny_truthy_bool ?_
  simp only [decide_true, Bool.and_self, Bool.not_true]
  show wpAny _ A (execs [] _) _ _ _
  refine wpAny_execs_nil ?_
  -- back to what was known
  have FN0 : Fm B (defEnv (dd 39) pm code doc L ad) (heS he (l.filterMap (·.frame)) h4) h4 tk4 (Mine.pins s.heap s.toks [(nm "came", is (intsD C)), (nm "taken", is (.int t)), (nm "number", is (.int x)), (nm "word", is (intsD W)), (nm "message", is (.int m)), (nm "places", is (intsD P))]) := by
    refine (F4.unhide (fun b o e => ?_) (fun b o e => ?_)).sub ?_
    · by_cases hb : b ∈ l.filterMap (·.frame)
      · rw [heS_on hb] at e ⊢; exact e
      · rw [heS_off hb] at e ⊢; exact F.le_hid e
    · have hb : b ∉ l.filterMap (·.frame) := fun hm => by rw [(hon.mem hm).1] at e; cases e
      rw [heS_off hb]; exact F.baseIn b o e
    · simp only [Mine.pins, List.map_cons, List.map_nil]
      ktr_rel
  have FN := FN0.unpin (fun b o vs nn e hd => by
    have hh : hid (defEnv (dd 39) pm code doc L ad) s.heap b = some o := F.hid_data e (.inr ⟨_, _, hd⟩)
    have hbS : b ∉ l.filterMap (·.frame) := fun hm => by
      obtain ⟨_, o', ho', hns⟩ := honh.mem hm
      rw [hh] at ho'; cases ho'
      exact hns _ _ hd
    exact F4.keep b o (by rw [heS_off hbS]; exact hh)) (by omega)
  have slotsN : ∀ b o, b ∈ l.filterMap (·.frame) → he b = some o → ∃ sl, heS he (l.filterMap (·.frame)) h4 b = some { o with slots := sl } := fun b o hb e =>
    heS_get (h := h3) hb (F3.keep b o (F.le_hid e)) fun b o hb e => kx'.slots b o (.tail _ hb) e
  have honN : FrOn B (heS he (l.filterMap (·.frame)) h4) l := fun e he' => by
    obtain ⟨q1, L', o', q2, q3, q4, q5, q6⟩ := hon e he'
    obtain ⟨sl, q7⟩ := slotsN L' o' (List.mem_filterMap.mpr ⟨e, he', q2⟩) q4
    exact ⟨q1, L', _, q2, q3, q7, q5, q6⟩
  refine h A { s with heap := h4, toks := tk4 } (heS he (l.filterMap (·.frame)) h4) Q E ro hf honN FN fun v h' tk' he' F' q1 q2 l' hv => ?_
  have l'' : tk4 ≤ tk' := l'
  refine hq v h' tk' he' F' (fun b hb => by rw [q1 b hb, heS_off hb]) (fun b o hb e => ?_) (by omega) hv
  obtain ⟨sl, e'⟩ := slotsN b o hb e
  obtain ⟨sl2, e''⟩ := q2 b _ hb e'
  exact ⟨sl2, e''⟩
end
section
variable {B : Base} {n : Nat} {env : Env} {ρ ρc : Rho}
theorem Ev.eqSame {l r : Expr} {pos : Pos} {ns : List Int} (hl : Ev B n env ρ l (is (intsD ns))) (hr : Ev B n env ρ r (is (intsD ns))) (hm : behindInMarks .Eq r = false := by with_unfolding_all rfl) : Ev B n env ρ (.Compare l [.Eq] [r] pos) (is (.bool true)) := by
  have := Ev.cmp (pos := pos) (cm_eql (B := B) (ns := ns) (ms := ns)) hl hr hm
  simpa using this
/-- a def that may turn the callers' frames' slots -/
noncomputable def FnH (B : Base) (n : Nat) (x : Str) (ps : List Pd) (p : Pd) : Prop := ∃ a o fd, B.mg x = some (.ref a) ∧ B.b₀.get? a = some o ∧ o.data = .func fd ∧
  ∀ (A : Around) (s : Shared) (l : List Env) (vs : List Value) (Q E : Value → Shared → Prop), Room A n → A.frames = some l → FrOn B s.heap.get? l → Kp B.b₀ s.heap → B.lo ≤ s.toks → All s.heap s.toks vs ps →
    (∀ v h' tk', KpX (l.filterMap (·.frame)) [] s.heap h' → s.toks ≤ tk' → p.P h' tk' v → Q v { s with heap := h', toks := tk' }) → wpAny (model B.prog B.w) A (call (.ref a) vs) Q E s
theorem FnH.of {d : DefRec} {xs : List Str} {ps : List Pd} {p : Pd} (D : Def B d xs) (hl : xs.length = ps.length) (h : ∀ pm code doc L a l, ExH B n (defEnv d pm code doc L a) l (Binds xs ps) d.body p) : FnH B (n + 1) d.name ps p := by
  obtain ⟨a, o, pm, code, doc, hg, ho, hdat, hcd⟩ := B.T.fn d D.mem
  refine ⟨a, o, _, hg, ho, hdat, fun A s l vs Q E ro hf hon kb kp al hq => wpAny_call ?_⟩
  refine enter ro kb kp al (xs := xs) (by rw [al.length, hl]) ho hdat hcd rfl rfl rfl rfl D.co D.gen D.k (D.bind _ _ _ _ (by rw [al.length, hl])) D.nd D.kind fun L he h₁ tk₁ hin hout htk F => ?_
  have hon' : FrOn B he l := fun e he' => by
    obtain ⟨q1, L', o', q2, q3, q4, q5, q6⟩ := hon e he'
    exact ⟨q1, L', o', q2, q3, hin _ _ q4, q5, q6⟩
  refine h pm code doc L a l _ { s with heap := h₁, toks := tk₁ } he _ _ ro.deeper (Around.frames_deeper hf) hon' F fun v h' tk' he' F' q1 q2 l' hv => ?_
  have l'' : tk₁ ≤ tk' := l'
  refine hq v h' tk' ⟨fun b o hb _ e => F'.keep b o (by rw [q1 b hb]; exact hin b o e), fun b o hb e => ?_⟩ (Nat.le_trans htk l'') hv
  obtain ⟨sl, e'⟩ := q2 b o hb (hin b o e)
  exact ⟨sl, F'.keep b _ e'⟩
end
section
variable {B : Base} (M : Mn B)
include M
theorem ev_lens {n : Nat} {env : Env} {ρ : Rho} {e : Expr} {x : Str} {np pos : Pos} (h : Ev B n env ρ e (is (.str x))) (hl : x.cps.size ≤ 64) (hx : env.kindOf (nm "len") = some .globalImplicit := by rfl) (hs : isStarred e = false := by rfl) :
    Ev B n env ρ (.Call (.Name (nm "len") np) [e] [] pos) (is (.int (x.cps.size : Int))) :=
  Ev.callB (np := np) (pos := pos) (bi_lens (B := B) (x := x) (small_le hl)) (mg_len M) mb_len (EvL.cons h EvL.nil hs) hx hs
set_option maxHeartbeats 8000000 in
theorem ex_last {n : Nat} (T : Tab B) {pm code doc : Value} {L ad : Addr} (m above : Int) (P : List Int) (G : Good m above P) {l : List Env} :
    ExH B (n + 3) (defEnv (dd 39) pm code doc L ad) l [(nm "came", is (intsD (cameOf (takenOf (num m above P))))), (nm "taken", is (.int (takenOf (num m above P)))), (nm "number", is (.int (num m above P))), (nm "word", is (intsD (word m))), (nm "message", is (.int m)), (nm "places", is (intsD P))] ((dd 39).body.drop 13) (is (.bool true)) := by
  have t0 := G.t0
  have t1 := G.t1
  have hsz := G.sz
  have hkind := G.kind
  have hrights := G.rights
  have htold2 := G.told2
  have hPl := G.pl
  generalize takenOf (num m above P) = t at *
  generalize num m above P = x at *
  have hC := came_length t
  generalize cameOf t = C at *
  refine ExH.cons (ρ₁ := [(nm "signs", is (.str (modeStr x))), (nm "came", is (intsD C)), (nm "taken", is (.int t)), (nm "message", is (.int m)), (nm "places", is (intsD P))]) ?_ ?_
  · refine Ex1.assign ?_
    refine Ev.call (fn_filemode M T x) (EvL.cons ?_ EvL.nil)
    exact Ev.name (by tb_rel)
  generalize modeStr x = S at *
  refine ExH.cons (ρ₁ := [(nm "signs", is (.str S)), (nm "came", is (intsD C)), (nm "taken", is (.int t)), (nm "message", is (.int m)), (nm "places", is (intsD P))]) ?_ ?_
  · refine Ex1.skip (b := ((S.cps.size : Int) != 10 || ((⟨#[cat S 0]⟩ : Str).cps.toList != (⟨#[cat (nm "?pc?d?b?-?l?s???") (t.fdiv 4096).toNat]⟩ : Str).cps.toList))) ?_ ?_
    · refine Tr.or2 ?_ (fun _ => ?_)
      · refine Tr.cmp cm_ne ?_ Ev.const_int
        refine ev_lens M ?_ (by omega)
        exact Ev.name (by tb_rel)
      · refine Tr.cmp (a := is (.str ⟨#[cat S 0]⟩)) (b := is (.str ⟨#[cat (nm "?pc?d?b?-?l?s???") (t.fdiv 4096).toNat]⟩)) cm_nes ?_ ?_
        · refine Ev.charN (k := 0) (j := 0) ?_ Ev.const_int rfl (by omega) (by omega)
          exact Ev.name (by tb_rel)
        · have hf : t.fdiv 4096 = t.fdiv (2 ^ (12 : Int).toNat) := rfl
          have h0 : 0 ≤ t.fdiv 4096 := Int.fdiv_nonneg t0 (by decide)
          have h1 : t.fdiv 4096 < 16 := by
            rw [Int.fdiv_eq_ediv_of_nonneg _ (by decide)]
            omega
          refine Ev.charAt (k := t.fdiv 4096) Ev.const_str ?_ h0 ?_ ?_
          · rw [hf]
            refine (EvF.call (fn_rshift M t 12 t0 (by decide)) (EvL.cons ?_ (EvL.ci EvL.nil))).ev
            exact Ev.name (by tb_rel)
          · have : (nm "?pc?d?b?-?l?s???").cps.size = 16 := by decide
            omega
          · decide
    · rw [hsz, hkind]
      simp
  refine ExH.cons (ρ₁ := [(nm "rights", is (intsD (C.take 12))), (nm "came", is (intsD C)), (nm "message", is (.int m)), (nm "places", is (intsD P))]) ?_ ?_
  · refine Ex1.assign ?_
    rw [← hrights]
    refine Ev.call (fn_rights M S hsz) (EvL.cons ?_ EvL.nil)
    exact Ev.name (by tb_rel)
  refine ExH.cons (ρ₁ := [(nm "rights", is (intsD (C.take 12))), (nm "came", is (intsD C)), (nm "message", is (.int m)), (nm "places", is (intsD P))]) ?_ ?_
  · refine Ex1.skip (b := false) ?_ rfl
    refine Tr.neSame (ns := C.take 12) ?_ ?_
    · exact Ev.name (by tb_rel)
    · have e : C.take 12 = pickNums C none (some 12) none := (pick_upto C (y := 12) (by decide)).symm
      rw [e]
      refine Ev.slice ?_ EvP.none (EvP.some Ev.const_int) EvP.none (by decide) (small_le (by omega))
      exact Ev.name (by tb_rel)
  refine ExH.cons (ρ₁ := [(nm "lost", is (.int (lostOf P : Int))), (nm "rights", is (intsD (C.take 12))), (nm "message", is (.int m))]) ?_ ?_
  · refine Ex1.assign ?_
    refine ev_len M (P := P.filter fun p => decide (p < 12)) ?_ (Nat.le_trans (List.length_filter_le _ _) (by omega))
    have e : P.filter (fun p => decide (p < 12)) = (P.filter fun p => decide (p < 12)).map fun p => p := by simp
    rw [e]
    refine Ev.compIf (cl := []) (ρc := []) ?_ ?_ ?_ ?_
    · refine It.list (ds := P.map D.int) ?_ ?_
      · exact Ev.name (by tb_rel)
      · exact small_le (by simp; omega)
    · ktr_unf
    · intro p hp v C'
      refine Tr.cmp cm_lt ?_ Ev.const_int
      exact Ev.name (by tb_rel)
    · intro p hp _ v C'
      exact Ev.name (by tb_rel)
  have hRl : (C.take 12).length = 12 := by simp [hC]
  generalize C.take 12 = R at *
  have hfl : (rowOf R ++ [0, 0, 0, 0]).length = 16 := by simp [rowOf_length, hRl]
  refine ExH.cons (ρ₁ := [(nm "fewer", fl (crossed (rowOf R ++ [0, 0, 0, 0]))), (nm "lost", is (.int (lostOf P : Int))), (nm "message", is (.int m))]) ?_ ?_
  · refine Ex1.assign ?_
    refine Ev.call (fn_crossed M (rowOf R ++ [0, 0, 0, 0]) hfl) (EvL.cons ?_ EvL.nil)
    have e2 : intsD (rowOf R ++ [0, 0, 0, 0]) = .list ((rowOf R).map D.int ++ ([0, 0, 0, 0] : List Int).map D.int) := by simp [intsD]
    rw [e2]
    refine Ev.bin (op_cat (B := B) ?_) ?_ ?_
    · rw [sizeLine_eq]; simp [rowOf_length, hRl]
    · refine Ev.compI (cl := []) (ρc := []) ?_ ?_ ?_
      · refine It.list (ds := R.map D.int) ?_ ?_
        · exact Ev.name (by tb_rel)
        · exact small_le (by simp; omega)
      · ktr_unf
      · intro b hb v C'
        exact ev_oneMinus (by tb_rel)
    · refine Ev.list (ds := ([0, 0, 0, 0] : List Int).map D.int) ?_ (small_le (by decide))
      exact EvL.ci (EvL.ci (EvL.ci (EvL.ci EvL.nil)))
  have hxl := crossed_length (rowOf R ++ [0, 0, 0, 0])
  refine ExH.of (Ex.one (Ex1.ret ?_))
  have e3 : (is (.bool true)) = is (.bool (decide ((1 : Int) < (lostOf P : Int)) || true)) := by simp
  rw [e3]
  refine Ev.or2 ?_ (fun hc => ?_)
  · refine Ev.cmp cm_gt ?_ Ev.const_int
    exact Ev.name (by tb_rel)
  · have hle : lostOf P ≤ 1 := by
      have := of_decide_eq_false hc
      omega
    refine Ev.eqSame (ns := [m, 12 - 2 * (lostOf P : Int), 1]) ?_ ?_
    · refine Ev.call (fn_told2 M (htold2 hle) hxl) (EvL.cons ?_ EvL.nil)
      exact Ev.name (by tb_rel)
    · refine Ev.list (ds := [m, 12 - 2 * (lostOf P : Int), 1].map D.int) ?_ (small_le (by simp))
      refine EvL.cons ?_ (EvL.cons ?_ (EvL.ci EvL.nil))
      · exact Ev.name (by tb_rel)
      · refine (EvF.bin op_sub Ev.const_int (EvF.bin (op_mul (mul_small (by decide) (by decide))) Ev.const_int ?_).ev).ev
        exact Ev.name (by tb_rel)
theorem fn_holds {n : Nat} (T : Tab B) (m above : Int) (P : List Int) (G : Good m above P) : FnH B (n + 4) (nm "_law_holds") [is (.int m), is (intsD P), is (.int above)] (is (.bool true)) := by
  refine FnH.of (d := dd 39) (def_39 M) rfl fun pm code doc L ad l => ?_
  refine ex_first M m above P G.mr G.pr G.pl ?_
  refine ex_second M m above P G ?_
  refine ex_block M m P _ G.pr G.pl (came_length _) G.ulr ?_
  exact ex_last M T m above P G
end
section
variable {B : Base} {n : Nat} {env : Env} {ρ ρc : Rho}
/-- a for whose body is known at one Around -/
theorem for_at {A : Around} (ro : Room A n) {target iter : Expr} {body : List Stmt} {pos : Pos} {items : List Pd} (ρs ρb : Nat → Rho) (hit : It B n env ρ iter items) (h0 : ∀ p ∈ ρs 0, p ∈ ρ)
    (has : ∀ i p, items[i]? = some p → AsT B n env (ρs i) (ρb i) target p)
    (hbody : ∀ i, i < items.length → ∀ (s : Shared) (he : Addr → Option Obj) (Q : Flow → Shared → Prop) (E : Value → Shared → Prop), Fm B env he s.heap s.toks (ρb i) →
      (∀ h' tk', Fm B env he h' tk' (ρs (i + 1)) → s.toks ≤ tk' → Q .next { s with heap := h', toks := tk' }) → wpAny (model B.prog B.w) A (execs body env) Q E s)
    {s : Shared} {he : Addr → Option Obj} {Q : Flow → Shared → Prop} {E : Value → Shared → Prop} (F : Fm B env he s.heap s.toks ρ)
    (hq : ∀ h' tk', Fm B env he h' tk' (ρs items.length) → s.toks ≤ tk' → Q .next { s with heap := h', toks := tk' })
    (hs : ∀ x, foldedSetIterable iter env x = pure x := by intro _; rfl) : wpAny (model B.prog B.w) A (exec (.For target iter body [] pos) env) Q E s := by
  refine wpAny_For (hit A s _ E ro F.rd fun I fp wr P St h₂ tk₂ W k₂ l₂ => ?_) hs
  have F₂ : Fm B env he h₂ tk₂ (ρs 0) := (F.keeps k₂ l₂).sub h0
  have hwr : ∀ b ∈ wr, he b = none := fun b hb => by
    cases e : he b with
    | none => rfl
    | some o' => have := F.keep b o' e; rw [W.new b hb] at this; cases this
  refine codeAny_forLoop_any
    (fun k s' => ∃ h' tk i, s' = { s with heap := h', toks := tk } ∧ i ≤ items.length ∧ k = items.length + 1 - i ∧ St i h' ∧ Fm B env he h' tk (ρs i) ∧ tk₂ ≤ tk ∧ KpS h₂ h') ?_ (items.length + 1)
    ⟨h₂, tk₂, 0, rfl, Nat.zero_le _, rfl, W.st, F₂, Nat.le_refl _, fun _ _ _ _ e _ => e⟩
  rintro k s' ⟨H, tk, i, rfl, hi, rfl, hst', F', htk, hks⟩
  have hw' := W.kindw i H hst'
  by_cases hlt : i < items.length
  · refine toks_go (W.W.item i _ _ _ hlt hst' fun v h₃ tk₃ hPv hst₃ hk₃ htk₃ => ?_)
    have htk₃' : tk ≤ tk₃ := htk₃
    have hk₃' : ∀ b o, b ∉ wr → H.get? b = some o → h₃.get? b = some o := hk₃
    have F₃ : Fm B env he h₃ tk₃ (ρs i) := F'.of_wr hk₃' hw' hwr htk₃'
    have hks₃ : KpS h₂ h₃ := hks.trans (KpS.of_wr hk₃' hw')
    obtain ⟨oI, nm, hoI, hcI, hnI⟩ := W.quiet (i + 1) h₃ hst₃
    refine letGo_quiet (B := B) (o := oI) hoI hcI hnI ?_
    have hp : (items[i]).P h₃ tk₃ v := (items[i]).mono hks₃ (by omega) (W.item i v _ hPv (by simp [hlt]))
    have Fh := F₃.hide
    refine has i items[i] (by simp [hlt]) A { s with heap := h₃, toks := tk₃ } (hid env h₃) v _ _ ro Fh hp fun h₄ tk₄ F₄ l₄ => ?_
    have l₄' : tk₃ ≤ tk₄ := l₄
    refine hbody i hlt { s with heap := h₄, toks := tk₄ } (hid env h₃) _ _ F₄ fun h₅ tk₅ F₅ l₅ => ?_
    have l₅' : tk₄ ≤ tk₅ := l₅
    refine ⟨items.length + 1 - (i + 1), by omega, h₅, tk₅, i + 1, rfl, hlt, rfl, W.W.frame _ _ _ hst₃ fun b hb o e => ?_, F₅.unhide (fun b o e => F₃.le_hid e) F₃.baseIn, by omega, hks₃.trans fun b o vs n e hd => F₅.keep b o (F₃.hid_data e (.inr ⟨_, _, hd⟩))⟩
    obtain ⟨o', e', hd⟩ := W.kind (i + 1) h₃ hst₃ b hb
    rw [e] at e'; cases e'
    exact F₅.keep b o (F₃.hid_data e hd)
  · have hin : i = items.length := by omega
    subst hin
    refine toks_go (W.W.done _ _ _ hst' fun h₃ tk₃ hk₃ htk₃ => ?_)
    have htk₃' : tk ≤ tk₃ := htk₃
    have F₃ : Fm B env he h₃ tk₃ (ρs items.length) := F'.of_wr hk₃ hw' hwr htk₃'
    exact wpAny_execs_nil (hq h₃ tk₃ F₃ (by omega))
/-- if not f(..): where f may turn the frame's own slots -/
theorem skip_not {x : Str} {ps : List Pd} {A : Around} (ro : Room A n) (hf : A.frames = some [env]) (hfm : env.frame = some env.locals) (C : FnH B n x ps (is (.bool true))) {e : Expr} {es : List Expr} {np pos p2 p3 : Pos} {body : List Stmt} (ha : EvL B n env ρ (e :: es) ps)
    {s : Shared} {he : Addr → Option Obj} {Q : Flow → Shared → Prop} {E : Value → Shared → Prop} (F : Fm B env he s.heap s.toks ρ)
    (hq : ∀ h' tk', Fm B env he h' tk' ρ → s.toks ≤ tk' → Q .next { s with heap := h', toks := tk' })
    (hx : env.kindOf x = some .globalImplicit := by rfl) (hs : isStarred e = false := by rfl) (hd : (x == ("__debug__" : Str)) = false := by decide) :
    wpAny (model B.prog B.w) A (exec (.If (.UnaryOp .Not (.Call (.Name x np) (e :: es) [] pos) p2) body [] p3) env) Q E s := by
  refine wpAny_If (isTrue_not (isTrue_plain ?_ (by rfl)))
  obtain ⟨a, o, fd, hg, ho, hdat, hc⟩ := C
  refine Call_ (glob_name F.rd hx hg ?_ hd)
  refine callWith_function (o := o) (fd := fd) ?_
  have ha' := ha A s pos (fun vs s₁ => (s₁.heap.get? a = some o ∧ o.data = .func fd) ∧ wpAny (model B.prog B.w) A (PySem.call (.ref a) vs) (fun v s' => wpAny (model B.prog B.w) A (truthy v) (fun c s' => (if (!c) = true then wpAny (model B.prog B.w) A (execs body env) Q E s' else wpAny (model B.prog B.w) A (execs [] env) Q E s')) E s') E s₁) E ro F.rd fun vs h₁ tk₁ k₁ l₁ i₁ =>
    ⟨⟨(F.rd.base.trans k₁) _ _ ho, hdat⟩, ?_⟩
  · rw [star_cons es env hs] at ha' ⊢
    exact evalArgs_plain ha'
  · have F₁ := F.keeps k₁ l₁
    obtain ⟨mL, ⟨oL, esL, epL, hoL, hdL, hrL⟩, hvL⟩ := id F₁.rd.ns
    have hb : B.b₀.get? env.locals = none := by
      cases q : B.b₀.get? env.locals with
      | none => rfl
      | some o => have := F.baseIn _ _ q; rw [F.loc] at this; cases this
    have hon : FrOn B h₁.get? [env] := fun e' he' => by
      cases List.mem_singleton.mp he'
      exact ⟨by rw [F.rd.ok.k]; decide, env.locals, oL, hfm, hb, hoL, (fun vs q => by rw [hdL] at q; cases q), (fun vs n q => by rw [hdL] at q; cases q)⟩
    refine hc A { s with heap := h₁, toks := tk₁ } [env] vs _ _ ro hf hon F₁.rd.base F₁.rd.pos i₁ fun v h' tk' kx l' hv => ?_
    have l'' : tk₁ ≤ tk' := l'
    have hfs : [env].filterMap (·.frame) = [env.locals] := by rw [List.filterMap_cons, hfm]; rfl
    rw [hfs] at kx
    have kx' : KpX [env.locals] [] h₁ h' := kx
    have Fp := (F₁.pins.sub (ρ' := Mine.pins h₁ tk₁ ρ) fun q hq => List.mem_append.mpr (.inr hq))
    have F₂ := Fp.slots (S := []) kx' (fun b hb => (nomatch hb)) (fun b hb => (nomatch hb)) free_pins l''
    have F₃ : Fm B env he h' tk' (Mine.pins h₁ tk₁ ρ) := F₂.unhide (fun b o e => by rw [heS_off (S := []) List.not_mem_nil]; exact e) F.baseIn
    have F₄ := F₃.unpin (fun b o vs nn e hd => kx'.keep b o (fun hm => by
      rw [List.mem_singleton.mp hm, hoL] at e; cases e
      rw [hdL] at hd; cases hd) (fun hm => (nomatch hm)) e) l''
    cases hv
    refine wpAny_truthy_bool ?_
    show wpAny _ A (execs [] env) Q E _
    exact wpAny_execs_nil (hq h' tk' F₄ (Nat.le_trans l₁ l''))

/-- a list of ints, and a token has been drawn -/
noncomputable def posP (ns : List Int) : Pd := ⟨fun h k v => 0 < k ∧ Is h v (intsD ns), fun ks hl x => ⟨Nat.lt_of_lt_of_le x.1 hl, x.2.keepsS ks⟩⟩
theorem Ev.sliceUp {v : Expr} {k : Nat} {p pos pc : Pos} {ns : List Int} {y : Int} (hv : Ev B n env ρ v (is (intsD ns))) (hsz : ns.length ≤ sizeLine) :
    Ev B n env ρ (.Subscript v (.Slice none (some (.Constant (.int y) k pc)) none p) pos) (posP (pickNums ns none (some y) none)) :=
  fun A s Q E ro rd hq => Subscript_ (hv A s _ E ro rd fun u h₁ tk₁ k₁ l₁ i₁ => wpAny_Slice (EvP.none A { s with heap := h₁, toks := tk₁ } _ E ro (rd.keeps k₁ l₁) fun x h₂ tk₂ k₂ l₂ p₁ => by
    rw [evalPart_some]
    refine wpAny_Constant_int ?_
    refine EvP.none A { s with heap := h₂, toks := tk₂ + 1 } _ E ro (rd.keeps (k₁.trans k₂) (Nat.le_succ_of_le (Nat.le_trans l₁ l₂))) fun z h₄ tk₄ k₄ l₄ p₃ => ?_
    have l₄' : tk₂ + 1 ≤ tk₄ := l₄
    have l₂' : tk₁ ≤ tk₂ := l₂
    have k₂' : Kp h₁ h₂ := k₂
    have k₄' : Kp h₂ h₄ := k₄
    have i' := (is (intsD ns)).keeps i₁ (k₂'.trans k₄') (show tk₁ ≤ tk₄ by omega)
    cases i' with | list hl r =>
    rename_i a vs
    have hi := ints_are r
    have hl' : (h₄.push { cls := .type "slice", data := .fields #[x, .int y tk₂, z] }).IsList a vs.toArray := hl.push _
    refine tail_any (Heap.IsList.typeIs (s := { s with heap := h₄.push { cls := .type "slice", data := .fields #[x, .int y tk₂, z] }, toks := tk₄ }) hl') slot_list_getitem.lookup
      (wpAny_getItem_list_slice hl' (Heap.IsSliceOf.new ..) p₁ (.int y tk₂) p₃ (by decide) ?_ (by simp only [List.size_toArray]; rw [hi.length]; exact hsz)) rfl
    refine hq _ _ tk₄ (((k₁.trans k₂').trans k₄').trans ((Kp.push _ _).trans (Kp.push _ _))) (by omega) ⟨by omega, Is.list (vs := (slicePick vs.toArray _ _ _).toList) ?_ (are_ints (hi.pick _ _ _))⟩
    exact ⟨_, Heap.get?_push_size _ rfl, rfl, 0, by simp⟩))
end
noncomputable def tail4 : List Int := [21, 3, 13, 14]
noncomputable def numbersOf (ns : List Int) : List Int := ns.take 8 ++ tail4.drop (((ns.take 8).length : Int).fmod 4).toNat
noncomputable def figsOf (N : List Int) (k : Int) : List Int := (pickNums N (some (k + 1)) (some (k + 4)) none).map fun x => x.fmod 25
noncomputable def drawnOf (f : List Int) : List Int := (f.filter fun x => decide (x < 24)).map fun x => if x < 16 then x else 12 + x.fmod 4
noncomputable def placesOf (d : List Int) : List Int := (rangeI 16).filter fun p => d.any (· == p)
theorem numbers_length (ns : List Int) : ∃ q, (numbersOf ns).length = 4 * q ∧ 1 ≤ q ∧ q ≤ 3 := by
  have h1 : (ns.take 8).length ≤ 8 := by simp; omega
  unfold numbersOf
  generalize ns.take 8 = w at h1
  have h2 : (((w.length : Nat) : Int).fmod 4).toNat = w.length % 4 := by
    rw [Int.fmod_eq_emod_of_nonneg _ (by decide)]
    omega
  rw [h2]
  have h3 : tail4.length = 4 := rfl
  refine ⟨(w.length + (4 - w.length % 4)) / 4, ?_, ?_, ?_⟩
  · rw [List.length_append, List.length_drop, h3]; omega
  · omega
  · omega
theorem figs_length (N : List Int) {k : Int} (h : 0 ≤ k) : (figsOf N k).length ≤ 3 := by
  unfold figsOf
  rw [pick_run N (by omega) (by omega)]
  simp
  omega
theorem drawn_length (f : List Int) : (drawnOf f).length ≤ f.length := by
  unfold drawnOf
  rw [List.length_map]
  exact List.length_filter_le _ _
theorem nodup_le : ∀ {l d : List Int}, l.Nodup → (∀ x ∈ l, x ∈ d) → l.length ≤ d.length
  | [], _, _, _ => Nat.zero_le _
  | x :: r, d, hn, hs => by
    have hn' := List.nodup_cons.mp hn
    have hx := hs x (.head _)
    have ih := nodup_le (l := r) (d := d.erase x) hn'.2 fun y hy => (List.mem_erase_of_ne (by rintro rfl; exact hn'.1 hy)).mpr (hs y (.tail _ hy))
    have := List.length_erase_of_mem hx
    have hp : 0 < d.length := List.length_pos_of_mem hx
    simp only [List.length_cons]
    omega
theorem places_length (d : List Int) : (placesOf d).length ≤ d.length := by
  have hnd : (placesOf d).Nodup := (show (rangeI 16).Nodup by decide).filter _
  refine nodup_le hnd fun p hp => ?_
  have := (List.mem_filter.mp hp).2
  obtain ⟨x, hx, he⟩ := List.any_eq_true.mp this
  have : x = p := by simpa using he
  exact this ▸ hx
abbrev lo0 (B : Base) : Base := { B with lo := 0 }
theorem Fm.ofLo {B : Base} {env : Env} {he : Addr → Option Obj} {h : Heap} {k : Nat} {ρ : Rho} (F : Fm (lo0 B) env he h k ρ) (hk : B.lo ≤ k) : Fm B env he h k ρ :=
  ⟨⟨F.rd.ok, F.rd.base, hk, F.rd.ns⟩, F.keep, F.baseIn, F.loc, F.cells, F.inj⟩
section
variable {B : Base} (M : Mn B)
include M
theorem def_40 : Def B (dd 40) [nm "script"] where
  mem := by rw [M.view]; exact mem_40
  bind := fun pm code doc vs h => by
    match vs, h with
    | [v0], _ => rfl
  nd := by decide
  kind := fun L x hx => by
    rcases List.mem_cons.mp hx with rfl | hx
    · exact .inl rfl
    cases hx
  co := rfl
  gen := rfl
  k := rfl
theorem ev_len0 {n : Nat} {env : Env} {ρ : Rho} {e : Expr} {P : List Int} {np pos : Pos} (h : Ev (lo0 B) n env ρ e (is (intsD P))) (hl : P.length ≤ 64) (hx : env.kindOf (nm "len") = some .globalImplicit := by rfl) (hs : isStarred e = false := by rfl) :
    Ev (lo0 B) n env ρ (.Call (.Name (nm "len") np) [e] [] pos) (is (.int (P.length : Int))) := by
  have hg : (lo0 B).mg (nm "len") = none := (mg_len M : B.mg (nm "len") = none)
  have := Ev.callB (np := np) (pos := pos) (bi_len (B := lo0 B) (ds := P.map D.int) (small_le (by simpa using hl))) hg mb_len (EvL.cons h EvL.nil hs) hx hs
  simpa using this
set_option maxHeartbeats 8000000 in
theorem fn_law {n : Nat} (T : Tab B) (hlo : B.lo = 1) (hgood : ∀ (m above : Int) (keep : Int → Bool), m ∈ rangeI 32 → -32768 ≤ above → above < 32768 → ((rangeI 16).filter keep).length ≤ 3 → Good m above ((rangeI 16).filter keep)) (ns : List Int) (hns : ns.length ≤ 64) :
    ∃ a o fd, B.mg (nm "law") = some (.ref a) ∧ B.b₀.get? a = some o ∧ o.data = .func fd ∧ ∀ (A : Around) (s : Shared) (v : Value) (Q E : Value → Shared → Prop), Room A (n + 5) → A.frames = some [] → Kp B.b₀ s.heap → Is s.heap v (intsD ns) →
      (∀ h' tk', Kp s.heap h' → Q (.bool true) { s with heap := h', toks := tk' }) → wpAny (model B.prog B.w) A (call (.ref a) [v]) Q E s := by
  have D0 := def_40 M
  obtain ⟨a, o, pm, code, doc, hg, ho, hdat, hcd⟩ := B.T.fn (dd 40) D0.mem
  refine ⟨a, o, _, hg, ho, hdat, fun A s v Q E ro hf kb hv hq => wpAny_call ?_⟩
  refine enter (B := lo0 B) (n := n + 4) (ps := [is (intsD ns)]) ro kb (Nat.zero_le _) (.cons hv .nil) (xs := [nm "script"]) rfl ho hdat hcd rfl rfl rfl rfl D0.co D0.gen D0.k (D0.bind _ _ _ _ rfl) D0.nd D0.kind fun L he h₁ tk₁ hin hout htk F => ?_
  dsimp only [Binds] at F
  have hfr := Around.frames_deeper (env := defEnv (dd 40) pm code doc L a) hf
  have roD : Room (A.deeper (defEnv (dd 40) pm code doc L a)) (n + 4) := ro.deeper
  generalize hE : (fun (e : Value) (s' : Shared) => wpAny (model (lo0 B).prog (lo0 B).w) (A.deeper (callEnvC (docDef (dd 40).name (dd 40).params (dd 40).body (dd 40).scope pm code doc) L a)) (leaving (callEnvC (docDef (dd 40).name (dd 40).params (dd 40).body (dd 40).scope pm code doc) L a) e) (fun _ s'' => wants Q E (.error e) s'') (fun e' s'' => wants Q E (.error e') s'') s') = EE
  clear hE
  -- numbers
  refine wpAny_execs_cons ((Ex1.assign (B := lo0 B) (n := n + 4) (p := posP (numbersOf ns)) (ρ' := []) ?_) _ { s with heap := h₁, toks := tk₁ } he _ _ roD F fun h₂ tk₂ F₂ l₂ => ?_)
  · have e1 : ns.take 8 = pickNums ns none (some 8) none := (pick_upto ns (y := 8) (by decide)).symm
    have hlen : (pickNums ns none (some 8) none).length ≤ 64 := by rw [← e1]; simp; omega
    have e2 : numbersOf ns = pickNums ns none (some 8) none ++ pickNums tail4 (some (((pickNums ns none (some 8) none).length : Int).fmod 4)) none none := by
      rw [pick_from tail4 (Int.fmod_nonneg_of_pos _ (by decide)), ← e1]; rfl
    rw [e2]
    have hop : Op2 (lo0 B) .Add (posP (pickNums ns none (some 8) none)) (is (intsD (pickNums tail4 (some (((pickNums ns none (some 8) none).length : Int).fmod 4)) none none))) (posP (pickNums ns none (some 8) none ++ pickNums tail4 (some (((pickNums ns none (some 8) none).length : Int).fmod 4)) none none)) := by
      intro A s u v Q E hh i j h
      refine op_cat (B := lo0 B) (ds := (pickNums ns none (some 8) none).map D.int) (es := (pickNums tail4 (some (((pickNums ns none (some 8) none).length : Int).fmod 4)) none none).map D.int) ?_ A s u v Q E hh i.2 j fun w h' tk' k l x => h w h' tk' k l ⟨Nat.lt_of_lt_of_le i.1 l, ?_⟩
      · have := length_pickNums_le (mkInts tail4) (some (((pickNums ns none (some 8) none).length : Int).fmod 4)) none none
        have h4 : tail4.length = 4 := rfl
        rw [sizeLine_eq]
        simp only [List.length_map]
        omega
      · have x' : Is h' w _ := x
        rw [← List.map_append] at x'
        exact x'
    refine Ev.bin hop ?_ ?_
    · refine Ev.sliceUp ?_ (small_le hns)
      exact Ev.name (by tb_rel)
    · refine Ev.slice (ns := tail4) ?_ (EvP.some (EvF.bin (op_mod (by decide)) ?_ Ev.const_int).ev) EvP.none EvP.none (by decide) (small_le (by decide))
      · refine Ev.list (ds := tail4.map D.int) ?_ (small_le (by decide))
        exact EvL.ci (EvL.ci (EvL.ci (EvL.ci EvL.nil)))
      · refine ev_len0 M ?_ hlen
        refine Ev.slice (ns := ns) ?_ EvP.none (EvP.some Ev.const_int) EvP.none (by decide) (small_le hns)
        exact Ev.name (by tb_rel)
  have l2' : tk₁ ≤ tk₂ := l₂
  have hpos : 0 < tk₂ := by
    obtain ⟨u, hu⟩ := F₂.rd.get (x := nm "numbers") (p := posP (numbersOf ns)) (by tb_rel)
    exact hu.1
  have F2 : Fm B (defEnv (dd 40) pm code doc L a) he h₂ tk₂ [(nm "numbers", is (intsD (numbersOf ns)))] := by
    refine Fm.ofLo ?_ (by rw [hlo]; exact hpos)
    obtain ⟨mm, hn, hv⟩ := F₂.rd.ns
    refine ⟨⟨F₂.rd.ok, F₂.rd.base, F₂.rd.pos, mm, hn, fun y q hy => ?_⟩, F₂.keep, F₂.baseIn, F₂.loc, F₂.cells, F₂.inj⟩
    cases List.mem_singleton.mp hy
    obtain ⟨u, hu, hw⟩ := hv (nm "numbers") _ (.head _)
    exact ⟨u, hu.2, hw⟩
  obtain ⟨q, hN, hq1, hq3⟩ := numbers_length ns
  generalize numbersOf ns = N at *
  clear F₂ F
  have hlen : (rangeD 0 4 q).length = q := by simp [rangeD]
  refine wpAny_execs_cons (for_at (B := B) (n := n + 4) roD (items := (rangeD 0 4 q).map is) (fun i => [(nm "numbers", is (intsD N))]) (fun i => [(nm "k", is (.int (0 + (i : Int) * 4))), (nm "numbers", is (intsD N))]) ?_ (fun p hp => hp) ?_ ?_ (s := { s with heap := h₂, toks := tk₂ }) F2 (fun h₃ tk₃ F₃ l₃ => ?_))
  · refine It.range3 (a := 0) (b := (N.length : Int)) (c := 4) Ev.const_int ?_ Ev.const_int (mg_range M) mb_range (by decide) (by decide) ?_ ?_ (by omega)
    · refine ev_len M ?_ (by omega)
      exact Ev.name (by tb_rel)
    · rw [hN]
      have : q = 1 ∨ q = 2 ∨ q = 3 := by omega
      rcases this with rfl | rfl | rfl <;> decide
    · rw [hN]
      have : q = 1 ∨ q = 2 ∨ q = 3 := by omega
      rcases this with rfl | rfl | rfl <;> decide
  · intro i p hp
    have : p = is (.int (0 + (i : Int) * 4)) := by
      simp only [rangeD, List.map_map, List.getElem?_map, Option.map_eq_some_iff] at hp
      obtain ⟨b, hb, rfl⟩ := hp
      have := (List.getElem?_eq_some_iff.mp hb).2
      simp at this
      simp [this]
    subst this
    exact AsT.name
  · intro i hi s' he' Q' E' F' hq'
    have hiq : i < q := by simpa [hlen] using hi
    have hk0 : (0 : Int) ≤ 0 + (i : Int) * 4 := by omega
    have hkN : (0 : Int) + (i : Int) * 4 < N.length := by omega
    generalize (0 : Int) + (i : Int) * 4 = k at hk0 hkN F'
    have hfl := figs_length N hk0
    refine wpAny_execs_cons ((Ex1.assignI (B := B) (n := n + 4) (cl := []) (ρc := []) (xs := pickNums N (some (k + 1)) (some (k + 4)) none) (f := fun x => x.fmod 25) (ρ' := [(nm "k", is (.int k)), (nm "numbers", is (intsD N))]) ?_ ?_ ?_) _ s' he' _ _ roD F' fun h3 tk3 F3 l3 => ?_)
    · refine It.list (ds := (pickNums N (some (k + 1)) (some (k + 4)) none).map D.int) ?_ ?_
      · refine Ev.slice (ns := N) ?_ (EvP.some (EvF.bin op_add ?_ Ev.const_int).ev) (EvP.some (EvF.bin op_add ?_ Ev.const_int).ev) EvP.none (by decide) (small_le (by omega))
        · exact Ev.name (by tb_rel)
        · exact Ev.name (by tb_rel)
        · exact Ev.name (by tb_rel)
      · refine small_le ?_
        unfold figsOf at hfl
        simp only [List.length_map] at hfl ⊢
        omega
    · ktr_unf
    · intro x hx v C
      refine (EvF.bin (op_mod (by decide)) ?_ Ev.const_int).ev
      exact Ev.name (by tb_rel)
    have F3' : Fm B (defEnv (dd 40) pm code doc L a) he' h3 tk3 [(nm "figures", is (intsD (figsOf N k))), (nm "k", is (.int k)), (nm "numbers", is (intsD N))] := F3
    clear F3
    generalize figsOf N k = f at hfl F3'
    have hdl := drawn_length f
    refine wpAny_execs_cons ((Ex1.assign (B := B) (n := n + 4) (p := is (intsD (drawnOf f))) (ρ' := [(nm "k", is (.int k)), (nm "numbers", is (intsD N))]) ?_) _ { s' with heap := h3, toks := tk3 } he' _ _ roD F3' fun h4 tk4 F4 l4 => ?_)
    · refine Ev.compIf (cl := []) (ρc := []) (xs := f) (keep := fun x => decide (x < 24)) (f := fun x => if x < 16 then x else 12 + x.fmod 4) ?_ ?_ ?_ ?_
      · refine It.list (ds := f.map D.int) ?_ ?_
        · exact Ev.name (by tb_rel)
        · exact small_le (by simp; omega)
      · ktr_unf
      · intro x hx v C
        refine Tr.cmp cm_lt ?_ Ev.const_int
        exact Ev.name (by tb_rel)
      · intro x hx _ v C
        refine Ev.ite (c := decide (x < 16)) (Tr.cmp cm_lt ?_ Ev.const_int) (fun hc => ?_) (fun hc => ?_)
        · exact Ev.name (by tb_rel)
        · rw [if_pos (of_decide_eq_true hc)]
          exact Ev.name (by tb_rel)
        · rw [if_neg (of_decide_eq_false hc)]
          refine (EvF.bin op_add Ev.const_int (EvF.bin (op_mod (by decide)) ?_ Ev.const_int).ev).ev
          exact Ev.name (by tb_rel)
    generalize drawnOf f = d at hdl F4
    have hpl := places_length d
    refine wpAny_execs_cons ((Ex1.assignIf (B := B) (n := n + 4) (cl := [(nm "drawn", L + 1)]) (ρc := [(nm "drawn", is (intsD d))]) (xs := rangeI 16) (keep := fun p => d.any (· == p)) (f := fun p => p) (ρ' := [(nm "k", is (.int k)), (nm "numbers", is (intsD N))])
      (It.range (m := 16) Ev.const_int (mg_range M) mb_range (by decide)) ?_ ?_ ?_) _ { s' with heap := h4, toks := tk4 } he' _ _ roD F4 fun h5 tk5 F5 l5 => ?_)
    · ktr_unf
    · intro p hp v C
      refine Tr.cmp cm_inl ?_ ?_
      · exact Ev.name (by tb_rel)
      · exact Ev.name (by tb_rel)
    · intro p hp _ v C
      exact Ev.name (by tb_rel)
    have F5' : Fm B (defEnv (dd 40) pm code doc L a) he' h5 tk5 [(nm "places", is (intsD (placesOf d))), (nm "k", is (.int k)), (nm "numbers", is (intsD N))] := by
      have e : ((rangeI 16).filter fun p => d.any (· == p)).map (fun p => p) = placesOf d := by simp [placesOf]
      have F5'' := F5
      simp only [e] at F5''
      exact F5''
    have hp3 : ((rangeI 16).filter fun p => d.any (· == p)).length ≤ 3 := by
      have : (placesOf d).length ≤ 3 := by omega
      exact this
    have hmr : (N.getD k.toNat 0).fmod 32 ∈ rangeI 32 := by
      have h1 := Int.fmod_nonneg_of_pos (N.getD k.toNat 0) (b := 32) (by decide)
      have h2 := Int.fmod_lt_of_pos (N.getD k.toNat 0) (b := 32) (by decide)
      refine List.mem_map.mpr ⟨((N.getD k.toNat 0).fmod 32).toNat, List.mem_range.mpr (by omega), by omega⟩
    have ha1 := Int.fmod_nonneg_of_pos ((N.getD k.toNat 0).fdiv 32) (b := 65536) (by decide)
    have ha2 := Int.fmod_lt_of_pos ((N.getD k.toNat 0).fdiv 32) (b := 65536) (by decide)
    have G : Good ((N.getD k.toNat 0).fmod 32) (((N.getD k.toNat 0).fdiv 32).fmod 65536 - 32768) (placesOf d) := hgood ((N.getD k.toNat 0).fmod 32) (((N.getD k.toNat 0).fdiv 32).fmod 65536 - 32768) _ hmr (by omega) (by omega) hp3
    refine wpAny_execs_cons (skip_not (s := { s' with heap := h5, toks := tk5 }) roD hfr rfl (fn_holds M T _ _ _ G) (EvL.cons ?_ (EvL.cons ?_ (EvL.cons ?_ EvL.nil))) F5' (fun h6 tk6 F6 l6 => ?_))
    · refine (EvF.bin (op_mod (by decide)) (Ev.wordAt (r := N) (p := k) ?_ ?_ hk0 hkN (by omega)) Ev.const_int).ev
      · tb_rel
      · tb_rel
    · exact Ev.name (by tb_rel)
    · refine (EvF.bin op_sub (EvF.bin (op_mod (by decide)) (EvF.bin (op_div (by decide) (by decide)) (Ev.wordAt (r := N) (p := k) ?_ ?_ hk0 hkN (by omega)) Ev.const_int).ev Ev.const_int).ev Ev.const_int).ev
      · tb_rel
      · tb_rel
    have l3' : s'.toks ≤ tk3 := l3
    have l4' : tk3 ≤ tk4 := l4
    have l5' : tk4 ≤ tk5 := l5
    have l6' : tk5 ≤ tk6 := l6
    exact wpAny_execs_nil (hq' h6 tk6 (F6.sub (by ktr_rel)) (by omega))
  · refine Ex.one (B := B) (n := n + 4) (Ex1.ret Ev.const_bool) _ { s with heap := h₃, toks := tk₃ } he _ _ roD F₃ fun v h' tk' F' l' hv => ?_
    have hv' : Is h' v (.bool true) := hv
    cases hv'
    exact hq h' tk' (fun b o e => F'.keep b o (hin b o e))
end
/-- one round on functions -/
noncomputable def X (st : Int) (g : Int → Int) (p : Int) : Int := if Builtin.bitAnd p st == 0 then g p + g (p + st) else g (p - st) - g p
noncomputable def XX (g : Int → Int) : Int → Int := X 8 (X 4 (X 2 (X 1 g)))
theorem X_lin (st : Int) (g h : Int → Int) (c p : Int) : X st (fun i => g i + c * h i) p = X st g p + c * X st h p := by
  unfold X
  dsimp only
  split
  · rw [Int.mul_add]; omega
  · rw [Int.mul_sub]; omega
theorem XX_lin (g h : Int → Int) (c p : Int) : XX (fun i => g i + c * h i) p = XX g p + c * XX h p := by
  unfold XX
  have e1 : X 1 (fun i => g i + c * h i) = fun i => X 1 g i + c * X 1 h i := funext fun i => X_lin 1 g h c i
  rw [e1]
  have e2 : X 2 (fun i => X 1 g i + c * X 1 h i) = fun i => X 2 (X 1 g) i + c * X 2 (X 1 h) i := funext fun i => X_lin 2 _ _ c i
  rw [e2]
  have e3 : X 4 (fun i => X 2 (X 1 g) i + c * X 2 (X 1 h) i) = fun i => X 4 (X 2 (X 1 g)) i + c * X 4 (X 2 (X 1 h)) i := funext fun i => X_lin 4 _ _ c i
  rw [e3]
  exact X_lin 8 _ _ c p
theorem getD_map (g : Int → Int) {p : Int} (h0 : 0 ≤ p) (h1 : p < 16) : ((rangeI 16).map g).getD p.toNat 0 = g p := by
  have h : p.toNat < 16 := by omega
  have e : (rangeI 16)[p.toNat]? = some p := by
    simp only [rangeI, List.getElem?_map, List.getElem?_range h, Option.map_some]
    congr 1
    omega
  simp only [List.getD, List.getElem?_map, e, Option.map_some, Option.getD_some]
theorem xstep_map (g : Int → Int) (st : Int) (hs : st ∈ ([1, 2, 4, 8] : List Int)) : xstep st ((rangeI 16).map g) = (rangeI 16).map (X st g) := by
  unfold xstep
  refine List.map_congr_left fun p hp => ?_
  obtain ⟨h0, h1⟩ := mem_range hp
  have hst : 1 ≤ st := by
    simp only [List.mem_cons, List.not_mem_nil, or_false] at hs
    omega
  unfold X
  cases hb : (Builtin.bitAnd p st == 0) with
  | true =>
    have := bit_in p hp st hs hb
    simp only [if_true]
    rw [getD_map g h0 h1, getD_map g (by omega) (by omega)]
  | false =>
    have := bit_out p hp st hs hb
    simp only [Bool.false_eq_true, if_false]
    rw [getD_map g h0 h1, getD_map g (by omega) (by omega)]
theorem crossed_map (g : Int → Int) : crossed ((rangeI 16).map g) = (rangeI 16).map (XX g) := by
  unfold crossed
  rw [xstep_map g 1 (by decide), xstep_map _ 2 (by decide), xstep_map _ 4 (by decide), xstep_map _ 8 (by decide)]
  rfl
noncomputable def dl (p i : Int) : Int := if i = p then 1 else 0
noncomputable def S (g : Int → Int) (l : List Int) (i : Int) : Int := l.foldr (fun p acc => acc + g p * dl p i) 0
theorem S_cons (g : Int → Int) (p : Int) (l : List Int) : S g (p :: l) = fun i => S g l i + g p * dl p i := rfl
theorem XX_zero (q : Int) : XX (fun _ => 0) q = 0 := by
  have h : ∀ st, X st (fun _ => (0 : Int)) = fun _ => 0 := fun st => funext fun p => by unfold X; split <;> rfl
  unfold XX
  rw [h, h, h, h]
theorem XX_S (g : Int → Int) (q : Int) : ∀ l : List Int, XX (S g l) q = l.foldr (fun p acc => acc + g p * XX (dl p) q) 0
  | [] => XX_zero q
  | p :: l => by
    rw [S_cons, XX_lin, XX_S g q l]; rfl
theorem S_mem (g : Int → Int) (i : Int) : ∀ l : List Int, l.Nodup → S g l i = if i ∈ l then g i else 0
  | [], _ => rfl
  | p :: l, hn => by
    have hn' := List.nodup_cons.mp hn
    rw [S_cons]
    show S g l i + g p * dl p i = _
    rw [S_mem g i l hn'.2]
    unfold dl
    by_cases hp : i = p
    · subst hp
      simp [hn'.1]
    · simp [hp]
theorem range_nodup : (rangeI 16).Nodup := by decide
theorem S_range (g : Int → Int) {i : Int} (h : i ∈ rangeI 16) : S g (rangeI 16) i = g i := by
  rw [S_mem g i _ range_nodup, if_pos h]
theorem map_S (g : Int → Int) : (rangeI 16).map g = (rangeI 16).map (S g (rangeI 16)) := List.map_congr_left fun i hi => (S_range g hi).symm
theorem XX_congr {g h : Int → Int} (e : ∀ i ∈ rangeI 16, g i = h i) : ∀ q ∈ rangeI 16, XX g q = XX h q := fun q hq => by
  have : (rangeI 16).map (XX g) = (rangeI 16).map (XX h) := by rw [← crossed_map, ← crossed_map, List.map_congr_left e]
  have h2 := congrArg (fun l => l.getD q.toNat 0) this
  obtain ⟨h0, h1⟩ := mem_range hq
  simp only [getD_map _ h0 h1] at h2
  exact h2
theorem dl_pm : ∀ p ∈ rangeI 16, ∀ q ∈ rangeI 16, XX (dl p) q = 1 ∨ XX (dl p) q = -1 := by decide +kernel
theorem dl_twice : ∀ p ∈ rangeI 16, crossed ((rangeI 16).map (XX (dl p))) = (rangeI 16).map fun i => 16 * dl p i := by decide +kernel
theorem dl_two {p q : Int} (hp : p ∈ rangeI 16) (hq : q ∈ rangeI 16) : XX (XX (dl p)) q = 16 * dl p q := by
  have h := dl_twice p hp
  rw [crossed_map] at h
  have h2 := congrArg (fun l => l.getD q.toNat 0) h
  obtain ⟨h0, h1⟩ := mem_range hq
  simp only [getD_map _ h0 h1] at h2
  exact h2
theorem XX_S_fun (g : Int → Int) (l : List Int) : XX (S g l) = fun q => l.foldr (fun p acc => acc + g p * XX (dl p) q) 0 := funext fun q => XX_S g q l
theorem XX_XX_S (g : Int → Int) {q : Int} (hq : q ∈ rangeI 16) : ∀ l : List Int, (∀ p ∈ l, p ∈ rangeI 16) → XX (XX (S g l)) q = 16 * S g l q
  | [], _ => by
    have e : XX (S g []) = fun _ => 0 := funext fun i => XX_zero i
    rw [e, XX_zero]; rfl
  | p :: l, hl => by
    have e : XX (S g (p :: l)) = fun i => XX (S g l) i + g p * XX (dl p) i := funext fun i => by rw [S_cons, XX_lin]
    rw [e, XX_lin, XX_XX_S g hq l (fun p hp => hl p (.tail _ hp)), dl_two (hl p (.head _)) hq, S_cons]
    rw [Int.mul_left_comm, ← Int.mul_add]
/-- twice over: sixteen times the row -/
theorem crossed_twice (g : Int → Int) : crossed (crossed ((rangeI 16).map g)) = ((rangeI 16).map g).map fun x => 16 * x := by
  rw [map_S g, crossed_map, crossed_map, List.map_map]
  exact List.map_congr_left fun q hq => XX_XX_S g hq _ fun _ h => h
/-- the sum over places, bounded -/
theorem sum_bound (σ : Int → Int) (q : Int) (hq : q ∈ rangeI 16) : ∀ l : List Int, (∀ p ∈ l, p ∈ rangeI 16 ∧ (σ p = 1 ∨ σ p = -1)) → -(l.length : Int) ≤ XX (S σ l) q ∧ XX (S σ l) q ≤ l.length
  | [], _ => by rw [show S σ [] = fun _ => 0 from rfl, XX_zero]; decide
  | p :: l, h => by
    obtain ⟨hp, hs⟩ := h p (.head _)
    have ih := sum_bound σ q hq l fun p hp => h p (.tail _ hp)
    rw [S_cons, XX_lin]
    simp only [List.length_cons]
    rcases dl_pm p hp q hq with e | e <;> rcases hs with e' | e' <;> rw [e, e'] <;> omega
theorem sum_at (σ : Int → Int) (q s : Int) : ∀ l : List Int, (∀ p ∈ l, σ p * XX (dl p) q = s) → XX (S σ l) q = s * l.length
  | [], _ => by rw [show S σ [] = fun _ => 0 from rfl, XX_zero]; simp
  | p :: l, h => by
    rw [S_cons, XX_lin, sum_at σ q s l fun p hp => h p (.tail _ hp), h p (.head _)]
    simp only [List.length_cons, Int.natCast_succ, Int.mul_add, Int.mul_one]
/-- the signs of a word -/
noncomputable def sg (m : Int) (p : Int) : Int := 1 - 2 * (word m).getD p.toNat 0
noncomputable def sg12 (m : Int) (p : Int) : Int := if p < 12 then sg m p else 0
noncomputable def hi (m : Int) : Int := if m < 16 then 1 else -1
theorem sg_pm (m p : Int) : sg m p = 1 ∨ sg m p = -1 := by
  unfold sg
  rcases word_bit m p with h | h <;> rw [h] <;> decide
/-- sixteen at the message's lower four bits, nought elsewhere -/
theorem sg_peak : ∀ m ∈ rangeI 32, crossed ((rangeI 16).map (sg m)) = (rangeI 16).map fun q => if q = m.fmod 16 then 16 * hi m else 0 := by decide +kernel
theorem sg12_peak : ∀ m ∈ rangeI 32, ∀ q ∈ rangeI 16, if q = m.fmod 16 then (crossed ((rangeI 16).map (sg12 m))).getD q.toNat 0 = 12 * hi m else -4 ≤ (crossed ((rangeI 16).map (sg12 m))).getD q.toNat 0 ∧ (crossed ((rangeI 16).map (sg12 m))).getD q.toNat 0 ≤ 4 := by decide +kernel
theorem sg_dl : ∀ m ∈ rangeI 32, ∀ p ∈ rangeI 16, sg m p * (crossed ((rangeI 16).map (dl p))).getD (m.fmod 16).toNat 0 = hi m := by decide +kernel
theorem fmod_in {m : Int} (hm : m ∈ rangeI 32) : m.fmod 16 ∈ rangeI 16 := by
  have h1 := Int.fmod_nonneg_of_pos m (b := 16) (by decide)
  have h2 := Int.fmod_lt_of_pos m (b := 16) (by decide)
  exact List.mem_map.mpr ⟨(m.fmod 16).toNat, List.mem_range.mpr (by omega), by omega⟩
theorem tells_of (f : Int → Int) (m : Int) (hm : m ∈ rangeI 32) (K : Int) (hK : 10 ≤ K) (hK2 : K ≤ 256) (hat : f (m.fmod 16) = K * hi m) (hoff : ∀ q ∈ rangeI 16, q ≠ m.fmod 16 → -6 ≤ f q ∧ f q ≤ 6) : Tells ((rangeI 16).map f) m K := by
  obtain ⟨h0, h1⟩ := mem_range (fmod_in hm)
  obtain ⟨m0, m1⟩ := mem_range hm
  have hj := getD_map f h0 h1
  have e : m.fmod 16 = if m < 16 then m else m - 16 := by
    rw [Int.fmod_eq_emod_of_nonneg _ (by decide)]
    split <;> omega
  have hmx : mx (f (m.fmod 16)) = K := by
    rw [hat]
    unfold mx hi
    split <;> split <;> omega
  refine ⟨(m.fmod 16).toNat, by omega, fun i hi16 hne => ?_, ?_, ?_, ?_⟩
  · have hi0 := getD_map f (p := (i : Int)) (by omega) (by omega)
    rw [Int.toNat_natCast] at hi0
    rw [hj, hi0, hmx]
    have := hoff i (List.mem_map.mpr ⟨i, List.mem_range.mpr hi16, rfl⟩) (by omega)
    unfold mx
    split <;> omega
  · rw [hj, hmx]; exact hK2
  · rw [hj, hat]
    unfold hi
    have : (((m.fmod 16).toNat : Nat) : Int) = m.fmod 16 := by omega
    rw [this, e]
    by_cases h : m < 16
    · rw [if_pos h, if_pos h, if_neg (by omega)]; omega
    · rw [if_neg h, if_neg h, if_pos (by omega)]; omega
  · rw [hj, hmx]
/-- signs turned at the places of l -/
theorem tells_row (m : Int) (hm : m ∈ rangeI 32) (l : List Int) (hl : ∀ p ∈ l, p ∈ rangeI 16) (h3 : l.length ≤ 3) (g : Int → Int) (hg : ∀ i ∈ rangeI 16, g i = sg m i + (-2) * S (sg m) l i) : Tells (crossed ((rangeI 16).map g)) m (16 - 2 * (l.length : Int)) := by
  rw [crossed_map]
  have peak : ∀ q ∈ rangeI 16, XX (sg m) q = if q = m.fmod 16 then 16 * hi m else 0 := fun q hq => by
    have h := sg_peak m hm
    rw [crossed_map] at h
    have h2 := congrArg (fun l => l.getD q.toNat 0) h
    obtain ⟨h0, h1⟩ := mem_range hq
    simp only [getD_map _ h0 h1] at h2
    exact h2
  have val : ∀ q ∈ rangeI 16, XX g q = (if q = m.fmod 16 then 16 * hi m else 0) + (-2) * XX (S (sg m) l) q := fun q hq => by
    rw [XX_congr hg q hq, XX_lin, peak q hq]
  refine tells_of (XX g) m hm _ (by omega) (by omega) ?_ fun q hq hne => ?_
  · rw [val _ (fmod_in hm), if_pos rfl, sum_at (sg m) (m.fmod 16) (hi m) l fun p hp => ?_]
    · rw [Int.sub_mul, Int.mul_assoc 2, Int.mul_comm (hi m)]; omega
    · have h := sg_dl m hm p (hl p hp)
      rw [crossed_map] at h
      obtain ⟨h0, h1⟩ := mem_range (fmod_in hm)
      rw [getD_map _ h0 h1] at h
      exact h
  · rw [val q hq, if_neg hne]
    have := sum_bound (sg m) q hq l fun p hp => ⟨hl p hp, sg_pm m p⟩
    omega
theorem tells_row12 (m : Int) (hm : m ∈ rangeI 32) (l : List Int) (hl : ∀ p ∈ l, p ∈ rangeI 16) (h1 : l.length ≤ 1) (g : Int → Int) (hg : ∀ i ∈ rangeI 16, g i = sg12 m i + (-2) * S (sg m) l i) : Tells (crossed ((rangeI 16).map g)) m (12 - 2 * (l.length : Int)) := by
  rw [crossed_map]
  have peak : ∀ q ∈ rangeI 16, if q = m.fmod 16 then XX (sg12 m) q = 12 * hi m else -4 ≤ XX (sg12 m) q ∧ XX (sg12 m) q ≤ 4 := fun q hq => by
    have h := sg12_peak m hm q hq
    obtain ⟨h0, h1⟩ := mem_range hq
    rw [crossed_map, getD_map _ h0 h1] at h
    exact h
  have val : ∀ q ∈ rangeI 16, XX g q = XX (sg12 m) q + (-2) * XX (S (sg m) l) q := fun q hq => by
    rw [XX_congr hg q hq, XX_lin]
  refine tells_of (XX g) m hm _ (by omega) (by omega) ?_ fun q hq hne => ?_
  · have hp := peak _ (fmod_in hm)
    rw [if_pos rfl] at hp
    rw [val _ (fmod_in hm), hp, sum_at (sg m) (m.fmod 16) (hi m) l fun p hp => ?_]
    · rw [Int.sub_mul, Int.mul_assoc 2, Int.mul_comm (hi m)]; omega
    · have h := sg_dl m hm p (hl p hp)
      rw [crossed_map] at h
      obtain ⟨h0, h1⟩ := mem_range (fmod_in hm)
      rw [getD_map _ h0 h1] at h
      exact h
  · have hp := peak q hq
    rw [if_neg hne] at hp
    rw [val q hq]
    have := sum_bound (sg m) q hq l fun p hp => ⟨hl p hp, sg_pm m p⟩
    omega
theorem ulr_spec : ∀ (r m a : List Int), r.Nodup → a.Nodup → ulrF r m a = (m ++ r.filter (fun x => decide (x ∉ a)), a.filter fun x => decide (x ∉ r))
  | [], m, a, _, _ => by
    have e : a.filter (fun x => decide (x ∉ ([] : List Int))) = a := List.filter_eq_self.mpr fun x _ => by simp
    rw [e]
    simp [ulrF]
  | x :: r, m, a, hr, ha => by
    have hr' := List.nodup_cons.mp hr
    unfold ulrF
    by_cases hx : x ∈ a
    · rw [if_pos hx, ulr_spec r m (a.erase x) hr'.2 (ha.erase x)]
      have e1 : r.filter (fun y => decide (y ∉ a.erase x)) = r.filter fun y => decide (y ∉ a) := List.filter_congr fun y hy => by
        have hne : y ≠ x := by rintro rfl; exact hr'.1 hy
        simp [List.mem_erase_of_ne hne]
      have e2 : (a.erase x).filter (fun y => decide (y ∉ r)) = a.filter fun y => decide (y ∉ x :: r) := by
        rw [ha.erase_eq_filter, List.filter_filter]
        refine List.filter_congr fun y _ => ?_
        by_cases h1 : y = x <;> by_cases h2 : y ∈ r <;> simp [h1, h2]
      rw [e1, e2]
      simp [hx]
    · rw [if_neg hx, ulr_spec r (m ++ [x]) a hr'.2 ha]
      have e2 : a.filter (fun y => decide (y ∉ r)) = a.filter fun y => decide (y ∉ x :: r) := List.filter_congr fun y hy => by
        have hne : y ≠ x := by rintro rfl; exact hx hy
        simp [hne]
      rw [e2]
      simp [hx]
theorem ulr_good (w d : Int → Int) (keep : Int → Bool) (hw : ∀ p, w p = 0 ∨ w p = 1) (hd : ∀ p ∈ rangeI 16, d p = if keep p then 1 - w p else w p) :
    ulrF ((rangeI 16).filter fun p => w p == 1).reverse [] ((rangeI 16).filter fun p => d p == 1) = (((rangeI 16).filter keep).reverse.filter (fun p => w p == 1), ((rangeI 16).filter keep).filter fun p => w p == 0) := by
  rw [ulr_spec _ _ _ (List.pairwise_reverse.mpr ((range_nodup.filter _).imp fun h => h.symm)) (range_nodup.filter _)]
  simp only [List.nil_append, List.filter_reverse, List.filter_filter]
  congr 1
  · congr 1
    refine List.filter_congr fun p hp => ?_
    have h1 := hd p hp
    have h2 := hw p
    cases hk : keep p <;> simp only [hk, if_true, Bool.false_eq_true, if_false] at h1 <;> rcases h2 with h2 | h2 <;> rw [h2] at h1 <;> simp [h1, h2, hp]
  · refine List.filter_congr fun p hp => ?_
    have h1 := hd p hp
    have h2 := hw p
    cases hk : keep p <;> simp only [hk, if_true, Bool.false_eq_true, if_false] at h1 <;> rcases h2 with h2 | h2 <;> rw [h2] at h1 <;> simp [h1, h2, hp]
/-- a number by its lower figures and the rest -/
noncomputable def H : Nat → (Nat → Int) → Int → Int
  | 0, _, c => c
  | n + 1, d, c => d 0 + 2 * H n (fun i => d (i + 1)) c
noncomputable def Bits (d : Nat → Int) : Prop := ∀ i, d i = 0 ∨ d i = 1
theorem Bits.shift {d : Nat → Int} (h : Bits d) (k : Nat) : Bits fun i => d (i + k) := fun i => h (i + k)
theorem H_half {n : Nat} {d : Nat → Int} {c : Int} (hd : Bits d) : H (n + 1) d c / 2 = H n (fun i => d (i + 1)) c ∧ H (n + 1) d c % 2 = d 0 := by
  show (d 0 + 2 * H n (fun i => d (i + 1)) c) / 2 = _ ∧ (d 0 + 2 * H n (fun i => d (i + 1)) c) % 2 = _
  rcases hd 0 with h | h <;> rw [h] <;> omega
theorem H_div : ∀ (p n : Nat) (d : Nat → Int) (c : Int), Bits d → H (n + p) d c / 2 ^ p = H n (fun i => d (i + p)) c
  | 0, n, d, c, _ => by simp
  | p + 1, n, d, c, hd => by
    have e : (2 : Int) ^ (p + 1) = 2 * 2 ^ p := by rw [Int.pow_succ, Int.mul_comm]
    rw [e, ← Int.ediv_ediv_of_nonneg (by decide)]
    have h := (H_half (n := n + p) (c := c) hd).1
    rw [show n + (p + 1) = n + p + 1 by omega, h, H_div p n _ c (hd.shift 1)]
    congr 1
theorem H_bit {n p : Nat} {d : Nat → Int} {c : Int} (hd : Bits d) (hp : p < n) : H n d c / 2 ^ p % 2 = d p := by
  obtain ⟨k, rfl⟩ : ∃ k, n = k + 1 + p := ⟨n - p - 1, by omega⟩
  rw [H_div p (k + 1) d c hd, (H_half (hd.shift p)).2]
  simp
theorem H_upd : ∀ (n p : Nat) (d : Nat → Int) (v c : Int), p < n → H n (fun i => if i = p then v else d i) c = H n d c + (v - d p) * 2 ^ p
  | 0, _, _, _, _, h => absurd h (Nat.not_lt_zero _)
  | n + 1, 0, d, v, c, _ => by
    show (if 0 = 0 then v else d 0) + 2 * H n (fun i => if i + 1 = 0 then v else d (i + 1)) c = (d 0 + 2 * H n (fun i => d (i + 1)) c) + (v - d 0) * 2 ^ 0
    have e : (fun i => if i + 1 = 0 then v else d (i + 1)) = fun i => d (i + 1) := funext fun i => if_neg (Nat.succ_ne_zero i)
    rw [e, if_pos rfl]
    omega
  | n + 1, p + 1, d, v, c, h => by
    show (if 0 = p + 1 then v else d 0) + 2 * H n (fun i => if i + 1 = p + 1 then v else d (i + 1)) c = (d 0 + 2 * H n (fun i => d (i + 1)) c) + (v - d (p + 1)) * 2 ^ (p + 1)
    have e : (fun i => if i + 1 = p + 1 then v else d (i + 1)) = fun i => if i = p then v else d (i + 1) := funext fun i => by simp
    rw [e, H_upd n p (fun i => d (i + 1)) v c (by omega), if_neg (by omega), Int.pow_succ]
    have e2 : (v - d (p + 1)) * (2 ^ p * 2) = 2 * ((v - d (p + 1)) * 2 ^ p) := by rw [← Int.mul_assoc, Int.mul_comm]
    rw [e2]
    omega
theorem H_split : ∀ (n : Nat) (d : Nat → Int) (c : Int), H n d c = c * 2 ^ n + H n d 0
  | 0, _, c => by simp [H]
  | n + 1, d, c => by
    show d 0 + 2 * H n (fun i => d (i + 1)) c = c * 2 ^ (n + 1) + (d 0 + 2 * H n (fun i => d (i + 1)) 0)
    rw [H_split n _ c, Int.pow_succ]
    have e2 : c * (2 ^ n * 2) = 2 * (c * 2 ^ n) := by rw [← Int.mul_assoc, Int.mul_comm]
    rw [e2]
    omega
theorem H_range : ∀ (n : Nat) (d : Nat → Int), Bits d → 0 ≤ H n d 0 ∧ H n d 0 < 2 ^ n
  | 0, _, _ => by simp [H]
  | n + 1, d, hd => by
    have h := H_range n (fun i => d (i + 1)) (hd.shift 1)
    have e : H (n + 1) d 0 = d 0 + 2 * H n (fun i => d (i + 1)) 0 := rfl
    rw [e, Int.pow_succ]
    rcases hd 0 with h0 | h0 <;> rw [h0] <;> omega
theorem and_zero (x : Int) : Builtin.bitAnd x 0 = 0 := by
  have := (bitAnd_range x (y := 0) (by decide))
  omega
/-- or, xor with a figure -/
theorem or_bit {n p : Nat} {d : Nat → Int} {c b : Int} (hd : Bits d) (hp : p < n) (h0 : d p = 0) (hb : b = 0 ∨ b = 1) : Builtin.bitOr (H n d c) (b * 2 ^ p) = H n (fun i => if i = p then b else d i) c := by
  rw [H_upd n p d b c hp, bitOr_and, h0]
  rcases hb with rfl | rfl
  · simp only [Int.zero_mul, and_zero]; omega
  · rw [Int.one_mul, kbt_bit, H_bit hd hp, h0]; omega
theorem xor_bit {n p : Nat} {d : Nat → Int} {c : Int} (hd : Bits d) (hp : p < n) : Builtin.bitXor (H n d c) (1 * 2 ^ p) = H n (fun i => if i = p then 1 - d p else d i) c := by
  rw [H_upd n p d (1 - d p) c hp, bitXor_and, Int.one_mul, kbt_bit, H_bit hd hp]
  rcases hd p with h | h <;> rw [h] <;> omega
theorem foldl_or (W : Nat → Int) (hW : Bits W) (c : Int) : ∀ (l : List Int) (d : Nat → Int), Bits d → l.Nodup → (∀ p ∈ l, 0 ≤ p ∧ p < 16 ∧ d p.toNat = 0) →
    l.foldl (fun x p => Builtin.bitOr x (W p.toNat * 2 ^ p.toNat)) (H 16 d c) = H 16 (fun i => if (i : Int) ∈ l then W i else d i) c
  | [], d, _, _, _ => by simp
  | p :: l, d, hd, hn, hl => by
    have hn' := List.nodup_cons.mp hn
    obtain ⟨h0, h1, h2⟩ := hl p (.head _)
    rw [List.foldl_cons, or_bit hd (by omega) h2 (hW _), foldl_or W hW c l _ ?_ hn'.2 fun q hq => ?_]
    · congr 1
      funext i
      have hpt : ((p.toNat : Nat) : Int) = p := by omega
      by_cases hi : i = p.toNat
      · subst hi
        simp [hpt]
      · have : (i : Int) ≠ p := by omega
        simp [hi, this]
    · intro i
      dsimp only
      split
      · exact hW _
      · exact hd i
    · obtain ⟨g0, g1, g2⟩ := hl q (.tail _ hq)
      refine ⟨g0, g1, ?_⟩
      have : q.toNat ≠ p.toNat := fun h => hn'.1 (by have : q = p := by omega
                                                     exact this ▸ hq)
      simp [this, g2]
theorem foldl_xor (c : Int) : ∀ (l : List Int) (d : Nat → Int), Bits d → l.Nodup → (∀ p ∈ l, 0 ≤ p ∧ p < 16) → l.foldl xorP (H 16 d c) = H 16 (fun i => if (i : Int) ∈ l then 1 - d i else d i) c
  | [], d, _, _, _ => by simp
  | p :: l, d, hd, hn, hl => by
    have hn' := List.nodup_cons.mp hn
    obtain ⟨h0, h1⟩ := hl p (.head _)
    rw [List.foldl_cons]
    have hx : xorP (H 16 d c) p = H 16 (fun i => if i = p.toNat then 1 - d p.toNat else d i) c := xor_bit hd (by omega)
    rw [hx, foldl_xor c l _ ?_ hn'.2 fun q hq => hl q (.tail _ hq)]
    · congr 1
      funext i
      have hpt : ((p.toNat : Nat) : Int) = p := by omega
      by_cases hi : i = p.toNat
      · subst hi
        simp [hpt, hn'.1]
      · have : (i : Int) ≠ p := by omega
        simp [hi, this]
    · intro i
      dsimp only
      split
      · rcases hd p.toNat with h | h <;> omega
      · exact hd i
theorem and_shift1 (x y : Int) : Builtin.bitAnd x (2 * y) = 2 * Builtin.bitAnd (x / 2) y := by
  rw [kbt_halves x (2 * y), show 2 * y / 2 = y by omega, if_neg (by omega)]; omega
theorem and_odd1 (x y : Int) : Builtin.bitAnd x (2 * y + 1) = 2 * Builtin.bitAnd (x / 2) y + x % 2 := by
  rw [kbt_halves x (2 * y + 1), show (2 * y + 1) / 2 = y by omega]
  split <;> omega
theorem and_shift : ∀ (k : Nat) (x y : Int), Builtin.bitAnd x (2 ^ k * y) = 2 ^ k * Builtin.bitAnd (x / 2 ^ k) y
  | 0, x, y => by simp
  | k + 1, x, y => by
    have e : (2 : Int) ^ (k + 1) = 2 * 2 ^ k := by rw [Int.pow_succ, Int.mul_comm]
    rw [e, Int.mul_assoc, and_shift1, and_shift k, ← Int.ediv_ediv_of_nonneg (by decide), Int.mul_assoc]
theorem and_two (a b : Nat) (x : Int) : Builtin.bitAnd x (2 ^ a * (2 * 2 ^ b + 1)) = x / 2 ^ (a + 1 + b) % 2 * 2 ^ (a + 1 + b) + x / 2 ^ a % 2 * 2 ^ a := by
  rw [and_shift, and_odd1, kbt_bit]
  have e1 : x / 2 ^ a / 2 / 2 ^ b = x / 2 ^ (a + 1 + b) := by
    rw [Int.pow_add, Int.pow_add, ← Int.ediv_ediv_of_nonneg (Int.mul_nonneg (Int.le_of_lt (kbt_pos a)) (by decide)), ← Int.ediv_ediv_of_nonneg (Int.le_of_lt (kbt_pos a))]
    rfl
  rw [e1, Int.mul_add]
  have e2 : (2 : Int) ^ (a + 1 + b) = 2 ^ a * (2 * 2 ^ b) := by rw [Int.pow_add, Int.pow_add, Int.mul_assoc]; rfl
  rw [e2]
  generalize x / (2 ^ a * (2 * 2 ^ b)) % 2 = u
  generalize x / 2 ^ a % 2 = v
  rw [Int.mul_comm v, ← Int.mul_assoc, ← Int.mul_assoc]
  congr 1
  rw [Int.mul_assoc, Int.mul_assoc, Int.mul_left_comm u, Int.mul_left_comm u]
theorem taken_eq (x : Int) : takenOf x = x % 65536 := by
  unfold takenOf
  have e1 : Builtin.bitAnd x 4095 = x % 4096 := kbt_mask x 12
  have e2 : Builtin.bitAnd x 61440 = 4096 * (x / 4096 % 16) := by
    have h := and_shift 12 x 15
    rw [bitAnd_m4] at h
    exact h
  have e3 : Builtin.bitAnd (4096 * (x / 4096 % 16)) (x % 4096) = 0 := by
    rw [bitAnd_comm]
    have h := and_shift 12 (x % 4096) (x / 4096 % 16)
    have h0 : x % 4096 / 2 ^ 12 = 0 := by
      show x % 4096 / 4096 = 0
      omega
    rw [h0, bitAnd_comm 0, and_zero] at h
    exact h
  rw [e1, e2, bitOr_and, e3]
  omega
theorem hit_pos {i : Nat} (hi : ((i : Int) == 0) = false) (x : Int) (p : Int × Nat) : hit i x p = (Builtin.bitAnd x p.1 == p.1) := by
  unfold hit
  rw [hi]; rfl
theorem pick_one {i : Nat} (hi : ((i : Int) == 0) = false) (x b : Int) (c : Nat) : pick i x [(b, c)] = if Builtin.bitAnd x b == b then c else 45 := by
  unfold pick
  rw [hi]
  cases h : (Builtin.bitAnd x b == b) <;> simp [List.findIdx_cons, hit_pos hi, h]
theorem pick_three {i : Nat} (hi : ((i : Int) == 0) = false) (x b1 b2 b3 : Int) (c1 c2 c3 : Nat) : pick i x [(b1, c1), (b2, c2), (b3, c3)] = if Builtin.bitAnd x b1 == b1 then c1 else if Builtin.bitAnd x b2 == b2 then c2 else if Builtin.bitAnd x b3 == b3 then c3 else 45 := by
  unfold pick
  rw [hi]
  cases h1 : (Builtin.bitAnd x b1 == b1) <;> cases h2 : (Builtin.bitAnd x b2 == b2) <;> cases h3 : (Builtin.bitAnd x b3 == b3) <;> simp [List.findIdx_cons, hit_pos hi, h1, h2, h3]
/-- the kind's sign by the upper figures -/
noncomputable def pickK (v : Int) : Nat := match (tabL.getD 0 [])[(tabL.getD 0 []).findIdx fun p => v == p.1]? with
  | some p => p.2
  | none => 63
theorem pick_zero (x : Int) : pick 0 x (tabL.getD 0 []) = pickK (Builtin.bitAnd x 61440) := by
  have e : hit 0 x = fun p => Builtin.bitAnd x 61440 == p.1 := funext fun p => by unfold hit; rfl
  unfold pick pickK
  rw [e]; rfl
theorem kinds : ∀ k ∈ rangeI 16, pickK (4096 * k) = cat (nm "?pc?d?b?-?l?s???") k.toNat := by decide +kernel
theorem bit_one {a : Int} {A : Int} (ha : a = 0 ∨ a = 1) (hA : 0 < A) : (a * A == A) = (a == 1) := by
  rcases ha with rfl | rfl
  · simp; omega
  · simp
theorem two_one {a b A B : Int} (ha : a = 0 ∨ a = 1) (hb : b = 0 ∨ b = 1) (hA : 0 < A) (hB : 0 < B) : (a * A + b * B == A + B) = (a == 1 && b == 1) := by
  rcases ha with rfl | rfl <;> rcases hb with rfl | rfl <;> simp <;> omega
/-- the signs by the figures -/
noncomputable def oneS (a : Int) (c : Nat) : Nat := if a == 1 then c else 45
noncomputable def threeS (a b : Int) (c1 c2 c3 : Nat) : Nat := if a == 1 && b == 1 then c1 else if a == 1 then c2 else if b == 1 then c3 else 45
theorem str_ten (c0 c1 c2 c3 c4 c5 c6 c7 c8 c9 : Nat) : Txt.join (nm "") ([c0, c1, c2, c3, c4, c5, c6, c7, c8, c9].map fun c => (⟨#[c]⟩ : Str)) = ⟨#[c0, c1, c2, c3, c4, c5, c6, c7, c8, c9]⟩ := rfl
theorem signs_eq (x : Int) : signs x = [pick 0 x (tabL.getD 0 []), pick 1 x [(256, 114)], pick 2 x [(128, 119)], pick 3 x [(2112, 115), (2048, 83), (64, 120)], pick 4 x [(32, 114)], pick 5 x [(16, 119)], pick 6 x [(1032, 115), (1024, 83), (8, 120)], pick 7 x [(4, 114)], pick 8 x [(2, 119)],
    pick 9 x [(513, 116), (512, 84), (1, 120)]] := rfl
theorem mode_eq {d : Nat → Int} (hd : Bits d) (c : Int) : modeStr (H 16 d c) = ⟨#[cat (nm "?pc?d?b?-?l?s???") (H 16 d c / 4096 % 16).toNat, oneS (d 8) 114, oneS (d 7) 119, threeS (d 11) (d 6) 115 83 120, oneS (d 5) 114, oneS (d 4) 119, threeS (d 10) (d 3) 115 83 120,
    oneS (d 2) 114, oneS (d 1) 119, threeS (d 9) (d 0) 116 84 120]⟩ := by
  have hb : ∀ p, p < 16 → Builtin.bitAnd (H 16 d c) (2 ^ p) = d p * 2 ^ p := fun p hp => by rw [kbt_bit, H_bit hd hp]
  have h2 : ∀ a b, a + 1 + b < 16 → Builtin.bitAnd (H 16 d c) (2 ^ a * (2 * 2 ^ b + 1)) = d (a + 1 + b) * 2 ^ (a + 1 + b) + d a * 2 ^ a := fun a b hab => by rw [and_two, H_bit hd hab, H_bit hd (by omega)]
  have hk : Builtin.bitAnd (H 16 d c) 61440 = 4096 * (H 16 d c / 4096 % 16) := by
    have h := and_shift 12 (H 16 d c) 15
    rw [bitAnd_m4] at h
    exact h
  have b0 : Builtin.bitAnd (H 16 d c) 1 = d 0 * 1 := hb 0 (by decide)
  have b1 : Builtin.bitAnd (H 16 d c) 2 = d 1 * 2 := hb 1 (by decide)
  have b2 : Builtin.bitAnd (H 16 d c) 4 = d 2 * 4 := hb 2 (by decide)
  have b3 : Builtin.bitAnd (H 16 d c) 8 = d 3 * 8 := hb 3 (by decide)
  have b4 : Builtin.bitAnd (H 16 d c) 16 = d 4 * 16 := hb 4 (by decide)
  have b5 : Builtin.bitAnd (H 16 d c) 32 = d 5 * 32 := hb 5 (by decide)
  have b6 : Builtin.bitAnd (H 16 d c) 64 = d 6 * 64 := hb 6 (by decide)
  have b7 : Builtin.bitAnd (H 16 d c) 128 = d 7 * 128 := hb 7 (by decide)
  have b8 : Builtin.bitAnd (H 16 d c) 256 = d 8 * 256 := hb 8 (by decide)
  have b9 : Builtin.bitAnd (H 16 d c) 512 = d 9 * 512 := hb 9 (by decide)
  have b10 : Builtin.bitAnd (H 16 d c) 1024 = d 10 * 1024 := hb 10 (by decide)
  have b11 : Builtin.bitAnd (H 16 d c) 2048 = d 11 * 2048 := hb 11 (by decide)
  have m1 : Builtin.bitAnd (H 16 d c) 2112 = d 11 * 2048 + d 6 * 64 := h2 6 4 (by decide)
  have m2 : Builtin.bitAnd (H 16 d c) 1032 = d 10 * 1024 + d 3 * 8 := h2 3 6 (by decide)
  have m3 : Builtin.bitAnd (H 16 d c) 513 = d 9 * 512 + d 0 * 1 := h2 0 8 (by decide)
  have hkin : (H 16 d c / 4096 % 16) ∈ rangeI 16 := List.mem_map.mpr ⟨(H 16 d c / 4096 % 16).toNat, List.mem_range.mpr (by omega), by omega⟩
  have one : ∀ (i : Nat) (p A : Int) (q ch : Nat), ((i : Int) == 0) = false → 0 < A → Builtin.bitAnd (H 16 d c) A = d q * A → pick i (H 16 d c) [(A, ch)] = oneS (d q) ch := fun i p A q ch hi hA h => by
    rw [pick_one hi, h, bit_one (hd q) hA]; rfl
  have three : ∀ (i : Nat) (C A B : Int) (q r c1 c2 c3 : Nat), ((i : Int) == 0) = false → C = A + B → 0 < A → 0 < B → Builtin.bitAnd (H 16 d c) C = d q * A + d r * B → Builtin.bitAnd (H 16 d c) A = d q * A → Builtin.bitAnd (H 16 d c) B = d r * B →
      pick i (H 16 d c) [(C, c1), (A, c2), (B, c3)] = threeS (d q) (d r) c1 c2 c3 := fun i C A B q r c1 c2 c3 hi hC hA hB h1 h2 h3 => by
    rw [pick_three hi, h1, h2, h3, hC, two_one (hd q) (hd r) hA hB, bit_one (hd q) hA, bit_one (hd r) hB]; rfl
  unfold modeStr
  rw [signs_eq, pick_zero, hk, kinds _ hkin, one 1 0 256 8 114 rfl (by decide) b8, one 2 0 128 7 119 rfl (by decide) b7, three 3 2112 2048 64 11 6 115 83 120 rfl rfl (by decide) (by decide) m1 b11 b6, one 4 0 32 5 114 rfl (by decide) b5, one 5 0 16 4 119 rfl (by decide) b4,
    three 6 1032 1024 8 10 3 115 83 120 rfl rfl (by decide) (by decide) m2 b10 b3, one 7 0 4 2 114 rfl (by decide) b2, one 8 0 2 1 119 rfl (by decide) b1, three 9 513 512 1 9 0 116 84 120 rfl rfl (by decide) (by decide) m3 b9 b0, str_ten]
theorem one_r (a : Int) (ha : a = 0 ∨ a = 1) : rb (oneS a 114 == 114) = a := by rcases ha with rfl | rfl <;> decide
theorem one_w (a : Int) (ha : a = 0 ∨ a = 1) : rb (oneS a 119 == 119) = a := by rcases ha with rfl | rfl <;> decide
theorem three_x (a b : Int) (ha : a = 0 ∨ a = 1) (hb : b = 0 ∨ b = 1) : rb (xin (threeS a b 115 83 120) (nm "xst")) = b ∧ rb (xin (threeS a b 115 83 120) (nm "SsTt")) = a := by rcases ha with rfl | rfl <;> rcases hb with rfl | rfl <;> decide +kernel
theorem three_t (a b : Int) (ha : a = 0 ∨ a = 1) (hb : b = 0 ∨ b = 1) : rb (xin (threeS a b 116 84 120) (nm "xst")) = b ∧ rb (xin (threeS a b 116 84 120) (nm "SsTt")) = a := by rcases ha with rfl | rfl <;> rcases hb with rfl | rfl <;> decide +kernel
theorem rights_ten (c0 c1 c2 c3 c4 c5 c6 c7 c8 c9 : Nat) : rightsOf ⟨#[c0, c1, c2, c3, c4, c5, c6, c7, c8, c9]⟩ = [rb (xin c9 (nm "xst")), rb (c8 == 119), rb (c7 == 114), rb (xin c6 (nm "xst")), rb (c5 == 119), rb (c4 == 114), rb (xin c3 (nm "xst")), rb (c2 == 119), rb (c1 == 114),
    rb (xin c9 (nm "SsTt")), rb (xin c6 (nm "SsTt")), rb (xin c3 (nm "SsTt"))] := rfl
theorem rights_mode {d : Nat → Int} (hd : Bits d) (c : Int) : rightsOf (modeStr (H 16 d c)) = [d 0, d 1, d 2, d 3, d 4, d 5, d 6, d 7, d 8, d 9, d 10, d 11] := by
  rw [mode_eq hd, rights_ten, one_r _ (hd 2), one_r _ (hd 5), one_r _ (hd 8), one_w _ (hd 1), one_w _ (hd 4), one_w _ (hd 7), (three_t _ _ (hd 9) (hd 0)).1, (three_t _ _ (hd 9) (hd 0)).2, (three_x _ _ (hd 10) (hd 3)).1, (three_x _ _ (hd 10) (hd 3)).2, (three_x _ _ (hd 11) (hd 6)).1, (three_x _ _ (hd 11) (hd 6)).2]
theorem came_eq {d : Nat → Int} (hd : Bits d) : cameOf (H 16 d 0) = (rangeI 16).map fun p => d p.toNat := by
  unfold cameOf
  refine List.map_congr_left fun p hp => ?_
  obtain ⟨h0, h1⟩ := mem_range hp
  rw [bitAnd_m1, Int.fdiv_eq_ediv_of_nonneg _ (Int.le_of_lt (kbt_pos _)), H_bit hd (by omega)]
theorem H_zero : H 16 (fun _ => 0) 0 = 0 := rfl
theorem good_all (m above : Int) (keep : Int → Bool) (hm : m ∈ rangeI 32) (h3 : ((rangeI 16).filter keep).length ≤ 3) : Good m above ((rangeI 16).filter keep) := by
  have hPr : ∀ p ∈ (rangeI 16).filter keep, p ∈ rangeI 16 := fun p hp => (List.mem_filter.mp hp).1
  have hPb : ∀ p ∈ (rangeI 16).filter keep, 0 ≤ p ∧ p < 16 := fun p hp => mem_range (hPr p hp)
  have hPn : ((rangeI 16).filter keep).Nodup := range_nodup.filter _
  have hPk : ∀ p ∈ rangeI 16, (p ∈ (rangeI 16).filter keep ↔ keep p = true) := fun p hp => by simp [List.mem_filter, hp]
  have hWb : Bits fun i => (word m).getD i 0 := fun i => by
    have := word_bit m (i : Int)
    rwa [Int.toNat_natCast] at this
  have hW'b : Bits fun i => if (i : Int) ∈ rangeI 16 then (word m).getD i 0 else 0 := fun i => by
    dsimp only
    split
    · exact hWb i
    · exact .inl rfl
  have hA : numA m above = H 16 (fun i => if (i : Int) ∈ rangeI 16 then (word m).getD i 0 else 0) above := by
    have h := foldl_or (fun i => (word m).getD i 0) hWb above (rangeI 16) (fun _ => 0) (fun _ => .inl rfl) range_nodup fun p hp => ⟨(mem_range hp).1, (mem_range hp).2, rfl⟩
    rw [H_split 16 (fun _ => 0) above, H_zero, Int.add_zero] at h
    exact h
  have hN : num m above ((rangeI 16).filter keep) = H 16 (fun i => if (i : Int) ∈ (rangeI 16).filter keep then 1 - (if (i : Int) ∈ rangeI 16 then (word m).getD i 0 else 0) else (if (i : Int) ∈ rangeI 16 then (word m).getD i 0 else 0)) above := by
    unfold num
    rw [hA]
    exact foldl_xor above _ _ hW'b hPn hPb
  have hd : Bits fun i => if (i : Int) ∈ (rangeI 16).filter keep then 1 - (if (i : Int) ∈ rangeI 16 then (word m).getD i 0 else 0) else (if (i : Int) ∈ rangeI 16 then (word m).getD i 0 else 0) := fun i => by
    dsimp only
    split
    · rcases hW'b i with h | h <;> dsimp only at h <;> rw [h] <;> decide
    · exact hW'b i
  have hdp : ∀ p ∈ rangeI 16, (fun (i : Nat) => if (i : Int) ∈ (rangeI 16).filter keep then 1 - (if (i : Int) ∈ rangeI 16 then (word m).getD i 0 else 0) else (if (i : Int) ∈ rangeI 16 then (word m).getD i 0 else 0)) p.toNat = if keep p then 1 - (word m).getD p.toNat 0 else (word m).getD p.toNat 0 := fun p hp => by
    have e : ((p.toNat : Nat) : Int) = p := by have := mem_range hp; omega
    dsimp only
    rw [e, if_pos hp]
    by_cases hk : keep p = true
    · rw [if_pos ((hPk p hp).mpr hk), if_pos hk]
    · rw [if_neg fun h => hk ((hPk p hp).mp h), if_neg hk]
  generalize (fun (i : Nat) => if (i : Int) ∈ (rangeI 16).filter keep then 1 - (if (i : Int) ∈ rangeI 16 then (word m).getD i 0 else 0) else (if (i : Int) ∈ rangeI 16 then (word m).getD i 0 else 0)) = d at hN hd hdp
  have hT : takenOf (num m above ((rangeI 16).filter keep)) = H 16 d 0 := by
    rw [taken_eq, hN, H_split 16 d above]
    have h := H_range 16 d hd
    have e : (2 : Int) ^ 16 = 65536 := rfl
    rw [e] at h ⊢
    omega
  have hR := H_range 16 d hd
  have hC := came_eq hd
  have hrow : rowOf (cameOf (H 16 d 0)) = (rangeI 16).map fun p => 1 - 2 * d p.toNat := by
    rw [hC]; unfold rowOf; rw [List.map_map]; rfl
  have hwp : ∀ p : Int, (word m).getD p.toNat 0 = 0 ∨ (word m).getD p.toNat 0 = 1 := fun p => word_bit m p
  refine ⟨hm, hPb, by omega, ?_, ?_, ?_, ?_, ?_, ?_, ?_, ?_, ?_⟩
  · rw [hT]; exact hR.1
  · rw [hT]; exact hR.2
  · rw [hT, hrow]
    refine tells_row m hm _ hPr h3 _ fun i hi => ?_
    rw [hdp i hi, S_mem (sg m) i _ hPn]
    unfold sg
    by_cases hk : keep i = true
    · rw [if_pos hk, if_pos ((hPk i hi).mpr hk)]; omega
    · rw [if_neg hk, if_neg fun h => hk ((hPk i hi).mp h)]; omega
  · rw [hT, hrow]
    exact crossed_twice _
  · rw [hT, hC]
    have e1 : onesOf ((rangeI 16).map fun p => d p.toNat) = (rangeI 16).filter fun p => d p.toNat == 1 := by
      unfold onesOf
      refine List.filter_congr fun p hp => ?_
      obtain ⟨h0, h1⟩ := mem_range hp
      rw [getD_map _ h0 h1]
    rw [e1]
    exact ulr_good (fun p => (word m).getD p.toNat 0) (fun p => d p.toNat) keep hwp hdp
  · rw [hN, mode_eq hd]; rfl
  · rw [hT, hN, mode_eq hd]
    have e : (H 16 d 0).fdiv 4096 = H 16 d above / 4096 % 16 := by
      rw [Int.fdiv_eq_ediv_of_nonneg _ (by decide), H_split 16 d above]
      have e : (2 : Int) ^ 16 = 65536 := rfl
      rw [e] at hR ⊢
      omega
    rw [e]; rfl
  · rw [hT, hN, rights_mode hd, hC]; rfl
  · intro hl
    rw [hT, hC]
    have e : rowOf (((rangeI 16).map fun p => d p.toNat).take 12) ++ [0, 0, 0, 0] = (rangeI 16).map fun p => if p < 12 then 1 - 2 * d p.toNat else 0 := rfl
    rw [e]
    have hn2 : (((rangeI 16).filter keep).filter fun p => decide (p < 12)).Nodup := hPn.filter _
    refine tells_row12 m hm _ (fun p hp => hPr p (List.mem_filter.mp hp).1) hl _ fun i hi => ?_
    rw [S_mem (sg m) i _ hn2, hdp i hi]
    unfold sg12 sg
    by_cases h12 : i < 12
    · rw [if_pos h12, if_pos h12]
      by_cases hk : keep i = true
      · rw [if_pos hk, if_pos (List.mem_filter.mpr ⟨(hPk i hi).mpr hk, decide_eq_true h12⟩)]; omega
      · rw [if_neg hk, if_neg fun h => hk ((hPk i hi).mp (List.mem_filter.mp h).1)]; omega
    · have hno : ¬ i ∈ ((rangeI 16).filter keep).filter fun p => decide (p < 12) := fun h => h12 (of_decide_eq_true (List.mem_filter.mp h).2)
      rw [if_neg h12, if_neg h12, if_neg hno]; rfl
section
set_option maxRecDepth 100000
set_option maxHeartbeats 8000000
theorem lit_all {α : Type} {h : Heap} {f : α → WData} {g : α → D} (hfg : ∀ a v as, ReadsLit h v (f a) as → Is h v (g a)) : ∀ (l : List α) (vs : List Value) (as : List Addr), ReadsAllW [] (fun _ => none) h vs (l.map f) as → IsL h vs (l.map g)
  | [], _, _, .nil => .nil
  | a :: l, _, _, .cons r1 r2 => .cons (hfg a _ _ r1) (lit_all hfg l _ _ r2)
theorem lit_tup {α : Type} {h : Heap} {f : α → WData} {g : α → D} (hfg : ∀ a v as, ReadsLit h v (f a) as → Is h v (g a)) (l : List α) (v : Value) (as : List Addr) (x : ReadsLit h v (.tuple (l.map f)) as) : Is h v (.tup (l.map g)) := by
  cases x with | tuple ho hc hd r =>
  rename_i a o vs n
  exact .tup (vs := vs.toList) ⟨o, ho, hc, n, by simpa using hd⟩ (lit_all hfg l _ _ r)
noncomputable def pairW (p : Int × Nat) : WData := .tuple [.int p.1, .str ⟨#[p.2]⟩]
theorem lit_pair {h : Heap} (p : Int × Nat) (v : Value) (as : List Addr) (x : ReadsLit h v (pairW p) as) : Is h v (pairD p) := by
  unfold pairW at x
  cases x with | tuple ho hc hd r =>
  rename_i a o vs n
  refine .tup (vs := vs.toList) ⟨o, ho, hc, n, by simpa using hd⟩ ?_
  generalize vs.toList = l at r
  cases r with | cons r1 r =>
  cases r with | cons r2 r =>
  cases r
  cases r1
  cases r2
  exact .cons .int (.cons .str .nil)
noncomputable def lv : List (Str × WData) := [(Str.ofString "_filemode_table", .tuple (tabL.map fun r => .tuple (r.map pairW)))]
theorem tab_of {mg : Str → Option Value} {h : Heap} (V : LooseAre lv mg h) : ∃ v, mg (nm "_filemode_table") = some v ∧ Is h v tabD := by
  obtain ⟨v, hv, r⟩ := V.val _ (.head _)
  exact ⟨v, hv, lit_tup (fun r v as x => lit_tup lit_pair r v as x) tabL v _ r⟩
theorem glue_core (hgood : ∀ (m above : Int) (keep : Int → Bool), m ∈ rangeI 32 → -32768 ≤ above → above < 32768 → ((rangeI 16).filter keep).length ≤ 3 → Good m above ((rangeI 16).filter keep)) {w : World} {s₀ s₁ : Shared} {mg mb : Str → Option Value} {fa : Addr}
    (T : Top Mine.vw (looseW Mine.vw [Str.ofString "_filemode_table"]) (ExcName.means s₀.heap) mg mb s₁.heap) (V : LooseAre lv mg s₁.heap) (hmg : mg (Str.ofString "law") = some (.ref fa)) (hg : s₁.gens = #[]) {ns : List Int} {a : Addr} {vs : List Value}
    (hL : s₁.heap.IsList a vs.toArray) (hI : IntsAre vs ns) (hlen : ¬ ((63 : Nat) : Int) < (ns.length : Int)) :
    wpAny (model PySem.Challenge.rw_oy0100_01.row.prog w) callerA (call (.ref fa) [.ref a])
      (fun v s' => GoodWG PySem.Challenge.rw_oy0100_01.row.toRowW.claim (classAt s₀.heap) (ExcName.means s₀.heap) [ofPy (.list (ns.map PyData.int))] s₁ (.ok (.ret v)) s')
      (fun e s' => GoodWG PySem.Challenge.rw_oy0100_01.row.toRowW.claim (classAt s₀.heap) (ExcName.means s₀.heap) [ofPy (.list (ns.map PyData.int))] s₁ (.error e) s') s₁ := by
  have M : Mn (Base.mk PySem.Challenge.rw_oy0100_01.row.prog w s₁.heap Mine.vw (looseW Mine.vw [Str.ofString "_filemode_table"]) (ExcName.means s₀.heap) mg mb T 1) := ⟨rfl, rfl, Nat.one_pos⟩
  obtain ⟨a', o', fd, h1, h2, h3, hc⟩ := fn_law M (n := 0) (tab_of V) rfl hgood ns (by omega)
  have ea : a' = fa := by
    have : mg (Str.ofString "law") = some (.ref a') := h1
    rw [hmg] at this; cases this; rfl
  subst ea
  refine hc callerA s₁ (.ref a) _ _ ⟨rfl, by decide, by decide⟩ rfl (Kp.refl _) (.list hL (are_ints hI)) fun h' tk' k => ?_
  refine GoodW.toG ⟨.inl ⟨.bool true, .bool true, [], rfl, raisesW_false ?_, ReadsW.bool true, ?_, unshared_nil⟩, k, rfl, hg⟩
  · wrow_none_raised
  · wrow_post
theorem glue : PySem.Challenge.rw_oy0100_01.Holds := by
  w_on; o_law; o_head Hook.none; (case hw => w_witness2)
  intro w s₀ s₁ mg mb G Y fa o pm cd doc dV kV ho hd hcd hD hmg hg args vals as hpre hlay hrd hwl hlo
  have V := (Ground.X G).2
  have T := G.T
  clear Y G
  wrow_args hpre hlay hrd hwl hlo
  exact glue_core (fun m above keep hm _ _ h3 => good_all m above keep hm h3) T V hmg hg (by assumption) (by assumption) (by assumption)
end
end Mine
theorem PySem.Challenge.cw_oy0100_01_holds : PySem.Challenge.rw_oy0100_01.Holds := by
  exact Mine.glue
