import PyProof.Rows.All
import Wide.All
import OpenK.AllK
import Wide.FinOn
import PySem.Challenge.RW_xp0030_01
set_option Elab.async false
set_option maxRecDepth 100000
section
open PySem PySem.W PySem.Calls PySem.Spec PyProof.Rows
set_option Elab.async false
set_option maxRecDepth 100000
namespace Mine

/-! ## heaps that grow, and what is hidden -/
noncomputable abbrev Le (h h' : Heap) : Prop := h.StaysIn h'
theorem le_rfl {h : Heap} : Le h h := fun _ _ e => e
theorem Le.trans {a b c : Heap} (x : Le a b) (y : Le b c) : Le a c := fun p o e => y p o (x p o e)
theorem le_push (h : Heap) (o : Obj) : Le h (h.push o) := fun _ _ e => Heap.get?_push_of_some _ e

theorem hide_le (W : List Addr) (h : Heap) : Le (hideAll h W) h := fun _ _ e => of_hideAll W e
theorem hide_get {W : List Addr} {h : Heap} {b : Addr} {o : Obj} (e : (hideAll h W).get? b = some o) : h.get? b = some o ∧ b ∉ W := by
  refine ⟨of_hideAll W e, fun hb => ?_⟩
  rw [hideAll_none W hb] at e; cases e
theorem hide_mono {W W' : List Addr} {h h' : Heap} (hs : ∀ a ∈ W', a ∈ W) (hk : ∀ b o, b ∉ W → h.get? b = some o → h'.get? b = some o) : Le (hideAll h W) (hideAll h' W') := fun b o e => by
  obtain ⟨e1, e2⟩ := hide_get e
  exact hideAll_get W' (hk b o e2 e1) fun q => e2 (hs b q)
theorem hide_le_of {W : List Addr} {h h' : Heap} (k : Le h h') : Le (hideAll h W) (hideAll h' W) := hide_mono (fun _ x => x) fun b o _ e => k b o e

mutual
inductive Rp (h : Heap) : Value → PyData → Prop
  | none : Rp h .none .none
  | bool (b : Bool) : Rp h (.bool b) (.bool b)
  | int (i : Int) (t : Tok) : Rp h (.int i t) (.int i)
  | str (x : Str) (t : Tok) : Rp h (.str x t) (.str x)
  | raw (a : Addr) : Rp h (.ref a) (.dict [(.int (a : Nat), .none)])
  | list {a : Addr} {o : Obj} {vs : Array Value} {n : Nat} {ds : List PyData} : h.get? a = some o → o.cls = .type "list" → o.dict = .none → o.data = .seq vs n → RpL h vs.toList ds → Rp h (.ref a) (.list ds)
  | tuple {a : Addr} {o : Obj} {vs : Array Value} {n : Nat} {ds : List PyData} : h.get? a = some o → o.cls = .type "tuple" → o.dict = .none → o.data = .seq vs n → RpL h vs.toList ds → Rp h (.ref a) (.tuple ds)
inductive RpL (h : Heap) : List Value → List PyData → Prop
  | nil : RpL h [] []
  | cons {v : Value} {vs : List Value} {d : PyData} {ds : List PyData} : Rp h v d → RpL h vs ds → RpL h (v :: vs) (d :: ds)
end
theorem Rp.int_inv {h : Heap} {v : Value} {i : Int} (x : Rp h v (.int i)) : ∃ t, v = .int i t := by cases x; exact ⟨_, rfl⟩
theorem Rp.str_inv {h : Heap} {v : Value} {i : Str} (x : Rp h v (.str i)) : ∃ t, v = .str i t := by cases x; exact ⟨_, rfl⟩
theorem Rp.bool_inv {h : Heap} {v : Value} {i : Bool} (x : Rp h v (.bool i)) : v = .bool i := by cases x; rfl
theorem RpL.nil_inv {h : Heap} {vs : List Value} (r : RpL h vs []) : vs = [] := by cases r; rfl
theorem RpL.cons_inv {h : Heap} {vs : List Value} {d : PyData} {ds : List PyData} (r : RpL h vs (d :: ds)) : ∃ v us, vs = v :: us ∧ Rp h v d ∧ RpL h us ds := by
  cases r with
  | cons a b => exact ⟨_, _, rfl, a, b⟩
theorem RpL.of1 {h : Heap} {vs : List Value} {a : PyData} (r : RpL h vs [a]) : ∃ x, vs = [x] ∧ Rp h x a := by
  obtain ⟨x, us, rfl, p, r⟩ := r.cons_inv
  obtain rfl := r.nil_inv
  exact ⟨x, rfl, p⟩
theorem RpL.of2 {h : Heap} {vs : List Value} {a b : PyData} (r : RpL h vs [a, b]) : ∃ x y, vs = [x, y] ∧ Rp h x a ∧ Rp h y b := by
  obtain ⟨x, us, rfl, p, r⟩ := r.cons_inv
  obtain ⟨y, rfl, q⟩ := r.of1
  exact ⟨x, y, rfl, p, q⟩
theorem RpL.of3 {h : Heap} {vs : List Value} {a b c : PyData} (r : RpL h vs [a, b, c]) : ∃ x y z, vs = [x, y, z] ∧ Rp h x a ∧ Rp h y b ∧ Rp h z c := by
  obtain ⟨x, us, rfl, p, r⟩ := r.cons_inv
  obtain ⟨y, z, rfl, q⟩ := r.of2
  exact ⟨x, y, z, rfl, p, q⟩
theorem RpL.of4 {h : Heap} {vs : List Value} {a b c d : PyData} (r : RpL h vs [a, b, c, d]) : ∃ x y z u, vs = [x, y, z, u] ∧ Rp h x a ∧ Rp h y b ∧ Rp h z c ∧ Rp h u d := by
  obtain ⟨x, us, rfl, p, r⟩ := r.cons_inv
  obtain ⟨y, z, u, rfl, q⟩ := r.of3
  exact ⟨x, y, z, u, rfl, p, q⟩
mutual
theorem Rp.mono {h h' : Heap} (k : Le h h') : ∀ {v : Value} {d : PyData}, Rp h v d → Rp h' v d
  | _, _, .none => .none
  | _, _, .bool b => .bool b
  | _, _, .int i t => .int i t
  | _, _, .str x t => .str x t
  | _, _, .raw a => .raw a
  | _, _, .list e c d s r => .list (k _ _ e) c d s (RpL.mono k r)
  | _, _, .tuple e c d s r => .tuple (k _ _ e) c d s (RpL.mono k r)
theorem RpL.mono {h h' : Heap} (k : Le h h') : ∀ {vs : List Value} {ds : List PyData}, RpL h vs ds → RpL h' vs ds
  | _, _, .nil => .nil
  | _, _, .cons x r => .cons (Rp.mono k x) (RpL.mono k r)
end
mutual
theorem Rp.reads {h : Heap} : ∀ {v : Value} {d : PyData}, Rp h v d → d.canLay0 = true → ∃ as, Reads h v d as
  | _, _, .none, _ => ⟨_, .none⟩
  | _, _, .bool b, _ => ⟨_, .bool b⟩
  | _, _, .int i t, _ => ⟨_, .int i t⟩
  | _, _, .str x t, _ => ⟨_, .str x t⟩
  | _, _, .raw a, q => by simp [PyData.canLay0] at q
  | _, _, .list e c _ s r, q => let ⟨as, q⟩ := RpL.reads r (by simpa [PyData.canLay0] using q); ⟨_, .list e c s q⟩
  | _, _, .tuple e c _ s r, q => let ⟨as, q⟩ := RpL.reads r (by simpa [PyData.canLay0] using q); ⟨_, .tuple e c s q⟩
theorem RpL.reads {h : Heap} : ∀ {vs : List Value} {ds : List PyData}, RpL h vs ds → PyData.canLayAll0 ds = true → ∃ as, ReadsAll h vs ds as
  | _, _, .nil, _ => ⟨_, .nil⟩
  | _, _, .cons x r, q => by
    have q' := Bool.and_eq_true_iff.mp (show (_ && _) = true by simpa [PyData.canLayAll0] using q)
    exact let ⟨as, q⟩ := Rp.reads x q'.1; let ⟨bs, p⟩ := RpL.reads r q'.2; ⟨_, .cons q p⟩
end
/-- a name of an object that may change -/
noncomputable abbrev rawD (a : Addr) : PyData := .dict [(.int (a : Nat), .none)]
namespace RpL
variable {h : Heap} {vs ws : List Value} {ds es : List PyData} {v : Value} {d : PyData}
theorem length (x : RpL h vs ds) : vs.length = ds.length := by
  induction vs generalizing ds with
  | nil => cases x; rfl
  | cons v vs ih => cases x with | cons _ r => rw [List.length_cons, List.length_cons, ih r]
theorem append (x : RpL h vs ds) (y : RpL h ws es) : RpL h (vs ++ ws) (ds ++ es) := by
  induction vs generalizing ds with
  | nil => cases x; exact y
  | cons v vs ih => cases x with | cons a r => exact .cons a (ih r)
theorem one (x : Rp h v d) : RpL h [v] [d] := .cons x .nil
theorem snoc (x : RpL h vs ds) (y : Rp h v d) : RpL h (vs ++ [v]) (ds ++ [d]) := x.append (.one y)
theorem get (x : RpL h vs ds) {i : Nat} (e : ds[i]? = some d) : ∃ v, vs[i]? = some v ∧ Rp h v d := by
  induction vs generalizing ds i with
  | nil => cases x; simp at e
  | cons v vs ih =>
    cases x with
    | cons a r =>
      cases i with
      | zero => simp only [List.getElem?_cons_zero, Option.some.injEq] at e; subst e; exact ⟨v, rfl, a⟩
      | succ i => simp only [List.getElem?_cons_succ] at e ⊢; exact ih r e
theorem getV (x : RpL h vs ds) {i : Nat} {v : Value} (e : vs[i]? = some v) : ∃ d, ds[i]? = some d ∧ Rp h v d := by
  induction vs generalizing ds i with
  | nil => simp at e
  | cons v' vs ih =>
    cases x with
    | cons a r =>
      cases i with
      | zero => simp only [List.getElem?_cons_zero, Option.some.injEq] at e; subst e; exact ⟨_, rfl, a⟩
      | succ i => simp only [List.getElem?_cons_succ] at e ⊢; exact ih r e
theorem take (x : RpL h vs ds) (i : Nat) : RpL h (vs.take i) (ds.take i) := by
  induction vs generalizing ds i with
  | nil => cases x; simp only [List.take_nil]; exact .nil
  | cons v vs ih =>
    cases x with
    | cons a r => cases i with
      | zero => exact .nil
      | succ i => exact .cons a (ih r i)
theorem drop (x : RpL h vs ds) (i : Nat) : RpL h (vs.drop i) (ds.drop i) := by
  induction vs generalizing ds i with
  | nil => cases x; simp only [List.drop_nil]; exact .nil
  | cons v vs ih =>
    cases x with
    | cons a r => cases i with
      | zero => exact .cons a r
      | succ i => exact ih r i
end RpL

/-- a step of the state: the heap grows, the streams stay, the generators stay bare -/
structure Grow (s s' : Shared) : Prop where
  heap : Le s.heap s'.heap
  os : s'.os = s.os
  gens : AllBare s.gens → AllBare s'.gens
theorem Grow.rfl {s : Shared} : Grow s s := ⟨le_rfl, Eq.refl _, id⟩
theorem Grow.trans {a b c : Shared} (x : Grow a b) (y : Grow b c) : Grow a c := ⟨x.heap.trans y.heap, y.os.trans x.os, fun g => y.gens (x.gens g)⟩
theorem Grow.to {s : Shared} {h' : Heap} {tk : Nat} (k : Le s.heap h') : Grow s { s with heap := h', toks := tk } := ⟨k, Eq.refl _, id⟩
theorem Grow.push (s : Shared) (o : Obj) : Grow s { s with heap := s.heap.push o } := ⟨le_push _ _, Eq.refl _, id⟩
theorem Grow.tok (s : Shared) (tk : Nat) : Grow s { s with toks := tk } := ⟨le_rfl, Eq.refl _, id⟩

/-- what is hidden lies there -/
noncomputable def There (W : List Addr) (h : Heap) : Prop := ∀ a ∈ W, ∃ o, h.get? a = some o
theorem There.mono {W : List Addr} {h h' : Heap} (x : There W h) (k : Le h h') : There W h' := fun a ha => let ⟨o, e⟩ := x a ha; ⟨o, k _ _ e⟩
theorem There.new {W : List Addr} {h : Heap} (x : There W h) : h.objs.size ∉ W := fun hm => let ⟨_, e⟩ := x _ hm; Nat.lt_irrefl _ (Heap.lt_size e)
theorem hide_push {W : List Addr} {h : Heap} (x : There W h) {o : Obj} (hf : o.isFreed = false) : (hideAll (h.push o) W).get? h.objs.size = some o := hideAll_get W (Heap.get?_push_size _ hf) x.new

section
variable {prog : Program} {w : World} {A : Around} {W : List Addr} {h₀ h₁ : Heap} {env : Env}

/-- a pure tree: from any state over h₀ it hands back d, and the heap only grows -/
noncomputable def Ev (prog : Program) (w : World) (A : Around) (W : List Addr) (h₀ : Heap) (t : Sem Value) (d : PyData) : Prop :=
  ∀ (s : Shared) (Q E : Value → Shared → Prop), Le h₀ s.heap → (∀ v s', Grow s s' → Rp (hideAll s'.heap W) v d → Q v s') → wpAny (model prog w) A t Q E s
noncomputable def EvB (prog : Program) (w : World) (A : Around) (h₀ : Heap) (t : Sem Bool) (b : Bool) : Prop :=
  ∀ (s : Shared) (Q : Bool → Shared → Prop) (E : Value → Shared → Prop), Le h₀ s.heap → (∀ s', Grow s s' → Q b s') → wpAny (model prog w) A t Q E s
/-- operations upon given values -/
noncomputable def Op (prog : Program) (w : World) (A : Around) (W : List Addr) (h₀ : Heap) (ds : List PyData) (t : List Value → Sem Value) (d : PyData) : Prop :=
  ∀ (s : Shared) (vs : List Value) (Q E : Value → Shared → Prop), Le h₀ s.heap → RpL (hideAll s.heap W) vs ds → (∀ v s', Grow s s' → Rp (hideAll s'.heap W) v d → Q v s') → wpAny (model prog w) A (t vs) Q E s

/-- what an operation upon two values gives -/
noncomputable def Op2 (prog : Program) (w : World) (A : Around) (W : List Addr) (h : Heap) (op : Value → Value → Sem Value) (a b d : PyData) : Prop :=
  ∀ (s : Shared) (u v : Value) (Q E : Value → Shared → Prop), Le h s.heap → Rp (hideAll s.heap W) u a → Rp (hideAll s.heap W) v b → (∀ v s', Grow s s' → Rp (hideAll s'.heap W) v d → Q v s') → wpAny (model prog w) A (op u v) Q E s
/-- what a call of a built-in gives -/
noncomputable def OpN (prog : Program) (w : World) (A : Around) (W : List Addr) (h : Heap) (f : Value) (ds : List PyData) (d : PyData) : Prop :=
  ∀ (s : Shared) (vs : List Value) (Q E : Value → Shared → Prop), Le h s.heap → RpL (hideAll s.heap W) vs ds → (∀ v s', Grow s s' → Rp (hideAll s'.heap W) v d → Q v s') → wpAny (model prog w) A (PySem.call f vs) Q E s

theorem Ev.mono {t : Sem Value} {d : PyData} (x : Ev prog w A W h₀ t d) (k : Le h₀ h₁) : Ev prog w A W h₁ t d := fun s Q E hs hQ => x s Q E (k.trans hs) hQ
theorem EvB.mono {t : Sem Bool} {b : Bool} (x : EvB prog w A h₀ t b) (k : Le h₀ h₁) : EvB prog w A h₁ t b := fun s Q E hs hQ => x s Q E (k.trans hs) hQ
theorem Ev.of {t : Sem Value} {v : Value} {d : PyData} (hv : ∀ h, Le h₀ h → Rp (hideAll h W) v d) (h : ∀ (s : Shared) (Q E : Value → Shared → Prop), Le h₀ s.heap → (∀ s', s'.heap = s.heap → Grow s s' → Q v s') → wpAny (model prog w) A t Q E s) : Ev prog w A W h₀ t d :=
  fun s Q E hs hQ => h s Q E hs fun s' e g => hQ v s' g (hv _ (by rw [e]; exact hs))

/-! ## constants -/
theorem Ev.int {i : Int} {k : Nat} {pos : Pos} : Ev prog w A W h₀ (eval (.Constant (.int i) k pos) env) (.int i) := fun s _ _ _ hQ => wpAny_Constant_int (hQ _ _ (Grow.tok s _) (.int ..))
theorem Ev.str {x : Str} {k : Nat} {pos : Pos} : Ev prog w A W h₀ (eval (.Constant (.str x) k pos) env) (.str x) := fun s _ _ _ hQ => wpAny_Constant_str (hQ _ _ (Grow.tok s _) (.str ..))
theorem Ev.bool {b : Bool} {k : Nat} {pos : Pos} : Ev prog w A W h₀ (eval (.Constant (.bool b) k pos) env) (.bool b) := fun _ _ _ _ hQ => wpAny_Constant_bool (hQ _ _ .rfl (.bool ..))

/-! ## operators -/
theorem Ev.bin {l r : Expr} {op : Operator} {pos : Pos} {a b d : PyData} (x : Ev prog w A W h₀ (eval l env) a) (y : Ev prog w A W h₀ (eval r env) b)
    (o : Op2 prog w A W h₀ (binaryOp op) a b d) :
    Ev prog w A W h₀ (eval (.BinOp l op r pos) env) d := fun s Q E hs hQ =>
  wpAny_BinOp (x s _ _ hs fun u s₁ g₁ r₁ => y s₁ _ _ (hs.trans g₁.heap) fun v s₂ g₂ r₂ => o s₂ u v Q E (hs.trans (g₁.trans g₂).heap) (r₁.mono (hide_le_of g₂.heap)) r₂ fun v s₃ g₃ r₃ => hQ v s₃ (g₁.trans (g₂.trans g₃)) r₃)
theorem Ev.cmp {l r : Expr} {op : CmpOp} {pos : Pos} {a b : PyData} {d : PyData} (x : Ev prog w A W h₀ (eval l env) a) (y : Ev prog w A W h₀ (eval r env) b)
    (o : Op2 prog w A W h₀ (compareOp op) a b d)
    (hb : behindInMarks op r = false := by kernel_rfl) :
    Ev prog w A W h₀ (eval (.Compare l [op] [r] pos) env) d := fun s Q E hs hQ =>
  wpAny_Compare1 (x s _ _ hs fun u s₁ g₁ r₁ => y s₁ _ _ (hs.trans g₁.heap) fun v s₂ g₂ r₂ => o s₂ u v Q E (hs.trans (g₁.trans g₂).heap) (r₁.mono (hide_le_of g₂.heap)) r₂ fun v s₃ g₃ r₃ => hQ v s₃ (g₁.trans (g₂.trans g₃)) r₃) hb
theorem EvB.cmp {l r : Expr} {op : CmpOp} {pos : Pos} {a b : PyData} {c : Bool} {whole : Sem Value} (x : Ev prog w A W h₀ (eval l env) a) (y : Ev prog w A W h₀ (eval r env) b)
    (o : Op2 prog w A W h₀ (compareOp op) a b (.bool c))
    (hb : behindInMarks op r = false := by kernel_rfl) :
    EvB prog w A h₀ (isTrue (.Compare l [op] [r] pos) env whole) c := fun s Q E hs hQ =>
  wpAny_isTrue_Compare1 (x s _ _ hs fun u s₁ g₁ r₁ => y s₁ _ _ (hs.trans g₁.heap) fun v s₂ g₂ r₂ => o s₂ u v _ _ (hs.trans (g₁.trans g₂).heap) (r₁.mono (hide_le_of g₂.heap)) r₂ fun v s₃ g₃ r₃ => by
    cases r₃; exact wpAny_truthy_bool (hQ s₃ (g₁.trans (g₂.trans g₃)))) hb

theorem op_add {a b : Int} : Op2 prog w A W h₀ (binaryOp .Add) (.int a) (.int b) (.int (a + b)) := fun s u v Q E _ x y hQ => by
  obtain ⟨_, rfl⟩ := x.int_inv; obtain ⟨_, rfl⟩ := y.int_inv; exact add_int (hQ _ _ (Grow.tok s _) (.int ..))
theorem op_sub {a b : Int} : Op2 prog w A W h₀ (binaryOp .Sub) (.int a) (.int b) (.int (a - b)) := fun s u v Q E _ x y hQ => by
  obtain ⟨_, rfl⟩ := x.int_inv; obtain ⟨_, rfl⟩ := y.int_inv; exact sub_int (hQ _ _ (Grow.tok s _) (.int ..))
theorem op_mod {a b : Int} (hb : b ≠ 0) : Op2 prog w A W h₀ (binaryOp .Mod) (.int a) (.int b) (.int (a.fmod b)) := fun s u v Q E _ x y hQ => by
  obtain ⟨_, rfl⟩ := x.int_inv; obtain ⟨_, rfl⟩ := y.int_inv; exact mod_int' hb (hQ _ _ (Grow.tok s _) (.int ..))
theorem op_addS {a b : Str} (hz : a.length + b.length ≤ sizeLine) : Op2 prog w A W h₀ (binaryOp .Add) (.str a) (.str b) (.str (a ++ b)) := fun s u v Q E _ x y hQ => by
  obtain ⟨_, rfl⟩ := x.str_inv; obtain ⟨_, rfl⟩ := y.str_inv; exact add_str (fun t' tk => hQ _ _ (Grow.tok s _) (.str ..)) hz
theorem op_lt {a b : Int} : Op2 prog w A W h₀ (compareOp .Lt) (.int a) (.int b) (.bool (decide (a < b))) := fun s u v Q E _ x y hQ => by
  obtain ⟨_, rfl⟩ := x.int_inv; obtain ⟨_, rfl⟩ := y.int_inv; exact lt_int (hQ _ _ .rfl (.bool ..))
theorem op_gt {a b : Int} : Op2 prog w A W h₀ (compareOp .Gt) (.int a) (.int b) (.bool (decide (b < a))) := fun s u v Q E _ x y hQ => by
  obtain ⟨_, rfl⟩ := x.int_inv; obtain ⟨_, rfl⟩ := y.int_inv; exact gt_int (hQ _ _ .rfl (.bool ..))
theorem op_le {a b : Int} : Op2 prog w A W h₀ (compareOp .LtE) (.int a) (.int b) (.bool (decide (a ≤ b))) := fun s u v Q E _ x y hQ => by
  obtain ⟨_, rfl⟩ := x.int_inv; obtain ⟨_, rfl⟩ := y.int_inv; exact le_int (hQ _ _ .rfl (.bool ..))
theorem op_eqI {a b : Int} : Op2 prog w A W h₀ (compareOp .Eq) (.int a) (.int b) (.bool (a == b)) := fun s u v Q E _ x y hQ => by
  obtain ⟨_, rfl⟩ := x.int_inv; obtain ⟨_, rfl⟩ := y.int_inv; exact eq_int (hQ _ _ .rfl (.bool ..))
theorem op_neI {a b : Int} : Op2 prog w A W h₀ (compareOp .NotEq) (.int a) (.int b) (.bool (a != b)) := fun s u v Q E _ x y hQ => by
  obtain ⟨_, rfl⟩ := x.int_inv; obtain ⟨_, rfl⟩ := y.int_inv; exact ne_int (hQ _ _ .rfl (.bool ..))

/-! ## if-expressions -/
theorem Ev.ite {t b o : Expr} {pos : Pos} {c : Bool} {d : PyData} (x : EvB prog w A h₀ (isTrue t env (eval t env)) c) (y : c = true → Ev prog w A W h₀ (eval b env) d) (z : c = false → Ev prog w A W h₀ (eval o env) d) :
    Ev prog w A W h₀ (eval (.IfExp t b o pos) env) d := fun s Q E hs hQ =>
  wpAny_IfExp (x s _ _ hs fun s₁ g₁ => by
    cases c with
    | true => exact y rfl s₁ Q E (hs.trans g₁.heap) fun v s₂ g₂ r => hQ v s₂ (g₁.trans g₂) r
    | false => exact z rfl s₁ Q E (hs.trans g₁.heap) fun v s₂ g₂ r => hQ v s₂ (g₁.trans g₂) r)

/-! ## displays -/
noncomputable def Evs (prog : Program) (w : World) (A : Around) (W : List Addr) (h₀ : Heap) (ts : List (Bool × Sem Value)) (ds : List PyData) : Prop :=
  ∀ (s : Shared) (Q : List Value → Shared → Prop) (E : Value → Shared → Prop), Le h₀ s.heap → (∀ vs s', Grow s s' → RpL (hideAll s'.heap W) vs ds → Q vs s') → wpAny (model prog w) A (spliced ts) Q E s
theorem Evs.nil : Evs prog w A W h₀ [] [] := fun s Q E _ hQ => Calls.spliced_nil (hQ _ _ .rfl .nil)
theorem Evs.cons {t : Sem Value} {ts : List (Bool × Sem Value)} {d : PyData} {ds : List PyData} (x : Ev prog w A W h₀ t d) (y : Evs prog w A W h₀ ts ds) : Evs prog w A W h₀ ((false, t) :: ts) (d :: ds) := fun s Q E hs hQ =>
  spliced_cons (x s _ _ hs fun v s₁ g₁ r₁ => y s₁ _ _ (hs.trans g₁.heap) fun vs s₂ g₂ r₂ => hQ _ _ (g₁.trans g₂) (.cons (r₁.mono (hide_le_of g₂.heap)) r₂))

theorem Ev.tup {elts : List Expr} {k : Nat} {pos : Pos} {ds : List PyData} (hW : There W h₀) (x : Evs prog w A W h₀ (backTo pos (starEach elts env)) ds) (hz : ds.length ≤ 1000) : Ev prog w A W h₀ (eval (.Tuple elts k pos) env) (.tuple ds) := fun s Q E hs hQ =>
  Tuple_ (x s _ _ hs fun vs s₁ g₁ r₁ => wpAny_newTuple (hQ _ _ (g₁.trans (Grow.push _ _)) (.tuple (hide_push ((hW.mono hs).mono g₁.heap) rfl) rfl rfl rfl (r₁.mono (hide_le_of (le_push _ _))))) (by rw [r₁.length, sizeLine_eq]; (first | lia | omega)))
theorem Ev.lst {elts : List Expr} {pos : Pos} {ds : List PyData} (hW : There W h₀) (x : Evs prog w A W h₀ (backTo pos (starEach elts env)) ds) (hz : ds.length ≤ 1000) : Ev prog w A W h₀ (eval (.List elts pos) env) (.list ds) := fun s Q E hs hQ =>
  List_ (x s _ _ hs fun vs s₁ g₁ r₁ => wpAny_newList (hQ _ _ (g₁.trans (Grow.push _ _)) (.list (hide_push ((hW.mono hs).mono g₁.heap) rfl) rfl rfl rfl (r₁.mono (hide_le_of (le_push _ _))))) (by rw [r₁.length, sizeLine_eq]; (first | lia | omega)))
end
end Mine
end

section
open PySem PySem.W PySem.Calls PySem.Spec PyProof.Rows
set_option Elab.async false
set_option maxRecDepth 100000
set_option linter.unusedVariables false
namespace Mine

/-! ## the world -/
structure Wl (K : Frag) (h : Heap) : Prop where
  X : K.In h
  T : ∃ mg mb, h.Ns mainGlobals mg ∧ h.Ns builtinsNs mb ∧ h.NoLimit ∧ (∀ x : Str, x ≠ "__name__" → mb x = bootBuiltins x) ∧
    ∃ bm ob, mg "__builtins__" = some (.ref bm) ∧ bm ≠ builtinsNs ∧ h.get? bm = some ob ∧ ob.cls = .type "module" ∧ ob.dict = some builtinsNs ∧ ob.data = .plain
theorem Wl.mono {K : Frag} {h h' : Heap} (x : Wl K h) (k : Le h h') : Wl K h' := ⟨x.X.keeps k, let ⟨mg, mb, g, b, l, e, bm, ob, a1, a2, a3, a4⟩ := x.T; ⟨mg, mb, g.keeps k, b.keeps k, l.keeps k, e, bm, ob, a1, a2, k _ _ a3, a4⟩⟩
theorem Wl.lim {K : Frag} {h : Heap} (x : Wl K h) : h.NoLimit := let ⟨_, _, _, _, l, _⟩ := x.T; l

structure Cx (K : Frag) (A : Around) (D U : Nat) (h : Heap) : Prop where
  wl : Wl K h
  hh : A.handled = none
  dp : A.depth + D < recursionLimit
  un : A.units + U < cLine
theorem Cx.mono {K : Frag} {A : Around} {D U D' U' : Nat} {h h' : Heap} (x : Cx K A D U h) (k : Le h h') (hD : D' ≤ D := by decide) (hU : U' ≤ U := by decide) : Cx K A D' U' h' :=
  ⟨x.wl.mono k, x.hh, Nat.lt_of_le_of_lt (Nat.add_le_add_left hD _) x.dp, Nat.lt_of_le_of_lt (Nat.add_le_add_left hU _) x.un⟩

noncomputable abbrev Ro := Str → Option PyData
noncomputable abbrev upd (ρ : Ro) (x : Str) (d : PyData) : Ro := fun y => if y = x then some d else ρ y
noncomputable abbrev Mus := List (Str × Addr × List PyData)

/-- a frame: what its names hold; M: the lists that it is still filling -/
structure Frm (hb : Heap) (env : Env) (W : List Addr) (M : Mus) (h : Heap) (ρ : Ro) : Prop where
  fn : env.scope.kind = .function
  gl : env.globals = mainGlobals
  bl : env.builtins = builtinsNs
  keep : Le hb h
  ns : ∃ m, h.Ns env.locals m ∧ (∀ x d, env.kindOf x = some .local → ρ x = some d → ∃ v, m x = some v ∧ Rp (hideAll h W) v d) ∧
    ∀ x l ds, (x, l, ds) ∈ M → m x = some (.ref l)
  cl : ∀ x c, env.cells.lookup x = some c → ∃ vo, h.IsCell c vo ∧ ∀ d, ρ x = some d → ∃ v, vo = some v ∧ Rp (hideAll h W) v d
  mu : ∀ x l ds, (x, l, ds) ∈ M → env.kindOf x = some .local ∧ l ∈ W ∧ l ≠ env.locals ∧ (∀ y, env.cells.lookup y ≠ some l) ∧ hb.get? l = none ∧
    ∃ vs n, h.get? l = some { cls := .type "list", data := .seq vs n } ∧ RpL (hideAll h W) vs.toList ds
  lw : env.locals ∈ W
  cw : ∀ x c, env.cells.lookup x = some c → c ∈ W ∧ c ≠ env.locals ∧ hb.get? c = none ∧ (∀ y, env.cells.lookup y = some c → y = x) ∧ env.kindOf x ≠ some .local
  lb : hb.get? env.locals = none
  has : ∀ x, env.kindOf x = some .cell ∨ env.kindOf x = some .free → (env.cells.lookup x).isSome = true
  th : There W h

/-- a step of statements: what is not hidden stays -/
structure Adv (W : List Addr) (s s' : Shared) : Prop where
  view : Le (hideAll s.heap W) (hideAll s'.heap W)
  os : s'.os = s.os
  gens : AllBare s.gens → AllBare s'.gens
theorem Adv.rfl {W : List Addr} {s : Shared} : Adv W s s := ⟨le_rfl, Eq.refl _, id⟩
theorem Adv.trans {W : List Addr} {a b c : Shared} (x : Adv W a b) (y : Adv W b c) : Adv W a c := ⟨x.view.trans y.view, y.os.trans x.os, fun g => y.gens (x.gens g)⟩
theorem Grow.adv {W : List Addr} {s s' : Shared} (g : Grow s s') : Adv W s s' := ⟨hide_le_of g.heap, g.os, g.gens⟩

theorem ns_le {h h' : Heap} (k : Le h h') {a : Addr} {m : Str → Option Value} (x : h.Ns a m) : h'.Ns a m := let ⟨o, es, ep, e, r⟩ := x; ⟨o, es, ep, k _ _ e, r⟩
theorem ns_eq {h : Heap} {a : Addr} {m m' : Str → Option Value} (x : h.Ns a m) (y : h.Ns a m') : m = m' := by
  obtain ⟨o, es, ep, e, hd, _, hf⟩ := x
  obtain ⟨o', es', ep', e', hd', _, hf'⟩ := y
  rw [e] at e'; cases e'
  rw [hd] at hd'; cases hd'
  funext n
  rw [← hf, ← hf']

namespace Frm
variable {hb h h' : Heap} {env : Env} {W : List Addr} {M : Mus} {ρ ρ' : Ro} {x : Str} {d : PyData} {v : Value}

theorem grow (F : Frm hb env W M h ρ) (k : Le h h') : Frm hb env W M h' ρ where
  fn := F.fn
  gl := F.gl
  bl := F.bl
  keep := F.keep.trans k
  ns := by
    obtain ⟨m, a, b, c⟩ := F.ns
    exact ⟨m, ns_le k a, fun x d hx hr => let ⟨v, e, r⟩ := b x d hx hr; ⟨v, e, r.mono (hide_le_of k)⟩, c⟩
  cl := fun x c e => let ⟨vo, a, b⟩ := F.cl x c e; ⟨vo, a.keeps k, fun d hr => let ⟨v, e, r⟩ := b d hr; ⟨v, e, r.mono (hide_le_of k)⟩⟩
  mu := fun x l ds hm => let ⟨a, b, c, d, e, vs, n, f, g⟩ := F.mu x l ds hm; ⟨a, b, c, d, e, vs, n, k _ _ f, g.mono (hide_le_of k)⟩
  lw := F.lw
  cw := F.cw
  lb := F.lb
  has := F.has
  th := F.th.mono k

theorem weaken (F : Frm hb env W M h ρ) (s : ∀ x d, ρ' x = some d → ρ x = some d) : Frm hb env W M h ρ' where
  fn := F.fn
  gl := F.gl
  bl := F.bl
  keep := F.keep
  ns := let ⟨m, a, b, c⟩ := F.ns; ⟨m, a, fun x d hx hr => b x d hx (s x d hr), c⟩
  cl := fun x c e => let ⟨vo, a, b⟩ := F.cl x c e; ⟨vo, a, fun d hr => b d (s x d hr)⟩
  mu := F.mu
  lw := F.lw
  cw := F.cw
  lb := F.lb
  has := F.has
  th := F.th

/-- one hidden object has changed -/
theorem hide_same {a : Addr} {W : List Addr} {h h' : Heap} (ha : a ∈ W) (hs : Heap.SameBut a h h') : Le (hideAll h W) (hideAll h' W) :=
  hide_mono (fun _ x => x) fun b o hb e => (hs.2 b fun q => hb (q ▸ ha)).trans e
theorem there_same {a : Addr} {W : List Addr} {h h' : Heap} {o : Obj} (hs : Heap.SameBut a h h') (ho : h'.get? a = some o) (x : There W h) : There W h' := fun b hb => by
  by_cases q : b = a
  · exact ⟨o, q ▸ ho⟩
  · obtain ⟨ob, e⟩ := x b hb; exact ⟨ob, (hs.2 b q).trans e⟩

theorem setL (F : Frm hb env W M h ρ) (hM : ∀ p ∈ M, p.1 ≠ x) (hs : Heap.SameBut env.locals h h')
    {m : Str → Option Value} (hn : h.Ns env.locals m) (hn' : h'.Ns env.locals fun y => if y = x then some v else m y) (r : Rp (hideAll h W) v d) (hx : env.kindOf x = some .local) : Frm hb env W M h' (upd ρ x d) := by
  have k := hide_same F.lw hs
  obtain ⟨oL, _, _, eL, _⟩ := id hn'
  refine ⟨F.fn, F.gl, F.bl, fun b o e => (hs.2 b fun q => ?_).trans (F.keep b o e), ⟨_, hn', fun y d' hy hr => ?_, fun y l ds hm => ?_⟩, fun y c e => ?_, fun y l ds hm => ?_, F.lw, F.cw, F.lb, F.has, there_same hs eL F.th⟩
  · rw [q, F.lb] at e; cases e
  · obtain ⟨m₀, a, b, c⟩ := F.ns
    obtain rfl := ns_eq a hn
    by_cases q : y = x
    · simp only [upd, q, if_true, Option.some.injEq] at hr ⊢
      subst hr
      exact ⟨v, rfl, r.mono k⟩
    · simp only [upd, q, if_false] at hr ⊢
      obtain ⟨v', e, r'⟩ := b y d' hy hr
      exact ⟨v', e, r'.mono k⟩
  · obtain ⟨m₀, a, b, c⟩ := F.ns
    obtain rfl := ns_eq a hn
    simp only [hM _ hm, if_false]
    exact c y l ds hm
  · obtain ⟨vo, a, b⟩ := F.cl y c e
    refine ⟨vo, a.sameBut hs (F.cw y c e).2.1, fun d' hr => ?_⟩
    by_cases q : y = x
    · exact absurd hx (q ▸ (F.cw y c e).2.2.2.2)
    · simp only [upd, q, if_false] at hr
      obtain ⟨v', e', r'⟩ := b d' hr
      exact ⟨v', e', r'.mono k⟩
  · obtain ⟨a, b, c, d', e, vs, n, f, g⟩ := F.mu y l ds hm
    exact ⟨a, b, c, d', e, vs, n, (hs.2 l c).trans f, g.mono k⟩

theorem setC (F : Frm hb env W M h ρ) {c : Addr} (hc : env.cells.lookup x = some c) (hs : Heap.SameBut c h h') (hv : h'.IsCell c (some v)) (r : Rp (hideAll h W) v d) : Frm hb env W M h' (upd ρ x d) := by
  obtain ⟨cW, cL, cb, cu, ck⟩ := F.cw x c hc
  have k := hide_same cW hs
  obtain ⟨oc, ec, _⟩ := id hv
  refine ⟨F.fn, F.gl, F.bl, fun b o e => (hs.2 b fun q => ?_).trans (F.keep b o e), ?_, fun y c' e => ?_, fun y l ds hm => ?_, F.lw, F.cw, F.lb, F.has, there_same hs ec F.th⟩
  · rw [q, cb] at e; cases e
  · obtain ⟨m, a, b, cc⟩ := F.ns
    refine ⟨m, a.sameBut hs (Ne.symm cL), fun y d' hy hr => ?_, cc⟩
    by_cases q : y = x
    · exact absurd (q ▸ hy) ck
    · simp only [upd, q, if_false] at hr
      obtain ⟨v', e, r'⟩ := b y d' hy hr
      exact ⟨v', e, r'.mono k⟩
  · by_cases q : y = x
    · subst q
      rw [hc] at e; cases e
      refine ⟨some v, hv, fun d' hr => ?_⟩
      simp only [upd, if_true, Option.some.injEq] at hr
      subst hr
      exact ⟨v, rfl, r.mono k⟩
    · obtain ⟨vo, a, b⟩ := F.cl y c' e
      refine ⟨vo, a.sameBut hs fun z => q (cu y (z ▸ e)), fun d' hr => ?_⟩
      simp only [upd, q, if_false] at hr
      obtain ⟨v', e', r'⟩ := b d' hr
      exact ⟨v', e', r'.mono k⟩
  · obtain ⟨a, b, c', d', e, vs, n, f, g⟩ := F.mu y l ds hm
    refine ⟨a, b, c', d', e, vs, n, (hs.2 l fun z => ?_).trans f, g.mono k⟩
    exact d' x (z ▸ hc)

/-- a list that is being filled has changed -/
theorem setM (F : Frm hb env W M h ρ) {l : Addr} {ds ds' : List PyData} (hm : (x, l, ds) ∈ M) (hu : ∀ p ∈ M, p.2.1 = l → p = (x, l, ds)) (hs : Heap.SameBut l h h') {vs : Array Value} {n : Nat} (hl : h'.get? l = some { cls := .type "list", data := .seq vs n })
    (r : RpL (hideAll h W) vs.toList ds') : Frm hb env W (M.map fun p => if p.2.1 = l then (x, l, ds') else p) h' ρ := by
  obtain ⟨hx, lW, lL, lc, lb, _⟩ := F.mu x l ds hm
  have k := hide_same lW hs
  refine ⟨F.fn, F.gl, F.bl, fun b o e => (hs.2 b fun q => ?_).trans (F.keep b o e), ?_, fun y c' e => ?_, fun y l' ds₁ hm' => ?_, F.lw, F.cw, F.lb, F.has, there_same hs hl F.th⟩
  · rw [q, lb] at e; cases e
  · obtain ⟨m, a, b, cc⟩ := F.ns
    refine ⟨m, a.sameBut hs (Ne.symm lL), fun y d' hy hr => let ⟨v', e, r'⟩ := b y d' hy hr; ⟨v', e, r'.mono k⟩, fun y l' ds₁ hm' => ?_⟩
    obtain ⟨p, hp, e⟩ := List.mem_map.mp hm'
    split at e
    · cases e; exact cc _ _ _ hm
    · subst e; exact cc _ _ _ hp
  · obtain ⟨vo, a, b⟩ := F.cl y c' e
    exact ⟨vo, a.sameBut hs fun z => lc y (z ▸ e), fun d' hr => let ⟨v', e', r'⟩ := b d' hr; ⟨v', e', r'.mono k⟩⟩
  · obtain ⟨p, hp, e⟩ := List.mem_map.mp hm'
    split at e
    · cases e
      exact ⟨hx, lW, lL, lc, lb, vs, n, hl, r.mono k⟩
    · rename_i hne
      subst e
      obtain ⟨a, b, c', d', e, vs', n', f, g⟩ := F.mu _ _ _ hp
      exact ⟨a, b, c', d', e, vs', n', (hs.2 _ hne).trans f, g.mono k⟩

/-- the filled list is let go: it is data from now on -/
theorem freeze (F : Frm hb env W M h ρ) {l : Addr} {ds : List PyData} (hm : (x, l, ds) ∈ M) {W' : List Addr} (hW : ∀ a, a ∈ W ↔ a = l ∨ a ∈ W') (hl : l ∉ W') :
    Frm hb env W' (M.filter fun p => decide (p.2.1 ≠ l)) h (upd ρ x (.list ds)) ∧ Rp (hideAll h W') (.ref l) (.list ds) := by
  obtain ⟨hx, lW, lL, lc, lb, vs, n, e, r⟩ := F.mu x l ds hm
  have k : Le (hideAll h W) (hideAll h W') := hide_mono (fun a ha => (hW a).mpr (.inr ha)) fun _ _ _ e => e
  have R : Rp (hideAll h W') (.ref l) (.list ds) := .list (hideAll_get W' e hl) rfl rfl rfl (r.mono k)
  refine ⟨⟨F.fn, F.gl, F.bl, F.keep, ?_, fun y c' e' => ?_, fun y l' ds₁ hm' => ?_, ?_, fun y c e' => ?_, F.lb, F.has, fun a ha => F.th a ((hW a).mpr (.inr ha))⟩, R⟩
  · obtain ⟨m, a, b, cc⟩ := F.ns
    refine ⟨m, a, fun y d' hy hr => ?_, fun y l' ds₁ hm' => cc _ _ _ (List.mem_filter.mp hm').1⟩
    by_cases q : y = x
    · subst q
      simp only [upd, if_true, Option.some.injEq] at hr
      subst hr
      exact ⟨_, cc _ _ _ hm, R⟩
    · simp only [upd, q, if_false] at hr
      obtain ⟨v', e', r'⟩ := b y d' hy hr
      exact ⟨v', e', r'.mono k⟩
  · obtain ⟨vo, a, b⟩ := F.cl y c' e'
    refine ⟨vo, a, fun d' hr => ?_⟩
    by_cases q : y = x
    · subst q
      exact absurd hx (F.cw y c' e').2.2.2.2
    · simp only [upd, q, if_false] at hr
      obtain ⟨v', e'', r'⟩ := b d' hr
      exact ⟨v', e'', r'.mono k⟩
  · obtain ⟨hp, hq⟩ := List.mem_filter.mp hm'
    obtain ⟨a, b, c', d', e', vs', n', f, g⟩ := F.mu _ _ _ hp
    refine ⟨a, ?_, c', d', e', vs', n', f, g.mono k⟩
    rcases (hW l').mp b with q | q
    · exact absurd q (by simpa using hq)
    · exact q
  · rcases (hW _).mp F.lw with q | q
    · exact absurd q.symm lL
    · exact q
  · obtain ⟨a, b, c', d'⟩ := F.cw y c e'
    refine ⟨?_, b, c', d'⟩
    rcases (hW c).mp a with q | q
    · exact absurd (q ▸ e') (lc y)
    · exact q
end Frm
end Mine
end

section
open PySem PySem.W PySem.Calls PySem.Spec PyProof.Rows
set_option Elab.async false
set_option maxRecDepth 100000
set_option linter.unusedVariables false
namespace Mine

section
variable {prog : Program} {w : World} {A : Around} {W : List Addr} {M : Mus} {hb h : Heap} {ρ : Ro} {env : Env} {K : Frag} {D U : Nat}

/-! ## names -/
theorem ev_loc {x : Str} {pos : Pos} {d : PyData} (F : Frm hb env W M h ρ) (hx : env.kindOf x = some .local := by kernel_rfl) (hr : ρ x = some d := by kernel_rfl) (hd : (x == ("__debug__" : Str)) = false := by kernel_rfl) :
    Ev prog w A W h (eval (.Name x pos) env) d := fun s Q E hs hQ => by
  obtain ⟨m, a, b, _⟩ := F.ns
  obtain ⟨v, e, r⟩ := b x d hx hr
  exact wpAny_Name (wpAny_loadName_local F.fn hx (ns_le hs a) e (hQ v s .rfl (r.mono (hide_le_of hs)))) hd
theorem ev_cap {x : Str} {pos : Pos} {d : PyData} (F : Frm hb env W M h ρ) (hx : env.kindOf x = some .cell ∨ env.kindOf x = some .free) (hr : ρ x = some d) (hd : (x == ("__debug__" : Str)) = false := by kernel_rfl) (hn : (x == ("__classdict__" : Str)) = false := by kernel_rfl) :
    Ev prog w A W h (eval (.Name x pos) env) d := fun s Q E hs hQ => by
  obtain ⟨c, hc⟩ := Option.isSome_iff_exists.mp (F.has x hx)
  obtain ⟨vo, a, b⟩ := F.cl x c hc
  obtain ⟨v, rfl, r⟩ := b d hr
  rcases hx with hx | hx
  · exact wpAny_Name (wpAny_loadName_cell F.fn hx hc (a.keeps hs) (hQ v s .rfl (r.mono (hide_le_of hs)))) hd
  · exact wpAny_Name (wpAny_loadName_free F.fn hx hc (a.keeps hs) (hQ v s .rfl (r.mono (hide_le_of hs))) hn) hd
theorem ev_cell {x : Str} {pos : Pos} {d : PyData} (F : Frm hb env W M h ρ) (hx : env.kindOf x = some .cell := by kernel_rfl) (hr : ρ x = some d := by kernel_rfl) (hd : (x == ("__debug__" : Str)) = false := by kernel_rfl) (hn : (x == ("__classdict__" : Str)) = false := by kernel_rfl) :
    Ev prog w A W h (eval (.Name x pos) env) d := ev_cap F (.inl hx) hr hd hn
theorem ev_free {x : Str} {pos : Pos} {d : PyData} (F : Frm hb env W M h ρ) (hx : env.kindOf x = some .free := by kernel_rfl) (hr : ρ x = some d := by kernel_rfl) (hd : (x == ("__debug__" : Str)) = false := by kernel_rfl) (hn : (x == ("__classdict__" : Str)) = false := by kernel_rfl) :
    Ev prog w A W h (eval (.Name x pos) env) d := ev_cap F (.inr hx) hr hd hn

theorem name_glob {x : Str} {pos : Pos} {v : Value} {s : Shared} {Q E : Value → Shared → Prop} (F : Frm hb env W M h ρ) (X : Wl K hb) (hs : Le h s.heap) (hx : env.kindOf x = some .globalImplicit) (e : nsIn K mainGlobals x = some (some v))
    (hQ : Q v s) (hd : (x == ("__debug__" : Str)) = false := by kernel_rfl) : wpAny (model prog w) A (eval (.Name x pos) env) Q E s := by
  have X' := (X.mono F.keep).mono hs
  obtain ⟨mg, mb, Tg, Tb, Tl, Te, _⟩ := X'.T
  exact Name_function_global F.fn hx (loadGlobal_global (by rw [F.gl]; exact Tg) (mg_of X'.X Tg e) hQ) hd
theorem name_boot {x : Str} {pos : Pos} {v : Value} {s : Shared} {Q E : Value → Shared → Prop} (F : Frm hb env W M h ρ) (X : Wl K hb) (hs : Le h s.heap) (hx : env.kindOf x = some .globalImplicit) (e : nsIn K mainGlobals x = some none)
    (hv : bootBuiltins x = some v) (hQ : Q v s) (hn : x ≠ "__name__" := by decide +kernel) (hd : (x == ("__debug__" : Str)) = false := by kernel_rfl) : wpAny (model prog w) A (eval (.Name x pos) env) Q E s := by
  have X' := (X.mono F.keep).mono hs
  obtain ⟨mg, mb, Tg, Tb, Tl, Te, _⟩ := X'.T
  exact Name_function_global F.fn hx (loadGlobal_builtin (by rw [F.gl]; exact Tg) (mg_none_of X'.X Tg e) (by rw [F.bl]; exact Tb) ((Te x hn).trans hv) hQ) hd

/-! ## calls of the text's defs -/
noncomputable def PS (prog : Program) (w : World) (K : Frag) (D U : Nat) (f : Addr) (ds : List PyData) (d : PyData) : Prop :=
  ∀ (A : Around) (W : List Addr) (s : Shared) (vs : List Value) (Q E : Value → Shared → Prop), Cx K A D U s.heap → There W s.heap → RpL (hideAll s.heap W) vs ds →
    (∀ v s', Grow s s' → Rp (hideAll s'.heap W) v d → Q v s') → wpAny (model prog w) A (PySem.call (.ref f) vs) Q E s

theorem ev_call {f : Str} {fp pos : Pos} {a : Addr} {e : Expr} {args : List Expr} {ds : List PyData} {d : PyData} (F : Frm hb env W M h ρ) (C : Cx K A D U hb)
    (hf : env.kindOf f = some .globalImplicit) (hn : nsIn K mainGlobals f = some (some (.ref a))) (hk : keepIn K (.ref a) = true) (P : PS prog w K D U a ds d)
    (x : Evs prog w A W h (backTo pos (starEach (e :: args) env)) ds)
    (hd : (f == ("__debug__" : Str)) = false := by kernel_rfl) (he : starEach (e :: args) env = (false, eval e env) :: starEach args env := by kernel_rfl) (hp : ((backTo pos (starEach args env)).any fun x => x.1) = false := by kernel_rfl) :
    Ev prog w A W h (eval (.Call (.Name f fp) (e :: args) [] pos) env) d := fun s Q E hs hQ => by
  refine wpAny_Call_NameR (name_glob F C.wl hs hf hn ?_ hd)
  refine callWith_K (((C.wl.mono F.keep).mono hs).X) hk (x s _ _ hs fun vs s₁ g r => ?_) he hp
  have k := hs.trans g.heap
  exact ⟨((C.wl.mono F.keep).mono k).X, P A W s₁ _ _ _ (C.mono (F.keep.trans k) (Nat.le_refl _) (Nat.le_refl _)) (F.th.mono k) r fun v s₂ g₂ r₂ => hQ v s₂ (g.trans g₂) r₂⟩

/-! ## calls of built-in functions and types -/
theorem ev_boot {f : Str} {fp pos : Pos} {id : String} {e : Expr} {args : List Expr} {ds : List PyData} {d : PyData} (F : Frm hb env W M h ρ) (X : Wl K hb)
    (hf : env.kindOf f = some .globalImplicit) (hn : nsIn K mainGlobals f = some none) (hv : bootBuiltins f = some (.builtin id))
    (x : Evs prog w A W h (backTo pos (starEach (e :: args) env)) ds)
    (o : OpN prog w A W h (.builtin id) ds d)
    (hn' : f ≠ "__name__" := by decide +kernel) (hd : (f == ("__debug__" : Str)) = false := by kernel_rfl) (he : starEach (e :: args) env = (false, eval e env) :: starEach args env := by kernel_rfl) (hp : ((backTo pos (starEach args env)).any fun x => x.1) = false := by kernel_rfl) :
    Ev prog w A W h (eval (.Call (.Name f fp) (e :: args) [] pos) env) d := fun s Q E hs hQ => by
  refine wpAny_Call_NameR (name_boot F X hs hf hn hv ?_ hn' hd)
  exact PyProof.Rows.callWith_builtin1 (x s _ _ hs fun vs s₁ g r => o s₁ vs _ _ (hs.trans g.heap) r fun v s₂ g₂ r₂ => hQ v s₂ (g.trans g₂) r₂) he hp

theorem op_lenS {x : Str} (hz : x.length ≤ 1000000) : OpN prog w A W h (.builtin "len") [.str x] (.int x.length) := fun s vs Q E _ r hQ => by
  cases r with | cons a r => cases a; cases r; exact P.len_str (by (first | lia | omega)) (hQ _ _ (Grow.tok s _) (.int ..))
theorem op_lenL {ds : List PyData} (hz : ds.length ≤ 1000000) : OpN prog w A W h (.builtin "len") [.list ds] (.int ds.length) := fun s vs Q E _ r hQ => by
  cases r with
  | cons a r =>
    cases a with
    | list e c dd sq rr =>
      cases r
      have hl := rr.length
      rename_i o vs n
      have hsz : vs.size = ds.length := by rw [← hl, Array.length_toList]
      refine call_len_list ⟨_, (hide_get e).1, c, n, sq⟩ (by rw [hsz]; (first | lia | omega)) ?_
      rw [hsz]
      exact hQ _ _ (Grow.tok s _) (.int ..)

theorem rpl_ints {g : Heap} : ∀ {vs : List Value} {ns : List Int}, RpL g vs (ns.map .int) → IntsAre vs ns
  | _, [], r => by cases r; exact .nil
  | _, n :: ns, r => by
    cases r with
    | cons a r => cases a; exact .cons _ _ (rpl_ints r)
theorem rpl_items {g : Heap} : ∀ {vs : List Value} {ns : List Int}, RpL g vs (ns.map .int) → ∃ xs : List (Int × Tok), vs = xs.map (fun p => .int p.1 p.2) ∧ xs.map (·.1) = ns
  | _, [], r => by cases r; exact ⟨[], rfl, rfl⟩
  | _, n :: ns, r => by
    cases r with
    | cons a r =>
      cases a
      obtain ⟨xs, rfl, rfl⟩ := rpl_items r
      exact ⟨(_, _) :: xs, rfl, rfl⟩
theorem op_sum {ns : List Int} (hh : A.handled = none) : OpN prog w A W h (.builtin "sum") [.list (ns.map .int)] (.int ns.sum) := fun s vs Q E _ r hQ => by
  cases r with
  | cons a r =>
    cases a with
    | list e c dd sq rr =>
      cases r
      rename_i o vs n
      obtain ⟨xs, hv, rfl⟩ := rpl_items rr
      have hits : vs = intItems xs.toArray := by
        apply Array.toList_inj.mp
        rw [hv]; simp [intItems]
      refine sum_intListG hh (xs := xs.toArray) ⟨_, (hide_get e).1, c, n, hits ▸ sq⟩ fun h' tk t' k => ?_
      have e1 : preSum (numAt xs.toArray) xs.toArray.size = (xs.map (·.1)).sum := by
        rw [preSum_eq, List.take_of_length_le (by simp)]
      rw [e1]
      exact hQ _ _ (Grow.to k) (.int ..)
end
end Mine
end

section
open PySem PySem.W PySem.Calls PySem.Spec PyProof.Rows PyProof.Rows.LCg
set_option Elab.async false
set_option maxRecDepth 100000
set_option linter.unusedVariables false
namespace Mine

section
variable {prog : Program} {w : World} {A : Around} {W : List Addr} {M : Mus} {hb h : Heap} {ρ : Ro} {env : Env} {K : Frag} {D U : Nat}

/-! ## what a loop or a comprehension runs over -/
/-- an object that holds data -/
noncomputable def isD (o : Obj) : Prop := (o.cls = .type "list" ∨ o.cls = .type "tuple") ∧ ∃ vs n, o.data = .seq vs n
structure Run (prog : Program) (w : World) (A : Around) (W : List Addr) (g : Heap) (ds : List PyData) (target : Expr) (I : Addr) (wr : List Addr) (St : Nat → Heap → Prop) (Mid : Nat → Value → Heap → Prop) : Prop where
  own : I ∈ wr
  new : ∀ a ∈ wr, g.objs.size ≤ a
  frame : ∀ i h h', St i h → (∀ b, b ∈ wr ∨ ((∃ o, g.get? b = some o) ∧ b ∉ W) → ∀ o, h.get? b = some o → h'.get? b = some o) → St i h'
  item : ∀ i d (s : Shared) (Q : Option Value → Shared → Prop) (E : Value → Shared → Prop), ds[i]? = some d → St i s.heap →
    (∀ v h' tk, (∀ W', There W' s.heap → Le (hideAll g W) (hideAll h' W') → Rp (hideAll h' W') v d) → Mid i v h' → (∀ b o, b ∉ wr → s.heap.get? b = some o → h'.get? b = some o) → Q (some v) { s with heap := h', toks := tk }) →
    wpAny (model prog w) A (pyNext (.ref I)) Q E s
  go : ∀ i v (s : Shared) (Q : Unit → Shared → Prop) (E : Value → Shared → Prop), Mid i v s.heap →
    (∀ h', St (i + 1) h' → (∀ b o, b ∉ wr → s.heap.get? b = some o → h'.get? b = some o) → Q () { s with heap := h' }) → wpAny (model prog w) A (letOwnedTupleGo target (.ref I) v) Q E s
  done : ∀ (s : Shared) (Q : Option Value → Shared → Prop) (E : Value → Shared → Prop), St ds.length s.heap →
    (∀ h' tk, (∀ b o, b ∉ wr → s.heap.get? b = some o → h'.get? b = some o) → Q none { s with heap := h', toks := tk }) → wpAny (model prog w) A (pyNext (.ref I)) Q E s
  self : ∀ i (s : Shared) (Q : Value → Shared → Prop) (E : Value → Shared → Prop), St i s.heap → Q (.ref I) s → wpAny (model prog w) A (pyIter (.ref I)) Q E s
  at_ : ∀ i h, St i h → ∀ a ∈ wr, ∃ o, h.get? a = some o ∧ ¬ isD o
  mid_ : ∀ i v h, Mid i v h → ∀ a ∈ wr, ∃ o, h.get? a = some o ∧ ¬ isD o

noncomputable def Src (prog : Program) (w : World) (A : Around) (W : List Addr) (h₀ : Heap) (target : Expr) (t : Sem Value) (ds : List PyData) : Prop :=
  ∀ (s : Shared) (Q E : Value → Shared → Prop), Le h₀ s.heap →
    (∀ x s₁, Grow s s₁ → (∀ (Q' E' : Value → Shared → Prop), (∀ g I wr St Mid s₂, Le s.heap g → Le g s₂.heap → Grow s s₂ → (∀ a ∈ wr, a < s₂.heap.objs.size) → Run prog w A W g ds target I wr St Mid → St 0 s₂.heap → Q' (.ref I) s₂) → wpAny (model prog w) A (pyIter x) Q' E' s₁) → Q x s₁) → wpAny (model prog w) A t Q E s

/-- a walk by one iterator alone -/
theorem run_of {W : List Addr} {g : Heap} {ds : List PyData} {target : Expr} {I : Addr} {St : Nat → Heap → Prop} {fp : List Addr} {n : Nat} (hn : n = ds.length) (hI : g.objs.size ≤ I)
    (Wk : Walks prog w A I fp [I] n (fun i v => ∃ d, ds[i]? = some d ∧ Rp (hideAll g W) v d) St) (hfp : ∀ b ∈ fp, b = I ∨ ((∃ o, g.get? b = some o) ∧ b ∉ W))
    (go : ∀ i v (target : Expr) (s : Shared) (Q : Unit → Shared → Prop) (E : Value → Shared → Prop), St i s.heap → Q () s → wpAny (model prog w) A (letOwnedTupleGo target (.ref I) v) Q E s)
    (at_ : ∀ i h, St i h → ∃ o, h.get? I = some o ∧ o.cls ≠ .type "list" ∧ o.cls ≠ .type "tuple") : Run prog w A W g ds target I [I] St (fun i _ h => St (i + 1) h) where
  own := List.mem_singleton.mpr rfl
  new := fun a ha => List.mem_singleton.mp ha ▸ hI
  frame := fun i h h' st k => Wk.frame i h h' st fun b hb o e => k b (by
    rcases hfp b hb with q | q
    · exact .inl (List.mem_singleton.mpr q)
    · exact .inr q) o e
  item := fun i d s Q E hd st hQ => by
    have hlt : i < ds.length := by
      rcases Nat.lt_or_ge i ds.length with q | q
      · exact q
      · rw [List.getElem?_eq_none q] at hd; cases hd
    refine Wk.item i s Q E (hn ▸ hlt) st fun v h' tk hP st' k => hQ v h' tk (fun W' _ le => ?_) st' k
    obtain ⟨d', e, r⟩ := hP
    rw [hd] at e; cases e
    exact r.mono le
  go := fun i v s Q E st hQ => go (i + 1) v target s Q E st (hQ s.heap st fun _ _ _ e => e)
  done := fun s Q E st hQ => Wk.done s Q E (hn ▸ st) hQ
  self := Wk.self
  at_ := fun i h st a ha => by
    obtain ⟨o, e, c1, c2⟩ := at_ i h st
    exact ⟨o, List.mem_singleton.mp ha ▸ e, fun q => q.1.elim c1 c2⟩
  mid_ := fun i v h st a ha => by
    obtain ⟨o, e, c1, c2⟩ := at_ (i + 1) h st
    exact ⟨o, List.mem_singleton.mp ha ▸ e, fun q => q.1.elim c1 c2⟩

theorem go_list {I l : Addr} {i : Nat} {v : Value} {target : Expr} {s : Shared} {Q : Unit → Shared → Prop} {E : Value → Shared → Prop} (hI : s.heap.IsListIter I l i) (hQ : Q () s) : wpAny (model prog w) A (letOwnedTupleGo target (.ref I) v) Q E s := by
  cases target with
  | Tuple elts k pos => cases v with
    | ref a => exact wpAny_letOwnedTupleGo_listiter hI hQ
    | _ => exact wpAny_pure hQ
  | List elts pos =>
    cases v with
    | ref a =>
      obtain ⟨o, e, c, d⟩ := hI
      unfold letOwnedTupleGo
      refine wpAny_bind (wpAny_load e ?_)
      rw [c, d]
      dsimp only
      exact wpAny_pure hQ
    | _ => exact wpAny_pure hQ
  | _ => exact wpAny_pure hQ

theorem go_range {I : Addr} {x l c : Int} {v : Value} {target : Expr} {s : Shared} {Q : Unit → Shared → Prop} {E : Value → Shared → Prop} (hI : IsRangeIter s.heap I x l c) (hQ : Q () s) : wpAny (model prog w) A (letOwnedTupleGo target (.ref I) v) Q E s := by
  cases target with
  | Tuple elts k pos => cases v with
    | ref a =>
      unfold letOwnedTupleGo
      refine wpAny_bind (wpAny_load hI ?_)
      exact wpAny_pure hQ
    | _ => exact wpAny_pure hQ
  | List elts pos => cases v with
    | ref a =>
      unfold letOwnedTupleGo
      refine wpAny_bind (wpAny_load hI ?_)
      exact wpAny_pure hQ
    | _ => exact wpAny_pure hQ
  | _ => exact wpAny_pure hQ

theorem src_list {t : Sem Value} {ds : List PyData} {target : Expr} (hh : A.handled = none) (x : Ev prog w A W h t (.list ds)) : Src prog w A W h target t ds := fun s Q E hs hQ => by
  refine x s _ _ hs fun v s₁ g r => hQ v s₁ g fun Q' E' k => ?_
  cases r with
  | list e c dd sq rr =>
    rename_i a o vs n
    obtain ⟨e1, e2⟩ := hide_get e
    have hl : s₁.heap.IsList a vs := ⟨o, e1, c, n, sq⟩
    have hne : a ≠ s₁.heap.objs.size := Nat.ne_of_lt (Heap.lt_size e1)
    have hlen : vs.size = ds.length := by rw [← rr.length, Array.length_toList]
    refine wpAny_pyIter_list hl (k s₁.heap s₁.heap.objs.size [s₁.heap.objs.size] (fun i h => h.IsListIter s₁.heap.objs.size a i ∧ h.IsList a vs) (fun i _ h => h.IsListIter s₁.heap.objs.size a (i + 1) ∧ h.IsList a vs) _ g.heap (le_push _ _) (g.trans (Grow.push _ _)) (fun b hb => by rw [List.mem_singleton.mp hb]; show _ < (s₁.heap.push _).objs.size; rw [Heap.size_push]; exact Nat.lt_succ_self _) ?_ ⟨⟨_, Heap.get?_push_size _ rfl, rfl, rfl⟩, hl.push _⟩)
    have W₀ := Walks.list (prog := prog) (w := w) hh s₁.heap.objs.size a hne vs
    have W₁ : Walks prog w A s₁.heap.objs.size [s₁.heap.objs.size, a] [s₁.heap.objs.size] vs.size (fun i v => ∃ d, ds[i]? = some d ∧ Rp (hideAll s₁.heap W) v d) (fun i h => h.IsListIter s₁.heap.objs.size a i ∧ h.IsList a vs) :=
      { sub := W₀.sub, frame := W₀.frame, done := W₀.done, self := W₀.self,
        item := fun i s Q E hi st hq => W₀.item i s Q E hi st fun v h' tk hP => hq v h' tk (by
          obtain ⟨d, e, r⟩ := rr.getV (i := i) (v := v) (by rw [Array.getElem?_toList]; exact hP)
          exact ⟨d, e, r⟩) }
    refine run_of hlen (Nat.le_refl _) W₁ (fun b hb => ?_) (fun i v target s Q E st q => go_list st.1 q) fun i h st => let ⟨o, e, c, _⟩ := st.1; ⟨o, e, by rw [c]; decide, by rw [c]; decide⟩
    rcases List.mem_cons.mp hb with h | h
    · exact .inl h
    · rw [List.mem_singleton.mp h]; exact .inr ⟨⟨_, e1⟩, e2⟩

/-- the ints of range(n) -/
noncomputable abbrev upTo' (n : Nat) : List PyData := (List.range n).map fun (i : Nat) => .int (i : Int)
theorem small_of {n : Nat} (hn : n ≤ 1000) : Builtin.Range.small 0 (n : Int) 1 = true ∧ Builtin.Range.rangeSize 0 (n : Int) 1 = (n : Int) := by
  have e : Builtin.Range.rangeSize 0 (n : Int) 1 = (n : Int) := by rw [rangeSize_one]; split <;> (first | lia | omega)
  refine ⟨?_, e⟩
  unfold Builtin.Range.small
  rw [e]
  simp [Builtin.Range.rangeFitsLong]
  (first | lia | omega)
theorem src_range {f : Str} {fp pos : Pos} {e : Expr} {n : Nat} (F : Frm hb env W M h ρ) (X : Wl K hb) (hh : A.handled = none) (hn : n ≤ 1000) (hf : env.kindOf f = some .globalImplicit) (hk : nsIn K mainGlobals f = some none) (hv : bootBuiltins f = some (.type "range"))
    (x : Ev prog w A W h (eval e env) (.int n)) (hn' : f ≠ "__name__" := by decide +kernel) (hd : (f == ("__debug__" : Str)) = false := by kernel_rfl) (he : backTo pos (starEach [e] env) = [(false, eval e env)] := by kernel_rfl) {target : Expr} :
    Src prog w A W h target (eval (.Call (.Name f fp) [e] [] pos) env) (upTo' n) := fun s Q E hs hQ => by
  refine wpAny_Call_NameR (name_boot F X hs hf hk hv ?_ hn' hd)
  rw [he]
  refine PySem.callWith_type1 (x s _ _ hs fun v s₁ g r => ?_)
  cases r
  rename_i t
  obtain ⟨sm, sz⟩ := small_of hn
  refine call_range_1 (hQ _ _ (g.trans ⟨le_push _ _, rfl, id⟩) fun Q' E' k => ?_)
  generalize hS : ({ s₁ with heap := s₁.heap.push { cls := .type "range", data := .fields #[.int 0 s₁.toks, .int (n : Int) t, .int 1 (s₁.toks + 1)] }, toks := s₁.toks + 1 + 1 } : Shared) = S at k ⊢
  have hr : IsRange S.heap s₁.heap.objs.size 0 n 1 s₁.toks t (s₁.toks + 1) := by rw [← hS]; exact IsRange.new ..
  refine wpAny_pyIter_range hr sm (k S.heap S.heap.objs.size [S.heap.objs.size] (fun i h => IsRangeIter h S.heap.objs.size (0 + (i : Nat) * 1) ((n : Int) - (i : Nat)) 1) (fun i _ h => IsRangeIter h S.heap.objs.size (0 + ((i + 1 : Nat) : Nat) * 1) ((n : Int) - ((i + 1 : Nat) : Nat)) 1) _ (g.heap.trans (hS ▸ le_push _ _)) (le_push _ _) (g.trans (hS ▸ ⟨(le_push _ _).trans (le_push _ _), rfl, id⟩)) (fun b hb => by rw [List.mem_singleton.mp hb]; show _ < (S.heap.push _).objs.size; rw [Heap.size_push]; exact Nat.lt_succ_self _) ?_ (by show IsRangeIter _ _ _ _ _; rw [sz]; simpa using Heap.get?_push_size _ rfl))
  have W₀ := range_walks (prog := prog) (w := w) (I := S.heap.objs.size) hh 0 n
  have W₁ : Walks prog w A S.heap.objs.size [S.heap.objs.size] [S.heap.objs.size] n (fun i v => ∃ d, (upTo' n)[i]? = some d ∧ Rp (hideAll S.heap W) v d) (fun i h => IsRangeIter h S.heap.objs.size (0 + (i : Nat) * 1) ((n : Int) - (i : Nat)) 1) :=
    { sub := W₀.sub, frame := W₀.frame, done := W₀.done, self := W₀.self,
      item := fun i s Q E hi st hq => W₀.item i s Q E hi st fun v h' tk hP => hq v h' tk (by
        obtain ⟨t, rfl⟩ := hP
        exact ⟨.int i, by simp [hi], by rw [Int.zero_add]; exact .int _ _⟩) }
  exact run_of (by simp) (Nat.le_refl _) W₁ (fun b hb => .inl (List.mem_singleton.mp hb)) (fun i v target s Q E st q => go_range st q) fun i h st => ⟨_, st, (fun q => absurd (Value.type.inj q) (by decide)), (fun q => absurd (Value.type.inj q) (by decide))⟩

/-! ## a new frame of names for a comprehension -/
theorem cellsFrom_acc : ∀ (names : List (Str × NameKind)) (n : Nat) (acc : List (Str × Addr)), cellsFrom n names acc = cellsFrom n names [] ++ acc
  | [], _, _ => rfl
  | (x, k) :: r, n, acc => by
    unfold cellsFrom
    split
    · rw [cellsFrom_acc r (n + 1) ((x, n) :: acc), cellsFrom_acc r (n + 1) [(x, n)], List.append_assoc]; rfl
    · exact cellsFrom_acc r n acc
theorem cellsFrom_mem : ∀ (names : List (Str × NameKind)) (n : Nat) {x : Str} {c : Addr}, (x, c) ∈ cellsFrom n names [] → (x, .cell) ∈ names
  | [], _, _, _, h => nomatch h
  | (y, k) :: r, n, x, c, h => by
    unfold cellsFrom at h
    split at h
    · rename_i hk
      rw [cellsFrom_acc] at h
      rcases List.mem_append.mp h with h | h
      · exact .tail _ (cellsFrom_mem r _ h)
      · cases List.mem_singleton.mp h
        rw [beq_iff_eq.mp hk]; exact .head _
    · exact .tail _ (cellsFrom_mem r _ h)

theorem lookup_append {α β : Type} [BEq α] {a b : List (α × β)} {x : α} : (a ++ b).lookup x = (a.lookup x).or (b.lookup x) := by
  induction a with
  | nil => simp
  | cons p a ih =>
    obtain ⟨k, v⟩ := p
    simp only [List.cons_append, List.lookup_cons]
    cases x == k <;> simp [ih]

theorem clos_of {env : Env} : ∀ (names : List (Str × NameKind)) (acc : List (Str × Addr)), (∀ n, (n, NameKind.free) ∈ names → (env.cells.lookup n).isSome = true) →
    ∃ cl, (forIn names acc fun x r => (do if (x.2 == .free) = true then (do let c ← cellOf env x.1; pure (ForInStep.yield ((x.1, c) :: r))) else pure (ForInStep.yield r) : Sem _)) = (pure (cl ++ acc) : Sem _) ∧
      (∀ x c, (x, c) ∈ cl → (x, NameKind.free) ∈ names ∧ env.cells.lookup x = some c) ∧ ∀ x, (x, NameKind.free) ∈ names → ∃ c, (x, c) ∈ cl
  | [], acc, _ => ⟨[], rfl, (fun _ _ h => nomatch h), (fun _ h => nomatch h)⟩
  | (n, k) :: r, acc, hf => by
    rw [List.forIn_cons]
    by_cases hk : (k == .free) = true
    · obtain rfl : k = .free := beq_iff_eq.mp hk
      obtain ⟨c, hc⟩ := Option.isSome_iff_exists.mp (hf n (.head _))
      obtain ⟨cl, e, a, b⟩ := clos_of r ((n, c) :: acc) fun n hn => hf n (.tail _ hn)
      refine ⟨cl ++ [(n, c)], ?_, fun x c' hx => ?_, fun x hx => ?_⟩
      · have e1 : cellOf env n = pure c := by unfold cellOf; rw [hc]
        simp only [hk, if_true, e1, pure_bind]
        rw [e]; simp
      · rcases List.mem_append.mp hx with h | h
        · exact ⟨.tail _ (a x c' h).1, (a x c' h).2⟩
        · cases List.mem_singleton.mp h; exact ⟨.head _, hc⟩
      · rcases List.mem_cons.mp hx with h | h
        · cases h; exact ⟨c, by simp⟩
        · obtain ⟨c', h'⟩ := b x h; exact ⟨c', List.mem_append_left _ h'⟩
    · obtain ⟨cl, e, a, b⟩ := clos_of r acc fun n hn => hf n (.tail _ hn)
      refine ⟨cl, ?_, fun x c hx => ⟨.tail _ (a x c hx).1, (a x c hx).2⟩, fun x hx => ?_⟩
      · simp only [hk, if_false, pure_bind, Bool.false_eq_true]
        exact e
      · rcases List.mem_cons.mp hx with h | h
        · cases h; simp at hk
        · exact b x h
theorem closure_of {env : Env} {scope : Scope} (hf : ∀ n, (n, NameKind.free) ∈ scope.names → (env.cells.lookup n).isSome = true) :
    ∃ cl, closureFor scope env = pure cl ∧ (∀ x c, (x, c) ∈ cl → (x, NameKind.free) ∈ scope.names ∧ env.cells.lookup x = some c) ∧ ∀ x, (x, NameKind.free) ∈ scope.names → ∃ c, (x, c) ∈ cl := by
  obtain ⟨cl, e, a, b⟩ := clos_of (env := env) scope.names [] hf
  refine ⟨cl, ?_, a, b⟩
  rw [List.append_nil] at e
  rw [← e]
  simp only [closureFor]
  first | rfl | (rw [bind_pure]) | simp
end
end Mine
end

section
open PySem PySem.W PySem.Calls PySem.Spec PyProof.Rows PyProof.Rows.LCg
set_option Elab.async false
set_option maxRecDepth 100000
set_option linter.unusedVariables false
namespace Mine

theorem hide_new {W W' : List Addr} {h h' : Heap} (hs : ∀ a ∈ W', a ∈ W ∨ h.get? a = none) (k : ∀ b o, b ∉ W → h.get? b = some o → h'.get? b = some o) : Le (hideAll h W) (hideAll h' W') := fun b o e => by
  obtain ⟨e1, e2⟩ := hide_get e
  refine hideAll_get W' (k b o e2 e1) fun q => ?_
  rcases hs b q with x | x
  · exact e2 x
  · rw [e1] at x; cases x

/-- the frame of names of a comprehension -/
noncomputable abbrev cenvOf (env : Env) (scope : Scope) (C : Addr) (cs : List (Str × Addr)) : Env :=
  { scope := relabel scope env, locals := C, globals := env.globals, cells := cs, qual := env.qual, func := none, code := env.code, frame := env.frame, builtins := env.builtins }

theorem relabel_lookup {scope : Scope} {env : Env} {x : Str} : (relabel scope env).names.lookup x = (scope.names.lookup x).map fun k => if (k == NameKind.free && env.scope.kind == .function && env.kindOf x == some .cell) then .cell else k := by
  unfold relabel
  dsimp only
  generalize scope.names = names
  induction names with
  | nil => rfl
  | cons p r ih =>
    obtain ⟨n, k⟩ := p
    rw [List.map_cons]
    cases hx : x == n with
    | true =>
      have e : x = n := beq_iff_eq.mp hx
      subst e
      by_cases hc : (k == NameKind.free && env.scope.kind == .function && env.kindOf x == some .cell) = true
      · simp only [List.lookup_cons, hx, hc, if_true, Option.map_some]
      · simp only [List.lookup_cons, hx, hc, if_false, Option.map_some, Bool.false_eq_true]
    | false =>
      by_cases hc : (k == NameKind.free && env.scope.kind == .function && env.kindOf n == some .cell) = true
      · simp only [hc, if_true, List.lookup_cons, hx]; exact ih
      · simp only [hc, if_false, List.lookup_cons, hx, Bool.false_eq_true]; exact ih

theorem lookup_of_nodup {names : List (Str × NameKind)} (hn : (names.map (·.1)).Nodup) {x : Str} {k : NameKind} (h : (x, k) ∈ names) : names.lookup x = some k := by
  induction names with
  | nil => cases h
  | cons p r ih =>
    obtain ⟨n, k'⟩ := p
    rw [List.map_cons, List.nodup_cons] at hn
    rcases List.mem_cons.mp h with e | h
    · cases e; simp
    · have hne : (x == n) = false := beq_eq_false_iff_ne.mpr fun e => hn.1 (e ▸ List.mem_map.mpr ⟨_, h, rfl⟩)
      rw [List.lookup_cons, hne]
      exact ih hn.2 h

/-- what a comprehension sees of its surroundings -/
noncomputable abbrev seen (scope : Scope) (ρ : Ro) : Ro := fun x => match scope.names.lookup x with | some .free => ρ x | _ => none

section
variable {prog : Program} {w : World} {A : Around} {W : List Addr} {M : Mus} {hb h : Heap} {ρ : Ro} {env : Env} {K : Frag} {D U : Nat} {scope : Scope}

theorem wpAny_compEnv {M : Model} {E : Value → Shared → Prop} {s : Shared} {cl : List (Str × Addr)} {Q : Env → Shared → Prop}
    (h : ∀ h', Le s.heap h' → h'.Ns s.heap.objs.size (fun _ => none) → CellsOk h' (s.heap.objs.size + 1) (cellsFrom (s.heap.objs.size + 1) scope.names []) →
      Q { scope := scope, locals := s.heap.objs.size, globals := env.globals, cells := cellsFrom (s.heap.objs.size + 1) scope.names [] ++ cl, qual := env.qual, func := none, code := env.code, frame := env.frame, builtins := env.builtins } { s with heap := h' }) :
    wpAny M A (newFunctionEnv scope env.globals cl [] env.qual none .none (some env)) Q E s := by
  unfold newFunctionEnv
  refine wpAny_bind (wpAny_alloc ?_)
  refine wpAny_bind (wpAny_layCells _ (fun _ _ _ => rfl) _ _ _ _ ?_)
  have e1 : ∀ o : Obj, (s.heap.push o).objs.size = s.heap.objs.size + 1 := fun o => Heap.size_push ..
  dsimp only
  rw [e1, cellsFrom_acc]
  refine wpAny_bind (wpAny_pure (wpAny_pure (h _ (fun b o e => pushCells_keeps _ _ _ _ (Heap.get?_push_of_some _ e)) ?_ ?_)))
  · exact ⟨_, #[], 0, pushCells_keeps _ _ _ _ (Heap.get?_push_size _ rfl), rfl, (fun _ he => by simp at he), fun _ => rfl⟩
  · have := cellsFrom_ok scope.names (s.heap.push { cls := .type "dict", data := .dict #[] }) (s.heap.objs.size + 1) [] ⟨(fun _ _ hm => nomatch hm), .nil⟩ (by rw [e1]; exact Nat.le_refl _)
    rw [e1] at this
    exact this

theorem frm_comp {h' : Heap} {C : Addr} {own cl : List (Str × Addr)} {W' : List Addr} (F : Frm hb env W M h ρ) (hkind : scope.kind = .function) (hnd : (scope.names.map (·.1)).Nodup)
    (hC : h.get? C = none) (k : Le h h') (hn : h'.Ns C fun _ => none) (ho : CellsOk h' (C + 1) own) (hos : ∀ x c, (x, c) ∈ own → (x, NameKind.cell) ∈ scope.names) (hon : ∀ x c, (x, c) ∈ own → h.get? c = none)
    (hoh : ∀ x, (x, NameKind.cell) ∈ scope.names → ∃ c, (x, c) ∈ own)
    (ha : ∀ x c, (x, c) ∈ cl → (x, NameKind.free) ∈ scope.names ∧ env.cells.lookup x = some c) (hh : ∀ x, (x, NameKind.free) ∈ scope.names → ∃ c, (x, c) ∈ cl)
    (hW : ∀ a ∈ W', a ∈ W ∨ h.get? a = none) (hW2 : ∀ a ∈ W, a ∈ W') (hCW : C ∈ W') (hoW : ∀ x c, (x, c) ∈ own → c ∈ W') (hth : There W' h') :
    Frm hb (cenvOf env scope C (own ++ cl)) W' [] h' (seen scope ρ) := by
  have view : Le (hideAll h W) (hideAll h' W') := hide_new hW fun b o _ e => k b o e
  have hbn : ∀ a, h.get? a = none → hb.get? a = none := fun a e => by
    cases q : hb.get? a with
    | none => rfl
    | some o => rw [F.keep a o q] at e; cases e
  have kinds : ∀ x, (cenvOf env scope C (own ++ cl)).kindOf x = (scope.names.lookup x).map fun k => if (k == NameKind.free && env.scope.kind == .function && env.kindOf x == some .cell) then .cell else k := fun x => relabel_lookup
  have mem_of : ∀ {x c}, (own ++ cl).lookup x = some c → (x, c) ∈ own ∨ ((x, c) ∈ cl ∧ own.lookup x = none) := fun {x c} e => by
    rw [lookup_append] at e
    cases q : own.lookup x with
    | some c' => rw [q] at e; cases e; exact .inl (mem_of_lookup q)
    | none => rw [q] at e; exact .inr ⟨mem_of_lookup e, rfl⟩
  refine ⟨hkind, F.gl, F.bl, F.keep.trans k, ⟨_, hn, fun x d hx hr => ?_, (fun _ _ _ hm => nomatch hm)⟩, fun x c e => ?_, (fun _ _ _ hm => nomatch hm), hCW, fun x c e => ?_, hbn C hC, fun x hx => ?_, hth⟩
  · rw [kinds] at hx
    cases q : scope.names.lookup x with
    | none => rw [q] at hx; cases hx
    | some kk =>
      rw [q] at hx
      simp only [seen, q] at hr
      cases kk <;> first | cases hr | (simp only [Option.map_some] at hx; split at hx <;> cases hx)
  · rcases mem_of e with hm | ⟨hm, _⟩
    · refine ⟨none, (ho.empty x c hm).1, fun d hr => ?_⟩
      have := lookup_of_nodup hnd (hos x c hm)
      simp only [seen, this] at hr
      cases hr
    · obtain ⟨h1, h2⟩ := ha x c hm
      obtain ⟨vo, a, b⟩ := F.cl x c h2
      refine ⟨vo, a.keeps k, fun d hr => ?_⟩
      simp only [seen, lookup_of_nodup hnd h1] at hr
      obtain ⟨v, e', r⟩ := b d hr
      exact ⟨v, e', r.mono view⟩
  · have old : ∀ {x c}, (x, c) ∈ cl → ∃ o, h.get? c = some o := fun {x c} hm => by
      obtain ⟨vo, ⟨o, e, _⟩, _⟩ := F.cl x c (ha x c hm).2
      exact ⟨o, e⟩
    rcases mem_of e with hm | ⟨hm, hno⟩
    · refine ⟨hoW x c hm, Nat.ne_of_gt (ho.empty x c hm).2, hbn c (hon x c hm), fun y ey => ?_, ?_⟩
      · rcases mem_of ey with hy | ⟨hy, _⟩
        · exact name_of_addr ho.apart hy hm
        · obtain ⟨o, e⟩ := old hy; rw [hon x c hm] at e; cases e
      · rw [kinds, lookup_of_nodup hnd (hos x c hm)]
        simp
    · obtain ⟨h1, h2⟩ := ha x c hm
      obtain ⟨a, b, c', d, e'⟩ := F.cw x c h2
      obtain ⟨o, eo⟩ := old hm
      refine ⟨hW2 c a, fun q => ?_, c', fun y ey => ?_, ?_⟩
      · have q' : c = C := q
        rw [q', hC] at eo; cases eo
      · rcases mem_of ey with hy | ⟨hy, _⟩
        · rw [hon y c hy] at eo; cases eo
        · exact d y (ha y c hy).2
      · rw [kinds, lookup_of_nodup hnd h1]
        simp only [Option.map_some]
        split <;> simp
  · rw [kinds] at hx
    show ((own ++ cl).lookup x).isSome = true
    cases q : scope.names.lookup x with
    | none => rw [q] at hx; simp at hx
    | some kk =>
      rw [q] at hx
      have hm : (x, kk) ∈ scope.names := mem_of_lookup q
      have isS : ∀ {l : List (Str × Addr)} {c : Addr}, (x, c) ∈ l → (l.lookup x).isSome = true := fun {l c} hm => by
        induction l with
        | nil => cases hm
        | cons p r ih =>
          obtain ⟨n, a⟩ := p
          rw [List.lookup_cons]
          cases hb' : x == n with
          | true => rfl
          | false =>
            rcases List.mem_cons.mp hm with e | hm
            · cases e; simp at hb'
            · exact ih hm
      have both : ∀ {c : Addr}, (x, c) ∈ own ++ cl → ((own ++ cl).lookup x).isSome = true := fun hm => isS hm
      cases kk with
      | free => obtain ⟨c, hc⟩ := hh x hm; exact both (List.mem_append_right _ hc)
      | cell => obtain ⟨c, hc⟩ := hoh x hm; exact both (List.mem_append_left _ hc)
      | _ => simp at hx
end
end Mine
end

section
open PySem PySem.W PySem.Calls PySem.Spec PyProof.Rows PyProof.Rows.LCg
set_option Elab.async false
set_option maxRecDepth 100000
set_option linter.unusedVariables false
namespace Mine
theorem ltA {h : Heap} {a : Addr} {o : Obj} (e : h.get? a = some o) : @LT.lt Nat _ a h.objs.size := Heap.lt_size e

theorem there_but {W : List Addr} {h h' : Heap} {a : Addr} (x : There W h) (k : ∀ b o, b ≠ a → h.get? b = some o → h'.get? b = some o) (e : ∃ o, h'.get? a = some o) : There W h' := fun b hb => by
  by_cases q : b = a
  · exact q ▸ e
  · obtain ⟨o, eo⟩ := x b hb; exact ⟨o, k b o q eo⟩

theorem cellsFrom_has : ∀ (names : List (Str × NameKind)) (n : Nat) (x : Str), (x, NameKind.cell) ∈ names → ∃ c, (x, c) ∈ cellsFrom n names []
  | [], _, _, h => nomatch h
  | (y, k) :: r, n, x, h => by
    unfold cellsFrom
    by_cases hk : (k == .cell) = true
    · rw [if_pos hk, cellsFrom_acc]
      rcases List.mem_cons.mp h with e | h
      · cases e; exact ⟨n, List.mem_append_right _ (List.mem_singleton.mpr rfl)⟩
      · obtain ⟨c, hc⟩ := cellsFrom_has r (n + 1) x h; exact ⟨c, List.mem_append_left _ hc⟩
    · rw [if_neg hk]
      rcases List.mem_cons.mp h with e | h
      · cases e; exact absurd rfl hk
      · exact cellsFrom_has r n x h

theorem there_buts {W wr : List Addr} {h h' : Heap} (x : There W h) (k : ∀ b o, b ∉ wr → h.get? b = some o → h'.get? b = some o) (e : ∀ a ∈ wr, ∃ o, h'.get? a = some o) : There W h' := fun b hb => by
  by_cases q : b ∈ wr
  · exact e b q
  · obtain ⟨o, eo⟩ := x b hb; exact ⟨o, k b o q eo⟩

/-- hidden objects that are none of the frame's own have changed -/
theorem Frm.others {hb h h' : Heap} {env : Env} {W wr : List Addr} {M : Mus} {ρ : Ro} (F : Frm hb env W M h ρ) (ha : ∀ a ∈ wr, a ∈ W ∧ a ≠ env.locals ∧ (∀ y, env.cells.lookup y ≠ some a) ∧ (∀ p ∈ M, p.2.1 ≠ a) ∧ hb.get? a = none)
    (k : ∀ b o, b ∉ wr → h.get? b = some o → h'.get? b = some o) (e : ∀ a ∈ wr, ∃ o, h'.get? a = some o) : Frm hb env W M h' ρ := by
  have view : Le (hideAll h W) (hideAll h' W) := hide_mono (fun _ x => x) fun b o hb e => k b o (fun q => hb (ha b q).1) e
  refine ⟨F.fn, F.gl, F.bl, fun b o eo => k b o (fun q => ?_) (F.keep b o eo), ?_, fun x c ec => ?_, fun x l ds hx => ?_, F.lw, F.cw, F.lb, F.has, there_buts F.th k e⟩
  · rw [(ha b q).2.2.2.2] at eo; cases eo
  · obtain ⟨m, x, y, z⟩ := F.ns
    exact ⟨m, (by obtain ⟨o, es, ep, eo, r⟩ := x; exact ⟨o, es, ep, k _ _ (fun q => (ha _ q).2.1 rfl) eo, r⟩), fun x d hx hr => let ⟨v, e, r⟩ := y x d hx hr; ⟨v, e, r.mono view⟩, z⟩
  · obtain ⟨vo, ⟨o, eo, r⟩, y⟩ := F.cl x c ec
    exact ⟨vo, ⟨o, k _ _ (fun q => (ha _ q).2.2.1 x ec) eo, r⟩, fun d hr => let ⟨v, e, r⟩ := y d hr; ⟨v, e, r.mono view⟩⟩
  · obtain ⟨p, q, r, t, u, vs, n, eo, rr⟩ := F.mu x l ds hx
    exact ⟨p, q, r, t, u, vs, n, k _ _ (fun q => (ha _ q).2.2.2.1 _ hx rfl) eo, rr.mono view⟩

/-- a hidden object that is none of the frame's own has changed -/
theorem Frm.other {hb h h' : Heap} {env : Env} {W : List Addr} {M : Mus} {ρ : Ro} {a : Addr} (F : Frm hb env W M h ρ) (ha : a ∈ W) (hl : a ≠ env.locals) (hc : ∀ y, env.cells.lookup y ≠ some a) (hm : ∀ p ∈ M, p.2.1 ≠ a) (hn : hb.get? a = none)
    (k : ∀ b o, b ≠ a → h.get? b = some o → h'.get? b = some o) (e : ∃ o, h'.get? a = some o) : Frm hb env W M h' ρ := by
  have view : Le (hideAll h W) (hideAll h' W) := hide_mono (fun _ x => x) fun b o hb e => k b o (fun q => hb (q ▸ ha)) e
  refine ⟨F.fn, F.gl, F.bl, fun b o eo => k b o (fun q => ?_) (F.keep b o eo), ?_, fun x c ec => ?_, fun x l ds hx => ?_, F.lw, F.cw, F.lb, F.has, there_but F.th k e⟩
  · rw [q, hn] at eo; cases eo
  · obtain ⟨m, x, y, z⟩ := F.ns
    exact ⟨m, (by obtain ⟨o, es, ep, eo, r⟩ := x; exact ⟨o, es, ep, k _ _ (Ne.symm hl) eo, r⟩), fun x d hx hr => let ⟨v, e, r⟩ := y x d hx hr; ⟨v, e, r.mono view⟩, z⟩
  · obtain ⟨vo, ⟨o, eo, r⟩, y⟩ := F.cl x c ec
    exact ⟨vo, ⟨o, k _ _ (fun q => hc x (q ▸ ec)) eo, r⟩, fun d hr => let ⟨v, e, r⟩ := y d hr; ⟨v, e, r.mono view⟩⟩
  · obtain ⟨p, q, r, t, u, vs, n, eo, rr⟩ := F.mu x l ds hx
    exact ⟨p, q, r, t, u, vs, n, k _ _ (hm _ hx) eo, rr.mono view⟩

section
variable {prog : Program} {w : World} {A : Around}

noncomputable abbrev testsOf (ifs : List Expr) (env : Env) : Sem Bool := forIn ifs true fun c r => if r = true then do let ok ← isTrue c env (eval c env); pure (ForInStep.yield ok) else pure (ForInStep.yield r)

theorem loop_comp {R : Result → Shared → Prop} {s : Shared} {elt target iter : Expr} {ifs : List Expr} {scope : Scope} {pos : Pos} {it acc : Value} {env : Env} (I : Nat → Shared → Prop)
    (turn : ∀ n s, I n s → ∀ E, wpAny (model prog w) A (pyNext it) (fun r s₁ => match r with
      | none => R (.ok .next) s₁
      | some v => wpAny (model prog w) A (letOwnedTupleGo target it v) (fun _ s₀ => wpAny (model prog w) A (assign target env v) (fun _ s₂ =>
          wpAny (model prog w) A (testsOf ifs env) (fun ok s₃ =>
            if ok = true then wpAny (model prog w) A (eval elt env) (fun x s₄ =>
              wpAny (model prog w) A (PySem.call (.builtin "list.append") [acc, x]) (fun _ s₅ => ∃ m, m < n ∧ I m s₅) E s₄) E s₃
            else ∃ m, m < n ∧ I m s₃) E s₂) E s₀) E s₁) E s)
    (n : Nat) (h : I n s) : codeAny (model prog w) A (.compLoop (.ListComp elt [⟨target, iter, ifs, 0⟩] scope pos) 0 it acc env) R s := by
  refine codeAny_loop rfl I (fun n s hI => ?_) n h
  show wpAny _ A ((compTurn (.ListComp elt [⟨target, iter, ifs, 0⟩] scope pos) 0 it acc env).onRaise (fun x => do noteFrame x env; theTreesLotGoes x)) _ _ s
  refine wpAny_noted ?_
  rw [compTurn_list]
  refine wpAny_bind (wpAny_standAt (wpAny_bind (wpAny_mono (turn n s hI _) (fun r s₁ h₁ => ?_) fun _ _ e => e)))
  cases r with
  | none => exact wpAny_pure h₁
  | some v =>
    refine wpAny_bind (wpAny_mono h₁ (fun _ s₀ h₀ => ?_) fun _ _ e => e)
    refine wpAny_bind (wpAny_mono h₀ (fun _ s₂ h₂ => wpAny_bind (wpAny_mono h₂ (fun ok s₃ h₃ => ?_) fun _ _ e => e)) fun _ _ e => e)
    cases ok with
    | false => exact wpAny_pure ⟨rfl, h₃⟩
    | true => exact wpAny_bind (wpAny_bind (wpAny_mono h₃ (fun x s₄ h₄ => wpAny_bind (wpAny_mono h₄ (fun _ s₅ h₅ => wpAny_pure (wpAny_pure ⟨rfl, h₅⟩)) fun _ _ e => e)) fun _ _ e => e))

/-- what an assignment to the target does; it changes the frame's names alone -/
noncomputable def Asg (prog : Program) (w : World) (A : Around) (scope : Scope) (nm : List Str) (env : Env) (target : Expr) (d : PyData) (ρ₀ ρ₁ : Ro) : Prop :=
  ∀ (hb : Heap) (W : List Addr) (M : Mus) (s : Shared) (v : Value) (Q : Unit → Shared → Prop) (E : Value → Shared → Prop), Frm hb env W M s.heap ρ₀ → (∀ p ∈ M, p.1 ∉ nm) → Rp (hideAll s.heap W) v d →
    (∀ h' tk, Frm hb env W M h' ρ₁ → (∀ b o, b ≠ env.locals → (∀ x, (x, NameKind.cell) ∈ scope.names → env.cells.lookup x ≠ some b) → s.heap.get? b = some o → h'.get? b = some o) → Q () { s with heap := h', toks := tk }) →
    wpAny (model prog w) A (assign target env v) Q E s

noncomputable def EvT (prog : Program) (w : World) (A : Around) (h₀ : Heap) (ifs : List Expr) (env : Env) (b : Bool) : Prop :=
  ∀ (s : Shared) (Q : Bool → Shared → Prop) (E : Value → Shared → Prop), Le h₀ s.heap → (∀ s', Grow s s' → Q b s') → wpAny (model prog w) A (testsOf ifs env) Q E s
theorem EvT.nil {h₀ : Heap} {env : Env} : EvT prog w A h₀ [] env true := fun s Q E _ hQ => wpAny_tests_nil (hQ s .rfl)
theorem EvT.one {h₀ : Heap} {env : Env} {c : Expr} {b : Bool} (x : EvB prog w A h₀ (isTrue c env (eval c env)) b) : EvT prog w A h₀ [c] env b := fun s Q E hs hQ => wpAny_tests_one (x s Q E hs hQ)

variable {W : List Addr} {M : Mus} {hb h : Heap} {ρ : Ro} {env : Env} {scope : Scope}

theorem filterMap_take {α β : Type} (f : α → Option β) (l : List α) (i : Nat) (a : α) (e : l[i]? = some a) : (l.take (i + 1)).filterMap f = (l.take i).filterMap f ++ (f a).toList := by
  rw [List.take_add_one, e, List.filterMap_append]
  cases q : f a <;> simp [q]

theorem comp_core {nm : List Str} {elt target iter : Expr} {ifs : List Expr} {pos p : Pos} {ds : List PyData} {tgt : PyData → Ro} {f : PyData → Option PyData} {use : Option (Value → Sem Unit)} {Q E : Value → Shared → Prop} {s : Shared}
    (F : Frm hb env W M h ρ) (hs₀ : Le h s.heap) (hz : ds.length ≤ 1000000) (hnd : (scope.names.map (·.1)).Nodup) (hkind : scope.kind = .function)
    (hfree : (scope.names.all fun x => x.2 != .free || env.kindOf x.1 == some .cell || env.kindOf x.1 == some .free) = true)
    (hsub : ∀ d x y, seen scope ρ x = some y → tgt d x = some y)
    (src : Src prog w A W h target (eval iter env) ds)
    (asg : ∀ C cs d, d ∈ ds → Asg prog w A scope nm (cenvOf env scope C cs) target d (seen scope ρ) (tgt d))
    (turn : ∀ C cs d W' h', d ∈ ds → Frm hb (cenvOf env scope C cs) W' [] h' (tgt d) →
      EvT prog w A h' ifs (cenvOf env scope C cs) (f d).isSome ∧ ∀ y, f d = some y → Ev prog w A W' h' (eval elt (cenvOf env scope C cs)) y)
    (post : ∀ D C m s', Grow s s' → s.heap.get? C = none → s.heap.get? D = none → C ≠ D → s'.heap.Ns C m → (∀ h', Heap.SameBut C s'.heap h' → Rp (hideAll h' W) (.ref D) (.list (ds.filterMap f)) ∧ Le s.heap h') → compPost (model prog w) A E use Q (.ref D) C (.ok .next) s')
    (hs : ∀ x, foldedSetIterable iter env x = pure x) :
    wpAny (model prog w) A (comprehension (.ListComp elt [⟨target, iter, ifs, 0⟩] scope pos) scope env p (newList []) false (eval iter env) use) Q E s := by
  obtain ⟨cl, hclos, ha, hh⟩ := closure_of (env := env) (scope := scope) fun n hn => F.has n (by
    have := List.all_eq_true.mp hfree (n, .free) hn
    simp at this
    exact this)
  refine wpAny_comprehension_free rfl hs hclos hkind (fun x hx hl => by rw [← hl]; exact lookup_of_nodup hnd hx) (src s _ _ hs₀ fun x s₁ g₁ kk => kk _ _ fun g I wr St Mid s₂ lg lg2 g₂ hwr R st => ?_)
  refine wpAny_newList (wpAny_compEnv fun h₄ k₄ hn₄ ho₄ => ?_)
  dsimp only at k₄ hn₄ ho₄ ⊢
  have size3 : (s₂.heap.push { cls := .type "list", dict := none, data := .seq ([] : List Value).toArray }).objs.size = s₂.heap.objs.size + 1 := Heap.size_push ..
  generalize hS3 : s₂.heap.push { cls := .type "list", dict := none, data := .seq ([] : List Value).toArray } = H3 at k₄ hn₄ ho₄ size3 ⊢
  have hD3 : H3.get? s₂.heap.objs.size = some { cls := .type "list", data := .seq #[] } := by rw [← hS3]; exact Heap.get?_push_size _ rfl
  have k23 : Le s₂.heap H3 := by rw [← hS3]; exact le_push _ _
  generalize hown : cellsFrom (H3.objs.size + 1) scope.names [] = own at ho₄ ⊢
  have k14 : Le g h₄ := lg2.trans (k23.trans k₄)
  have fresh : ∀ a, g.objs.size ≤ a → g.get? a = none := fun a ha => by
    cases e : g.get? a with
    | none => rfl
    | some o => exact absurd (Heap.lt_size e) (Nat.not_lt.mpr ha)
  have size12 : g.objs.size ≤ s₂.heap.objs.size := Nat.le_of_lt (Nat.lt_of_le_of_lt (R.new I R.own) (hwr I R.own))
  have ownge : ∀ x c, (x, c) ∈ own → H3.objs.size + 1 ≤ c := fun x c hm => (ho₄.empty x c hm).2
  have F₁ : Frm hb env W M g ρ := F.grow (hs₀.trans lg)
  let W' : List Addr := H3.objs.size :: s₂.heap.objs.size :: (wr ++ (own.map (·.2) ++ W))
  have memW : ∀ {P : Addr → Prop}, P H3.objs.size → P s₂.heap.objs.size → (∀ a ∈ wr, P a) → (∀ x c, (x, c) ∈ own → P c) → (∀ a ∈ W, P a) → ∀ a ∈ W', P a := fun {P} p1 p2 p3 p4 p5 a hm => by
    rcases List.mem_cons.mp hm with rfl | hm
    · exact p1
    · rcases List.mem_cons.mp hm with rfl | hm
      · exact p2
      · rcases List.mem_append.mp hm with hm | hm
        · exact p3 a hm
        · rcases List.mem_append.mp hm with hm | hm
          · obtain ⟨⟨x, c⟩, hp, rfl⟩ := List.mem_map.mp hm
            exact p4 x c hp
          · exact p5 a hm
  have hW' : ∀ a ∈ W', a ∈ W ∨ g.get? a = none := memW (.inr (fresh _ (by rw [size3]; exact Nat.le_succ_of_le size12))) (.inr (fresh _ size12)) (fun a ha => .inr (fresh _ (R.new a ha)))
    (fun x c hp => .inr (fresh _ (Nat.le_trans (by (first | lia | omega)) (ownge x c hp)))) fun a ha => .inl ha
  have hth : There W' h₄ := memW (P := fun a => ∃ o, h₄.get? a = some o) (by obtain ⟨o, _, _, e, _⟩ := hn₄; exact ⟨o, e⟩) ⟨_, k₄ _ _ hD3⟩ (fun a ha => by obtain ⟨o, e, _⟩ := R.at_ 0 _ st a ha; exact ⟨o, k₄ _ _ (k23 _ _ e)⟩)
    (fun x c hp => by obtain ⟨⟨o, e, _⟩, _⟩ := ho₄.empty x c hp; exact ⟨o, e⟩) fun a ha => by obtain ⟨o, e⟩ := F₁.th a ha; exact ⟨o, k14 _ _ e⟩
  have mC : H3.objs.size ∈ W' := List.mem_cons_self ..
  have mD : s₂.heap.objs.size ∈ W' := List.mem_cons_of_mem _ (List.mem_cons_self ..)
  have mI : ∀ a ∈ wr, a ∈ W' := fun a ha => List.mem_cons_of_mem _ (List.mem_cons_of_mem _ (List.mem_append_left _ ha))
  have mO : ∀ x c, (x, c) ∈ own → c ∈ W' := fun x c hm => List.mem_cons_of_mem _ (List.mem_cons_of_mem _ (List.mem_append_right _ (List.mem_append_left _ (List.mem_map.mpr ⟨_, hm, rfl⟩))))
  have mW : ∀ a ∈ W, a ∈ W' := fun a hm => List.mem_cons_of_mem _ (List.mem_cons_of_mem _ (List.mem_append_right _ (List.mem_append_right _ hm)))
  have FC : Frm hb (cenvOf env scope H3.objs.size (own ++ cl)) W' [] h₄ (seen scope ρ) :=
    frm_comp F₁ hkind hnd (fresh _ (by rw [size3]; exact Nat.le_succ_of_le size12)) k14 hn₄ ho₄ (fun x c hm => cellsFrom_mem _ _ (hown ▸ hm)) (fun x c hm => fresh _ (Nat.le_trans (by (first | lia | omega)) (ownge x c hm)))
      (fun x hm => hown ▸ cellsFrom_has _ _ x hm) ha hh hW' mW mC mO hth
  have hC1 : g.get? H3.objs.size = none := fresh _ (by rw [size3]; exact Nat.le_succ_of_le size12)
  have hD1 : g.get? s₂.heap.objs.size = none := fresh _ size12
  have hI1 : ∀ a ∈ wr, g.get? a = none := fun a ha => fresh _ (R.new a ha)
  have hCD : H3.objs.size ≠ s₂.heap.objs.size := by rw [size3]; exact Nat.succ_ne_self _
  have hCI : ∀ a ∈ wr, a ≠ H3.objs.size := fun a ha => by rw [size3]; exact Nat.ne_of_lt (Nat.lt_succ_of_lt (hwr a ha))
  have hDI : ∀ a ∈ wr, a ≠ s₂.heap.objs.size := fun a ha => Nat.ne_of_lt (hwr a ha)
  have cellAt : ∀ y a, (own ++ cl).lookup y = some a → H3.objs.size + 1 ≤ a ∨ ∃ o, g.get? a = some o := fun y a e => by
    rcases List.mem_append.mp (mem_of_lookup e) with hm | hm
    · exact .inl (ownge y a hm)
    · obtain ⟨vo, ⟨o, eo, _⟩, _⟩ := F₁.cl y a (ha y a hm).2
      exact .inr ⟨o, eo⟩
  have notCell : ∀ a, a < H3.objs.size + 1 → g.get? a = none → ∀ y, (own ++ cl).lookup y ≠ some a := fun a h1 h2 y e => by
    rcases cellAt y a e with q | ⟨o, q⟩
    · (first | lia | omega)
    · rw [h2] at q; cases q
  have ownCell : ∀ x b, (x, NameKind.cell) ∈ scope.names → (own ++ cl).lookup x = some b → (x, b) ∈ own := fun x b hm e => by
    obtain ⟨c, hc⟩ := hown ▸ cellsFrom_has scope.names (H3.objs.size + 1) x hm
    rw [lookup_append] at e
    cases q : own.lookup x with
    | some c' => rw [q] at e; cases e; exact mem_of_lookup q
    | none =>
      exfalso
      have : ∀ {l : List (Str × Addr)}, (x, c) ∈ l → l.lookup x = none → False := fun {l} hm hn => by
        induction l with
        | nil => cases hm
        | cons p r ih =>
          obtain ⟨n, a⟩ := p
          rw [List.lookup_cons] at hn
          cases hb' : x == n with
          | true => rw [hb'] at hn; cases hn
          | false =>
            rw [hb'] at hn
            rcases List.mem_cons.mp hm with e | hm
            · cases e; simp at hb'
            · exact ih hm hn
      exact this hc q
  have hbn : ∀ a, g.get? a = none → hb.get? a = none := fun a e => by
    cases q : hb.get? a with
    | none => rfl
    | some o => rw [F₁.keep a o q] at e; cases e
  have wrOk : ∀ a ∈ wr, a ∈ W' ∧ a ≠ (cenvOf env scope H3.objs.size (own ++ cl)).locals ∧ (∀ y, (cenvOf env scope H3.objs.size (own ++ cl)).cells.lookup y ≠ some a) ∧ (∀ p ∈ ([] : Mus), p.2.1 ≠ a) ∧ hb.get? a = none := fun a ha =>
    ⟨mI a ha, hCI a ha, notCell a (by rw [size3]; exact Nat.lt_succ_of_lt (Nat.lt_succ_of_lt (hwr a ha))) (hI1 a ha), (fun _ hm => nomatch hm), hbn _ (hI1 a ha)⟩
  have loop : ∀ s₅ : Shared, s₅ = { s₂ with heap := h₄ } →
      codeAny (model prog w) A (.compLoop (.ListComp elt [⟨target, iter, ifs, 0⟩] scope pos) 0 (.ref I) (.ref s₂.heap.objs.size) (cenvOf env scope H3.objs.size (own ++ cl))) (compPost (model prog w) A E use Q (.ref s₂.heap.objs.size) H3.objs.size) s₅ := by
    rintro s₅ rfl
    refine loop_comp (fun n s' => ∃ i ys k, n = ds.length + 1 - i ∧ i ≤ ds.length ∧ St i s'.heap ∧ Frm hb (cenvOf env scope H3.objs.size (own ++ cl)) W' [] s'.heap (seen scope ρ) ∧
      s'.heap.get? s₂.heap.objs.size = some { cls := .type "list", data := .seq ys k } ∧ RpL (hideAll s'.heap W') ys.toList ((ds.take i).filterMap f) ∧ Grow { s with heap := g } s') ?_ (ds.length + 1)
      ⟨0, #[], 0, rfl, Nat.zero_le _, ?_, FC, k₄ _ _ hD3, .nil, ⟨k14, g₂.os, g₂.gens⟩⟩
    · rintro n s' ⟨i, ys, k, rfl, hi, st', F', hD', hr', G'⟩ E'
      by_cases hlt : i < ds.length
      · obtain ⟨d, hd⟩ : ∃ d, ds[i]? = some d := ⟨_, List.getElem?_eq_getElem hlt⟩
        have notWr : ∀ b o, g.get? b = some o → b ∉ wr := fun b o e q => by rw [hI1 b q] at e; cases e
        refine R.item i d _ _ _ hd st' fun v h₀₁ tk₁ hR md₀ k₀ => ?_
        have F0 : Frm hb (cenvOf env scope H3.objs.size (own ++ cl)) W' [] h₀₁ (seen scope ρ) := F'.others wrOk k₀ fun a ha => let ⟨o, e, _⟩ := R.mid_ _ _ _ md₀ a ha; ⟨o, e⟩
        have rv0 : Rp (hideAll h₀₁ W') v d := hR W' F'.th (hide_new hW' fun b o _ e => k₀ b o (notWr b o e) (G'.heap b o e))
        refine R.go i v { s' with heap := h₀₁, toks := tk₁ } _ _ md₀ fun h₁ st₁ kg => ?_
        have k₁' : ∀ b o, b ∉ wr → s'.heap.get? b = some o → h₁.get? b = some o := fun b o hb e => kg b o hb (k₀ b o hb e)
        have F1 : Frm hb (cenvOf env scope H3.objs.size (own ++ cl)) W' [] h₁ (seen scope ρ) := F0.others wrOk kg fun a ha => let ⟨o, e, _⟩ := R.at_ _ _ st₁ a ha; ⟨o, e⟩
        have rv1 : Rp (hideAll h₁ W') v d := rv0.mono (hide_mono (fun _ x => x) fun b o hb e => kg b o (fun q => hb (mI b q)) e)
        refine asg _ _ d (List.mem_of_getElem? hd) hb W' [] _ v _ _ F1 (fun _ hm => nomatch hm) rv1 fun h₂ tk₂ F2 k₂ => ?_
        have keep2 : ∀ b o, b ≠ H3.objs.size → (∀ x c, (x, c) ∈ own → c ≠ b) → h₁.get? b = some o → h₂.get? b = some o := fun b o hb ho e => k₂ b o hb (fun x hx ex => ho x b (ownCell x b hx ex) rfl) e
        have st2 : St (i + 1) h₂ := R.frame _ _ _ st₁ fun b hb o e => by
          refine keep2 b o ?_ ?_ e
          · rcases hb with hb | ⟨⟨ob, eb⟩, _⟩
            · exact hCI b hb
            · intro q; rw [q, hC1] at eb; cases eb
          · intro x c hm q
            have h9 : H3.objs.size + 1 ≤ (b : Nat) := q ▸ ownge x c hm
            rcases hb with hb | ⟨⟨ob, eb⟩, _⟩
            · have := hwr b hb
              (first | lia | omega)
            · have h8 := ltA eb
              (first | lia | omega)
        have hD2 : h₂.get? s₂.heap.objs.size = some { cls := .type "list", data := .seq ys k } := keep2 _ _ (Ne.symm hCD) (fun x c hm q => by have h9 : H3.objs.size + 1 ≤ (s₂.heap.objs.size : Nat) := q ▸ ownge x c hm; (first | lia | omega)) (k₁' _ _ (fun q => hDI _ q rfl) hD')
        have hr2 : RpL (hideAll h₂ W') ys.toList ((ds.take i).filterMap f) := hr'.mono (hide_mono (fun _ x => x) fun b o hb e => keep2 b o (fun q => hb (q ▸ mC)) (fun x c hm q => hb (q ▸ mO x c hm)) (k₁' b o (fun q => hb (mI b q)) e))
        have G2 : Grow { s with heap := g } { s' with heap := h₂, toks := tk₂ } := ⟨fun b o e => keep2 b o (fun q => by rw [q, hC1] at e; cases e) (fun x c hm q => by have h9 : H3.objs.size + 1 ≤ (b : Nat) := q ▸ ownge x c hm; have h8 : @LT.lt Nat _ b g.objs.size := ltA e; (first | lia | omega))
          (k₁' b o (notWr b o e) (G'.heap b o e)), G'.os, G'.gens⟩
        obtain ⟨T, EL⟩ := turn _ _ d W' h₂ (List.mem_of_getElem? hd) F2
        refine T { s' with heap := h₂, toks := tk₂ } _ _ le_rfl fun s₃ g₃ => ?_
        have st3 : St (i + 1) s₃.heap := R.frame _ _ _ st2 fun b _ o e => g₃.heap b o e
        have back : ∀ {s'' : Shared}, Frm hb (cenvOf env scope H3.objs.size (own ++ cl)) W' [] s''.heap (tgt d) → Frm hb (cenvOf env scope H3.objs.size (own ++ cl)) W' [] s''.heap (seen scope ρ) := fun F => F.weaken (hsub d)
        cases hf : f d with
        | none =>
          simp only [Option.isSome_none, Bool.false_eq_true, if_false]
          refine ⟨ds.length + 1 - (i + 1), by (first | lia | omega), i + 1, ys, k, rfl, hlt, st3, back (F2.grow g₃.heap), g₃.heap _ _ hD2, ?_, G2.trans g₃⟩
          rw [filterMap_take f ds i d hd, hf]
          simpa using hr2.mono (hide_le_of g₃.heap)
        | some y =>
          simp only [Option.isSome_some, if_true]
          refine EL y hf s₃ _ _ g₃.heap fun x s₄ g₄ r₄ => ?_
          have G4 := G2.trans (g₃.trans g₄)
          have hD4 := g₄.heap _ _ (g₃.heap _ _ hD2)
          have hr4 := hr2.mono (hide_le_of (g₃.heap.trans g₄.heap))
          have F4 := (F2.grow g₃.heap).grow g₄.heap
          have hsz : ys.size ≤ sizeLine := by
            have h1 := hr2.length
            have h2 : ((ds.take i).filterMap f).length ≤ (ds.take i).length := List.length_filterMap_le ..
            have h3 : (ds.take i).length ≤ ds.length := by rw [List.length_take]; exact Nat.min_le_right _ _
            rw [Array.length_toList] at h1
            rw [sizeLine_eq]; (first | lia | omega)
          refine append_at hD4 (fun h₅ sb hD5 => ?_) hsz
          have kk₅ : ∀ b o, b ≠ s₂.heap.objs.size → s₄.heap.get? b = some o → h₅.get? b = some o := fun b o hb e => (sb.2 b hb).trans e
          have F5 : Frm hb (cenvOf env scope H3.objs.size (own ++ cl)) W' [] h₅ (tgt d) := F4.other mD (Ne.symm hCD) (notCell _ (by (first | lia | omega)) hD1) (fun _ hm => nomatch hm) (hbn _ hD1) kk₅ ⟨_, hD5⟩
          refine ⟨ds.length + 1 - (i + 1), by (first | lia | omega), i + 1, ys.push x, k + 1, rfl, hlt, ?_, F5.weaken (hsub d), hD5, ?_, ⟨fun b o e => kk₅ b o (fun q => by rw [q, hD1] at e; cases e) (G4.heap b o e), G4.os, G4.gens⟩⟩
          · refine R.frame _ _ _ (R.frame _ _ _ st3 fun b _ o e => g₄.heap b o e) fun b hb o e => kk₅ b o (fun q => ?_) e
            rcases hb with hb | ⟨⟨ob, eb⟩, _⟩
            · exact hDI b hb q
            · rw [q, hD1] at eb; cases eb
          · have view : Le (hideAll s₄.heap W') (hideAll h₅ W') := hide_mono (fun _ x => x) fun b o hb e => kk₅ b o (fun q => hb (q ▸ mD)) e
            rw [filterMap_take f ds i d hd, hf, Array.toList_push]
            exact (hr4.mono view).snoc (r₄.mono view)
      · obtain rfl : i = ds.length := Nat.le_antisymm hi (Nat.not_lt.mp hlt)
        refine R.done _ _ _ st' fun h₁ tk₁ k₁' => ?_
        have notWr : ∀ b o, g.get? b = some o → b ∉ wr := fun b o e q => by rw [hI1 b q] at e; cases e
        obtain ⟨m, hm, _⟩ := F'.ns
        have hmn : h₁.Ns H3.objs.size m := by obtain ⟨o, es, ep, eo, r⟩ := hm; exact ⟨o, es, ep, k₁' _ _ (fun q => hCI _ q rfl) eo, r⟩
        have old : ∀ b o, s.heap.get? b = some o → g.get? b = some o := lg
        have none_of : ∀ a, g.get? a = none → s.heap.get? a = none := fun a e => by
          cases q : s.heap.get? a with
          | none => rfl
          | some o => rw [old a o q] at e; cases e
        refine post s₂.heap.objs.size H3.objs.size m { s' with heap := h₁, toks := tk₁ } ⟨fun b o e => k₁' b o (notWr b o (old b o e)) (G'.heap b o (old b o e)), G'.os, G'.gens⟩
          (none_of _ hC1) (none_of _ hD1) hCD hmn fun h' sb => ⟨?_, fun b o e => ?_⟩
        · rw [List.take_length] at hr'
          refine .list (o := { cls := .type "list", data := .seq ys k }) (hideAll_get W ((sb.2 _ (Ne.symm hCD)).trans (k₁' _ _ (fun q => hDI _ q rfl) hD')) fun hm => ?_) rfl rfl rfl (hr'.mono (hide_mono mW fun b o hb e => (sb.2 b fun q => hb (q ▸ mC)).trans (k₁' b o (fun q => hb (mI b q)) e)))
          obtain ⟨o, eo⟩ := F₁.th _ hm
          rw [hD1] at eo; cases eo
        · have e1 := old b o e
          exact (sb.2 b fun q => by rw [q, hC1] at e1; cases e1).trans (k₁' b o (notWr b o e1) (G'.heap b o e1))
    · exact R.frame _ _ _ st fun b _ o e => k₄ _ _ (k23 _ _ e)
  exact codeAny_compStart_list (loop _ rfl) (R.self 0 _ _ _ (R.frame _ _ _ st fun b _ o e => k₄ _ _ (k23 _ _ e)) (loop _ rfl))
end
end Mine
end

section
open PySem PySem.W PySem.Calls PySem.Spec PyProof.Rows PyProof.Rows.LCg
set_option Elab.async false
set_option maxRecDepth 100000
set_option linter.unusedVariables false
namespace Mine

/-! ## objects that hold no data may change -/
noncomputable def LeD (h h' : Heap) : Prop := ∀ b o, h.get? b = some o → isD o → h'.get? b = some o
mutual
theorem Rp.monoD {h h' : Heap} (k : LeD h h') : ∀ {v : Value} {d : PyData}, Rp h v d → Rp h' v d
  | _, _, .none => .none
  | _, _, .bool b => .bool b
  | _, _, .int i t => .int i t
  | _, _, .str x t => .str x t
  | _, _, .raw a => .raw a
  | _, _, .list e c d s r => .list (k _ _ e ⟨.inl c, _, _, s⟩) c d s (RpL.monoD k r)
  | _, _, .tuple e c d s r => .tuple (k _ _ e ⟨.inr c, _, _, s⟩) c d s (RpL.monoD k r)
theorem RpL.monoD {h h' : Heap} (k : LeD h h') : ∀ {vs : List Value} {ds : List PyData}, RpL h vs ds → RpL h' vs ds
  | _, _, .nil => .nil
  | _, _, .cons x r => .cons (Rp.monoD k x) (RpL.monoD k r)
end
theorem leD_but {h h' : Heap} {W : List Addr} {a : Addr} (k : ∀ b o, b ≠ a → h.get? b = some o → h'.get? b = some o) (na : ∀ o, h.get? a = some o → ¬ isD o) : LeD (hideAll h W) (hideAll h' W) := fun b o e c => by
  obtain ⟨e1, e2⟩ := hide_get e
  refine hideAll_get W (k b o (fun q => ?_) e1) e2
  exact na o (q ▸ e1) c
/-- an object outside the frame that holds no data has changed -/
theorem Frm.iter {hb h h' : Heap} {env : Env} {W : List Addr} {M : Mus} {ρ : Ro} {a : Addr} (F : Frm hb env W M h ρ) (ha : a ∉ W) (hn : hb.get? a = none)
    (na : ∀ o, h.get? a = some o → ¬ isD o)
    (k : ∀ b o, b ≠ a → h.get? b = some o → h'.get? b = some o) : Frm hb env W M h' ρ := by
  have view : LeD (hideAll h W) (hideAll h' W) := leD_but k na
  have ne : ∀ b, b ∈ W → b ≠ a := fun b hb q => ha (q ▸ hb)
  refine ⟨F.fn, F.gl, F.bl, fun b o eo => k b o (fun q => ?_) (F.keep b o eo), ?_, fun x c ec => ?_, fun x l ds hx => ?_, F.lw, F.cw, F.lb, F.has, fun b hb => let ⟨o, e⟩ := F.th b hb; ⟨o, k b o (ne b hb) e⟩⟩
  · rw [q, hn] at eo; cases eo
  · obtain ⟨m, x, y, z⟩ := F.ns
    exact ⟨m, (by obtain ⟨o, es, ep, eo, r⟩ := x; exact ⟨o, es, ep, k _ _ (ne _ F.lw) eo, r⟩), fun x d hx hr => let ⟨v, e, r⟩ := y x d hx hr; ⟨v, e, r.monoD view⟩, z⟩
  · obtain ⟨vo, ⟨o, eo, r⟩, y⟩ := F.cl x c ec
    exact ⟨vo, ⟨o, k _ _ (ne _ (F.cw x c ec).1) eo, r⟩, fun d hr => let ⟨v, e, r⟩ := y d hr; ⟨v, e, r.monoD view⟩⟩
  · obtain ⟨p, q, r, t, u, vs, n, eo, rr⟩ := F.mu x l ds hx
    exact ⟨p, q, r, t, u, vs, n, k _ _ (ne _ q) eo, rr.monoD view⟩

section
variable {prog : Program} {w : World} {A : Around} {W : List Addr} {M : Mus} {hb h : Heap} {ρ : Ro} {env : Env} {K : Frag} {D U : Nat} {scope : Scope}

/-! ## storing a name -/
theorem st_store {x : Str} {v : Value} {d : PyData} {s : Shared} {Q : Unit → Shared → Prop} {E : Value → Shared → Prop} (F : Frm hb env W M s.heap ρ) (hx : env.kindOf x = some .local ∨ env.kindOf x = some .cell) (hM : ∀ p ∈ M, p.1 ≠ x)
    (r : Rp (hideAll s.heap W) v d)
    (k : ∀ h' tk, Frm hb env W M h' (upd ρ x d) → (∀ b o, b ≠ env.locals → (env.kindOf x = some .cell → env.cells.lookup x ≠ some b) → s.heap.get? b = some o → h'.get? b = some o) → Q () { s with heap := h', toks := tk }) :
    wpAny (model prog w) A (storeName env x v) Q E s := by
  rcases hx with hx | hx
  · obtain ⟨m, hn, _⟩ := F.ns
    refine wpAny_storeName_local hx hn (fun h' hn' sb => k h' _ (F.setL hM sb hn hn' r hx) fun b o hb _ e => (sb.2 b hb).trans e) (by rw [F.fn]; rfl)
  · obtain ⟨c, hc⟩ := Option.isSome_iff_exists.mp (F.has x (.inl hx))
    obtain ⟨vo, a, _⟩ := F.cl x c hc
    refine wpAny_storeName_cell F.fn hx hc a fun h' hv sb => k h' _ (F.setC hc sb hv r) fun b o _ hb e => (sb.2 b fun q => hb hx (q ▸ hc)).trans e

theorem asg_loc {x : Str} {px : Pos} {d : PyData} (hx : env.kindOf x = some .local) : Asg prog w A scope [x] env (.Name x px) d ρ (upd ρ x d) := fun hb W M s v Q E F hM r k =>
  wpAny_assign_Name (st_store F (.inl hx) (fun p hp q => hM p hp (q ▸ List.mem_singleton.mpr rfl)) r fun h' tk F' kk => k h' tk F' fun b o hb _ e => kk b o hb (fun q => by rw [hx] at q; cases q) e)
theorem asg_cell {x : Str} {px : Pos} {d : PyData} (hx : env.kindOf x = some .cell) (hm : (x, NameKind.cell) ∈ scope.names) : Asg prog w A scope [x] env (.Name x px) d ρ (upd ρ x d) := fun hb W M s v Q E F hM r k =>
  wpAny_assign_Name (st_store F (.inr hx) (fun p hp q => hM p hp (q ▸ List.mem_singleton.mpr rfl)) r fun h' tk F' kk => k h' tk F' fun b o hb hc e => kk b o hb (fun _ => hc x hm) e)

theorem view_store {x : Str} {h' : Heap} (F : Frm hb env W M h ρ) (k : ∀ b o, b ≠ env.locals → (env.kindOf x = some .cell → env.cells.lookup x ≠ some b) → h.get? b = some o → h'.get? b = some o) : Le (hideAll h W) (hideAll h' W) :=
  hide_mono (fun _ x => x) fun b o hb e => k b o (fun q => hb (q ▸ F.lw)) (fun _ q => hb (F.cw x b q).1) e

/-- names in a row -/
noncomputable def rowUpd (ρ : Ro) : List (Str × Pos) → List PyData → Ro
  | x :: xs, d :: ds => rowUpd (upd ρ x.1 d) xs ds
  | _, _ => ρ
theorem asg_in : ∀ (xs : List (Str × Pos)) {ds : List PyData} {vs : List Value} {hb : Heap} {W : List Addr} {M : Mus} {ρ : Ro} {s : Shared} {Q : Unit → Shared → Prop} {E : Value → Shared → Prop},
    (∀ x ∈ xs, env.kindOf x.1 = some .local ∨ (env.kindOf x.1 = some .cell ∧ (x.1, NameKind.cell) ∈ scope.names)) → xs.length = ds.length → Frm hb env W M s.heap ρ → (∀ p ∈ M, p.1 ∉ xs.map (·.1)) → RpL (hideAll s.heap W) vs ds →
    (∀ h' tk, Frm hb env W M h' (rowUpd ρ xs ds) → (∀ b o, b ≠ env.locals → (∀ x, (x, NameKind.cell) ∈ scope.names → env.cells.lookup x ≠ some b) → s.heap.get? b = some o → h'.get? b = some o) → Q () { s with heap := h', toks := tk }) →
    wpAny (model prog w) A (assignInOrder (xs.map fun p => assign (.Name p.1 p.2) env) vs) Q E s
  | [], [], _, _, _, _, _, s, _, _, _, _, F, _, r, k => by
    cases r
    exact wpAny_pure (k s.heap s.toks F fun _ _ _ _ e => e)
  | x :: xs, d :: ds, _, hb, W, M, ρ, s, Q, E, hk, hl, F, hM, r, k => by
    cases r with
    | cons rv rr =>
      refine wpAny_assignInOrder_more (wpAny_assign_Name (st_store F (by rcases hk x (.head _) with h | h; exact .inl h; exact .inr h.1) (fun p hp q => hM p hp (q ▸ List.mem_cons_self ..)) rv fun h' tk F' kk => ?_))
      have view := view_store F kk
      refine asg_in xs (fun y hy => hk y (.tail _ hy)) (Nat.succ.inj hl) F' (fun p hp q => hM p hp (List.mem_cons_of_mem _ q)) (rr.mono view) fun h'' tk' F'' kk' => k h'' tk' F'' fun b o hb hc e => kk' b o hb hc (kk b o hb (fun q => ?_) e)
      rcases hk x (.head _) with h | h
      · rw [h] at q; cases q
      · exact hc x.1 h.2
  | [], d :: ds, _, _, _, _, _, _, _, _, _, hl, _, _, _, _ => by simp at hl
  | x :: xs, [], _, _, _, _, _, _, _, _, _, hl, _, _, _, _ => by simp at hl

theorem assignEach_names : ∀ (xs : List (Str × Pos)), assignEach (xs.map fun p => Expr.Name p.1 p.2) env = xs.map fun p => (false, assign (.Name p.1 p.2) env)
  | [] => rfl
  | x :: xs => by
    rw [List.map_cons, List.map_cons, ← assignEach_names xs]
    rfl
theorem asg_tup (xs : List (Str × Pos)) {elts : List Expr} {kk : Nat} {pos : Pos} {ds : List PyData} (hh : A.handled = none) (he : elts = xs.map fun p => Expr.Name p.1 p.2)
    (hk : ∀ x ∈ xs, env.kindOf x.1 = some .local ∨ (env.kindOf x.1 = some .cell ∧ (x.1, NameKind.cell) ∈ scope.names)) (hl : xs.length = ds.length) : Asg prog w A scope (xs.map (·.1)) env (.Tuple elts kk pos) (.tuple ds) ρ (rowUpd ρ xs ds) := fun hb W M s v Q E F hM r k => by
  subst he
  cases r with
  | tuple e c dd sq rr =>
    rename_i a o vs n
    have hsz : vs.size = ds.length := by rw [← rr.length, Array.length_toList]
    refine wpAny_assign_Tuple hh (items := vs) ⟨o, (hide_get e).1, c, n, sq⟩ (by rw [assignEach_names, List.length_map, hl, hsz]) ?_ fun h' x => ?_
    · rw [assignEach_names, List.findIdx?_eq_none_iff]
      intro p hp
      obtain ⟨q, _, rfl⟩ := List.mem_map.mp hp
      rfl
    · have up : Le s.heap h' := fun b o e => x b o (Nat.ne_of_lt (Heap.lt_size e)) e
      rw [assignEach_names, List.map_map]
      exact asg_in xs hk hl (F.grow up) hM (rr.mono (hide_le_of up)) fun h'' tk F' kk' => k h'' tk F' fun b o hb hc e => kk' b o hb hc (up b o e)

/-! ## comprehensions as values and as what is assigned -/
theorem ev_comp {nm : List Str} {elt target iter : Expr} {ifs : List Expr} {pos : Pos} {ds : List PyData} (tgt : PyData → Ro) (f : PyData → Option PyData)
    (F : Frm hb env W M h ρ) (src : Src prog w A W h target (eval iter env) ds)
    (asg : ∀ C cs d, d ∈ ds → Asg prog w A scope nm (cenvOf env scope C cs) target d (seen scope ρ) (tgt d))
    (turn : ∀ C cs d W' h', d ∈ ds → Frm hb (cenvOf env scope C cs) W' [] h' (tgt d) →
      EvT prog w A h' ifs (cenvOf env scope C cs) (f d).isSome ∧ ∀ y, f d = some y → Ev prog w A W' h' (eval elt (cenvOf env scope C cs)) y)
    (hsub : ∀ d x y, seen scope ρ x = some y → tgt d x = some y) (hz : ds.length ≤ 1000000)
    (hnd : (scope.names.map (·.1)).Nodup) (hkind : scope.kind = .function)
    (hfree : (scope.names.all fun x => x.2 != .free || env.kindOf x.1 == some .cell || env.kindOf x.1 == some .free) = true)
    (hs : ∀ x, foldedSetIterable iter env x = pure x := by intro _; kernel_rfl) :
    Ev prog w A W h (eval (.ListComp elt [⟨target, iter, ifs, 0⟩] scope pos) env) (.list (ds.filterMap f)) := fun s Q E hs₀ hQ => by
  rw [eval_ListComp]
  refine comp_core F hs₀ hz hnd hkind hfree hsub src asg turn (fun D C m s' g hC hD hCD hn k => ?_) hs
  refine ⟨m, hn, fun h' sb => ?_⟩
  obtain ⟨r, le⟩ := k h' sb
  exact hQ _ _ ⟨le, g.os, g.gens⟩ r

theorem st_comp {nm : List Str} {elt target iter : Expr} {ifs : List Expr} {pos : Pos} {ds : List PyData} (tgt : PyData → Ro) (f : PyData → Option PyData) {y : Str} {py spos : Pos} {s : Shared} {rest : List Stmt} {Q : Flow → Shared → Prop} {E : Value → Shared → Prop}
    (F : Frm hb env W M s.heap ρ) (hy : env.kindOf y = some .local ∨ env.kindOf y = some .cell) (hM : ∀ p ∈ M, p.1 ≠ y) (src : Src prog w A W s.heap target (eval iter env) ds)
    (asg : ∀ C cs d, d ∈ ds → Asg prog w A scope nm (cenvOf env scope C cs) target d (seen scope ρ) (tgt d))
    (turn : ∀ C cs d W' h', d ∈ ds → Frm hb (cenvOf env scope C cs) W' [] h' (tgt d) →
      EvT prog w A h' ifs (cenvOf env scope C cs) (f d).isSome ∧ ∀ y, f d = some y → Ev prog w A W' h' (eval elt (cenvOf env scope C cs)) y)
    (hsub : ∀ d x y, seen scope ρ x = some y → tgt d x = some y) (hz : ds.length ≤ 1000000)
    (k : ∀ s', Adv W s s' → Frm hb env W M s'.heap (upd ρ y (.list (ds.filterMap f))) → wpAny (model prog w) A (execs rest env) Q E s')
    (hnd : (scope.names.map (·.1)).Nodup) (hkind : scope.kind = .function)
    (hfree : (scope.names.all fun x => x.2 != .free || env.kindOf x.1 == some .cell || env.kindOf x.1 == some .free) = true)
    (hsw : swapsWith (.ListComp elt [⟨target, iter, ifs, 0⟩] scope pos) (some (.Name y py)) spos.line env = pure true)
    (hs : ∀ x, foldedSetIterable iter env x = pure x := by intro _; kernel_rfl) :
    wpAny (model prog w) A (execs (.Assign [.Name y py] (.ListComp elt [⟨target, iter, ifs, 0⟩] scope pos) spos :: rest) env) Q E s := by
  refine wpAny_execs_cons ?_
  rw [exec_Assign_Name_used _ _ _ _ hsw]
  refine wpAny_bind (wpAny_standAt (wpAny_bind ?_))
  show wpAny _ A (do let _ ← comprehension (.ListComp elt [⟨target, iter, ifs, 0⟩] scope pos) scope env _ (newList []) false (eval iter env) (some (assign (.Name y py) env))) _ _ s
  refine wpAny_bind (comp_core F le_rfl hz hnd hkind hfree hsub src asg turn (fun D C m s' g hC hD hCD hn kk => ?_) hs)
  have F' : Frm hb env W M s'.heap ρ := F.grow g.heap
  obtain ⟨r, _⟩ := kk s'.heap ⟨rfl, fun _ _ => rfl⟩
  refine wpAny_assign_Name (st_store F' hy hM r fun h' tk F'' k' => ?_)
  have hCl : C ≠ env.locals := fun q => by
    obtain ⟨o, e⟩ := F.th _ F.lw
    rw [← q, hC] at e; cases e
  have hCc : ∀ x, env.cells.lookup x ≠ some C := fun x q => by
    obtain ⟨vo, ⟨o, e, _⟩, _⟩ := F.cl x C q
    rw [hC] at e; cases e
  refine ⟨m, ?_, fun h'' sb => ?_⟩
  · obtain ⟨o, es, ep, e, rr⟩ := hn
    exact ⟨o, es, ep, k' C o hCl (fun _ => hCc y) e, rr⟩
  · have CW : C ∉ W := fun q => by obtain ⟨o, e⟩ := F.th _ q; rw [hC] at e; cases e
    have nC : ∀ b o, s.heap.get? b = some o → b ≠ C := fun b o e q => by rw [q, hC] at e; cases e
    have hbC : hb.get? C = none := by
      cases q : hb.get? C with
      | none => rfl
      | some o => rw [F.keep C o q] at hC; cases hC
    obtain ⟨oC, _, _, eC, cC, _⟩ := id hn
    have F3 : Frm hb env W M h'' (upd ρ y (.list (ds.filterMap f))) := by
      refine F''.iter CW hbC (fun o e => ?_) fun b o hb e => (sb.2 b hb).trans e
      have e' : h'.get? C = some oC := k' C oC hCl (fun _ => hCc y) eC
      rw [e'] at e; cases e
      rintro ⟨_, vs, n, q⟩
      rw [cC] at q; cases q
    refine wpAny_pure (wpAny_pure (k { s' with heap := h'', toks := tk } ⟨hide_mono (fun _ x => x) fun b o hb e => ?_, g.os, g.gens⟩ F3))
    exact (sb.2 b (nC b o e)).trans (k' b o (fun q => hb (q ▸ F.lw)) (fun _ q => hb (F.cw y b q).1) (g.heap b o e))
end
end Mine
end

section
open PySem PySem.W PySem.Calls PySem.Spec PyProof.Rows PyProof.Rows.LCg
set_option Elab.async false
set_option maxRecDepth 100000
set_option linter.unusedVariables false
namespace Mine

/-! ## parameters -/
noncomputable def bindR : List Str → List PyData → Ro → Ro
  | x :: xs, d :: ds, ρ => bindR xs ds (upd ρ x d)
  | _, _, ρ => ρ

theorem bindL_rp {g : Heap} {kd : Str → Option NameKind} : ∀ (xs : List Str) {vs : List Value} {ds : List PyData} {m : Str → Option Value} {ρ : Ro}, RpL g vs ds →
    (∀ x d, kd x = some .local → ρ x = some d → ∃ v, m x = some v ∧ Rp g v d) → ∀ x d, kd x = some .local → bindR xs ds ρ x = some d → ∃ v, bindL kd (xs.zip vs) m x = some v ∧ Rp g v d
  | [], vs, ds, m, ρ, r, h => by
    have e : bindR [] ds ρ = ρ := by cases ds <;> rfl
    rw [e]; exact h
  | y :: xs, vs, ds, m, ρ, r, h => by
    cases r with
    | nil => exact h
    | cons a r =>
      rename_i v vs d ds
      refine bindL_rp xs (ds := ds) (ρ := upd ρ y d) r fun x d' hx hr => ?_
      by_cases q : x = y
      · subst q
        rw [if_pos hx]
        simp only [upd, if_true, Option.some.injEq] at hr ⊢
        subst hr
        exact ⟨v, rfl, a⟩
      · simp only [upd, q, if_false] at hr
        obtain ⟨v', e, r'⟩ := h x d' hx hr
        refine ⟨v', ?_, r'⟩
        split
        · simp only [q, if_false]; exact e
        · exact e
theorem bindC_rp {g : Heap} {kd : Str → Option NameKind} : ∀ (xs : List Str) {vs : List Value} {ds : List PyData} {m : Str → Option Value} {ρ : Ro}, RpL g vs ds →
    (∀ x d, kd x ≠ some .local → ρ x = some d → ∃ v, m x = some v ∧ Rp g v d) → ∀ x d, kd x ≠ some .local → bindR xs ds ρ x = some d → ∃ v, bindC kd (xs.zip vs) m x = some v ∧ Rp g v d
  | [], vs, ds, m, ρ, r, h => by
    have e : bindR [] ds ρ = ρ := by cases ds <;> rfl
    rw [e]; exact h
  | y :: xs, vs, ds, m, ρ, r, h => by
    cases r with
    | nil => exact h
    | cons a r =>
      rename_i v vs d ds
      refine bindC_rp xs (ds := ds) (ρ := upd ρ y d) r fun x d' hx hr => ?_
      by_cases q : x = y
      · subst q
        rw [if_neg hx]
        simp only [upd, if_true, Option.some.injEq] at hr ⊢
        subst hr
        exact ⟨v, rfl, a⟩
      · simp only [upd, q, if_false] at hr
        obtain ⟨v', e, r'⟩ := h x d' hx hr
        refine ⟨v', ?_, r'⟩
        split
        · exact e
        · simp only [q, if_false]; exact e

section
variable {prog : Program} {w : World} {A : Around} {W : List Addr} {M : Mus} {hb h : Heap} {ρ : Ro} {env : Env} {K : Frag} {D U : Nat} {scope : Scope}
  {name qual : Str} {params : Arguments} {body : List Stmt} {dV kV doc pm cdv ct oc : Value} {an od : Option Addr} {osl : Array (Option Value)} {f : Addr}

/-- a def is a pure function, by a walk of its body -/
theorem ps_def (xs : List Str) {ds : List PyData} {d : PyData}
    (ho : K.lookup f = some ⟨oc, od, .func (fnX name qual params body scope [] dV kV doc pm an cdv ct), osl⟩) (hcd : codeIn K cdv qual = true)
    (hbind : ∀ s (vs : List Value), vs.length = xs.length → BindsTo s (fnX name qual params body scope [] dV kV doc pm an cdv ct) ⟨vs, []⟩ (xs.zip vs))
    (hlen : xs.length = ds.length)
    (hkind : (xs.all fun y => scope.names.lookup y == some .local || scope.names.lookup y == some .cell) = true)
    (hfree : (scope.names.all fun x => x.2 != .free) = true)
    (hnd : ((cellsFrom 0 scope.names []).map (·.1)).Nodup) (hnn : (scope.names.map (·.1)).Nodup)
    (h : ∀ (A : Around) (L : Addr) (W : List Addr) (hb : Heap) (s : Shared) (Q : Flow → Shared → Prop) (E : Value → Shared → Prop), Cx K A D U hb →
      Frm hb (envOfC qual scope L f cdv) W [] s.heap (bindR xs ds fun _ => none) →
      (∀ v s', Adv W s s' → Le hb s'.heap → Rp (hideAll s'.heap W) v d → Q (.ret v) s') → wpAny (model prog w) A (execs body (envOfC qual scope L f cdv)) Q E s)
    (hco : scope.isCoroutine = false := by rfl) (hgen : scope.isGenerator = false := by rfl) (hk : scope.kind = .function := by rfl) : PS prog w K (D + 1) (U + 3) f ds d := by
  intro A W s vs Q E C hth r hQ
  have hvl : vs.length = xs.length := by rw [r.length, hlen]
  refine wpAny_call ?_
  refine codeAny_call_function (by have := C.dp; (first | lia | omega)) (C.wl.X _ _ ho) rfl hco hgen rfl (codeRec_of C.wl.X hcd) (hbind _ _ hvl _ _ _ _ ?_)
  have hall : ((xs.zip vs).all fun y => scope.names.lookup y.1 == some .local || scope.names.lookup y.1 == some .cell) = true := by
    rw [List.all_eq_true] at hkind ⊢
    exact fun y hy => hkind y.1 (List.of_mem_zip hy).1
  refine wpAny_newFunctionEnv_cells hk (kindsX hall _) fun env' he s' x => ?_
  subst he
  refine ⟨C.wl.lim.keeps x.toInCall.keep, codeAny_func ?_⟩
  obtain ⟨h₁, tk, rfl, _⟩ := x.done
  have hk₁ : Le s.heap h₁ := x.toInCall.keep
  have hndL : ((cellsFrom (s.heap.objs.size + 1) scope.names []).map (·.1)).Nodup := cellsFrom_names scope.names 0 (s.heap.objs.size + 1) [] [] rfl ▸ hnd
  let cs := cellsFrom (s.heap.objs.size + 1) scope.names []
  have cellAt : ∀ n c, cs.lookup n = some c → h₁.IsCell c (bindC (envOfC qual scope s.heap.objs.size f cdv).kindOf (xs.zip vs) (fun _ => none) n) := x.cell
  have apart : cs.Pairwise fun x y => x.2 ≠ y.2 := x.apart
  have above : ∀ n c, (n, c) ∈ cs → s.heap.objs.size < c := x.above
  let W' : List Addr := s.heap.objs.size :: (cs.map (·.2) ++ W)
  have fresh : ∀ a, s.heap.objs.size ≤ a → s.heap.get? a = none := fun a ha => by
    cases e : s.heap.get? a with
    | none => rfl
    | some o => exact absurd (Heap.lt_size e) (Nat.not_lt.mpr ha)
  have hW' : ∀ a ∈ W', a ∈ W ∨ s.heap.get? a = none := fun a hm => by
    rcases List.mem_cons.mp hm with rfl | hm
    · exact .inr (fresh _ (Nat.le_refl _))
    · rcases List.mem_append.mp hm with hm | hm
      · obtain ⟨⟨x, c⟩, hp, rfl⟩ := List.mem_map.mp hm
        exact .inr (fresh _ (Nat.le_of_lt (above x c hp)))
      · exact .inl hm
  have view : Le (hideAll s.heap W) (hideAll h₁ W') := hide_new hW' fun b o _ e => hk₁ b o e
  have r₁ : RpL (hideAll h₁ W') vs ds := r.mono view
  have kinds : ∀ x, (envOfC qual scope s.heap.objs.size f cdv).kindOf x = scope.names.lookup x := fun x => rfl
  have hns : h₁.Ns s.heap.objs.size (bindL (envOfC qual scope s.heap.objs.size f cdv).kindOf (xs.zip vs) fun _ => none) := x.toInCall.ns
  have F : Frm s.heap (envOfC qual scope s.heap.objs.size f cdv) W' [] h₁ (bindR xs ds fun _ => none) := by
    refine ⟨hk, rfl, rfl, hk₁, ⟨_, hns, ?_, (fun _ _ _ hm => nomatch hm)⟩, fun x c e => ?_, (fun _ _ _ hm => nomatch hm), List.mem_cons_self .., fun x c e => ?_, fresh _ (Nat.le_refl _), fun x hx => ?_, fun a ha => ?_⟩
    · exact bindL_rp xs r₁ fun x d _ hr => by cases hr
    · refine ⟨_, cellAt x c e, fun d hr => ?_⟩
      refine bindC_rp xs r₁ (fun x d _ hr => by cases hr) x d ?_ hr
      rw [kinds, lookup_of_nodup hnn (cellsFrom_mem _ _ (mem_of_lookup e))]
      simp
    · have hm : (x, c) ∈ cs := mem_of_lookup e
      refine ⟨List.mem_cons_of_mem _ (List.mem_append_left _ (List.mem_map.mpr ⟨_, hm, rfl⟩)), Nat.ne_of_gt (above x c hm), fresh _ (Nat.le_of_lt (above x c hm)), fun y ey => name_of_addr apart (mem_of_lookup ey) hm, ?_⟩
      rw [kinds, lookup_of_nodup hnn (cellsFrom_mem _ _ hm)]
      simp
    · rw [kinds] at hx
      rcases hx with hx | hx
      · obtain ⟨c, hc⟩ := cellsFrom_has scope.names (s.heap.objs.size + 1) x (mem_of_lookup hx)
        show (cs.lookup x).isSome = true
        cases q : cs.lookup x with
        | some _ => rfl
        | none =>
          exfalso
          have : ∀ {l : List (Str × Addr)}, (x, c) ∈ l → l.lookup x = none → False := fun {l} hm hn => by
            induction l with
            | nil => cases hm
            | cons p r ih =>
              obtain ⟨n, a⟩ := p
              rw [List.lookup_cons] at hn
              cases hb' : x == n with
              | true => rw [hb'] at hn; cases hn
              | false =>
                rw [hb'] at hn
                rcases List.mem_cons.mp hm with e | hm
                · cases e; simp at hb'
                · exact ih hm hn
          exact this hc q
      · have := List.all_eq_true.mp hfree _ (mem_of_lookup hx)
        simp at this
    · rcases List.mem_cons.mp ha with rfl | ha
      · obtain ⟨o, _, _, e, _⟩ := hns; exact ⟨o, e⟩
      · rcases List.mem_append.mp ha with ha | ha
        · obtain ⟨⟨x, c⟩, hp, rfl⟩ := List.mem_map.mp ha
          obtain ⟨o, e, _⟩ := cellAt x c (lookup_of_mem_nodup hndL hp)
          exact ⟨o, e⟩
        · obtain ⟨o, e⟩ := hth a ha; exact ⟨o, hk₁ _ _ e⟩
  refine h (A.deeper _) _ W' s.heap _ _ _ ⟨C.wl, C.hh, ?_, ?_⟩ F fun v s' adv le rv => hQ v s' ⟨le, adv.os, adv.gens⟩ ?_
  · have := C.dp; show A.depth + 1 + D < recursionLimit; (first | lia | omega)
  · have := C.un; show A.units + 3 + U < cLine; (first | lia | omega)
  · exact rv.mono (hide_mono (fun a ha => List.mem_cons_of_mem _ (List.mem_append_right _ ha)) fun _ _ _ e => e)

/-! ## statements -/
theorem Frm.setOff (F : Frm hb env W M h ρ) (x : Str) : Frm hb env W M h (fun y => if y = x then none else ρ y) := F.weaken fun y d e => by
  by_cases q : y = x
  · simp [q] at e
  · simpa [q] using e

theorem st_ret {e : Expr} {pos : Pos} {d : PyData} {rest : List Stmt} {s : Shared} {Q : Flow → Shared → Prop} {E : Value → Shared → Prop} (F : Frm hb env W M s.heap ρ) (x : Ev prog w A W s.heap (eval e env) d)
    (k : ∀ v s', Adv W s s' → Le hb s'.heap → Rp (hideAll s'.heap W) v d → Q (.ret v) s') : wpAny (model prog w) A (execs (.Return (some e) pos :: rest) env) Q E s :=
  wpAny_execs_cons (wpAny_Return_some (x s _ _ le_rfl fun v s' g r => k v s' g.adv (F.keep.trans g.heap) r))

theorem st_asg {x : Str} {e : Expr} {px pos : Pos} {d : PyData} {rest : List Stmt} {s : Shared} {Q : Flow → Shared → Prop} {E : Value → Shared → Prop} (F : Frm hb env W M s.heap ρ) (v : Ev prog w A W s.heap (eval e env) d)
    (hx : env.kindOf x = some .local ∨ env.kindOf x = some .cell) (hM : ∀ p ∈ M, p.1 ≠ x)
    (k : ∀ s', Adv W s s' → Frm hb env W M s'.heap (upd ρ x d) → wpAny (model prog w) A (execs rest env) Q E s')
    (hs : swapsWith e (some (.Name x px)) pos.line env = pure false := by kernel_rfl) : wpAny (model prog w) A (execs (.Assign [.Name x px] e pos :: rest) env) Q E s := by
  refine wpAny_execs_cons (wpAny_Assign_Name (v s _ _ le_rfl fun v s₁ g r => ?_) hs)
  have F₁ := F.grow g.heap
  refine st_store F₁ hx hM r fun h' tk F' kk => k _ ?_ F'
  exact g.adv.trans ⟨view_store F₁ kk, rfl, id⟩

/-- a += b and its kin, upon names that hold no changing object -/
theorem st_aug {x : Str} {e : Expr} {px pos : Pos} {op : Operator} {a b d : PyData} {rest : List Stmt} {s : Shared} {Q : Flow → Shared → Prop} {E : Value → Shared → Prop} (F : Frm hb env W M s.heap ρ)
    (hx : env.kindOf x = some .local ∨ env.kindOf x = some .cell) (hr : ρ x = some a) (v : Ev prog w A W s.heap (eval e env) b)
    (o : Op2 prog w A W s.heap (inplaceOp op) a b d)
    (hM : ∀ p ∈ M, p.1 ≠ x)
    (k : ∀ s', Adv W s s' → Frm hb env W M s'.heap (upd ρ x d) → wpAny (model prog w) A (execs rest env) Q E s')
    (hn : (x == ("__classdict__" : Str)) = false := by kernel_rfl) : wpAny (model prog w) A (execs (.AugAssign (.Name x px) op e pos :: rest) env) Q E s := by
  have load : ∀ Q' : Value → Shared → Prop, (∀ u, Rp (hideAll s.heap W) u a → Q' u s) → wpAny (model prog w) A (loadName env x) Q' E s := fun Q' hQ => by
    rcases hx with hx | hx
    · obtain ⟨m, p, q, _⟩ := F.ns
      obtain ⟨u, e, r⟩ := q x a hx hr
      exact wpAny_loadName_local F.fn hx p e (hQ u r)
    · obtain ⟨c, hc⟩ := Option.isSome_iff_exists.mp (F.has x (.inl hx))
      obtain ⟨vo, p, q⟩ := F.cl x c hc
      obtain ⟨u, rfl, r⟩ := q a hr
      exact wpAny_loadName_cell F.fn hx hc p (hQ u r)
  refine wpAny_execs_cons (wpAny_AugAssign_Name (load _ fun u ru => v s _ _ le_rfl fun v s₁ g r => o s₁ u v _ _ g.heap (ru.mono (hide_le_of g.heap)) r fun y s₂ g₂ ry => ?_))
  have F₂ := F.grow (g.heap.trans g₂.heap)
  refine st_store F₂ hx hM ry fun h' tk F' kk => k _ ?_ F'
  exact (g.adv.trans g₂.adv).trans ⟨view_store F₂ kk, rfl, id⟩

theorem st_if {t : Expr} {b o rest : List Stmt} {pos : Pos} {c : Bool} {s : Shared} {Q : Flow → Shared → Prop} {E : Value → Shared → Prop} (F : Frm hb env W M s.heap ρ) (x : EvB prog w A s.heap (isTrue t env (eval t env)) c)
    (y : c = true → ∀ s', Grow s s' → Frm hb env W M s'.heap ρ → wpAny (model prog w) A (execs b env) (fun f s'' => match f with | .next => wpAny (model prog w) A (execs rest env) Q E s'' | f => Q f s'') E s')
    (z : c = false → ∀ s', Grow s s' → Frm hb env W M s'.heap ρ → wpAny (model prog w) A (execs o env) (fun f s'' => match f with | .next => wpAny (model prog w) A (execs rest env) Q E s'' | f => Q f s'') E s') :
    wpAny (model prog w) A (execs (.If t b o pos :: rest) env) Q E s := by
  refine wpAny_execs_cons (wpAny_If (x s _ _ le_rfl fun s' g => ?_))
  cases c with
  | true => exact y rfl s' g (F.grow g.heap)
  | false => exact z rfl s' g (F.grow g.heap)

theorem st_nil {s : Shared} {Q : Flow → Shared → Prop} {E : Value → Shared → Prop} (k : Q .next s) : wpAny (model prog w) A (execs [] env) Q E s := wpAny_execs_nil k
end
end Mine
end

section
open PySem PySem.W PySem.Calls PySem.Spec PyProof.Rows PyProof.Rows.LCg
set_option Elab.async false
set_option maxRecDepth 100000
set_option linter.unusedVariables false
namespace Mine

section
variable {prog : Program} {w : World} {A : Around} {W : List Addr} {M : Mus} {hb h : Heap} {ρ : Ro} {env : Env} {K : Frag} {D U : Nat}

/-! ## items -/
theorem Ev.sub {value slice : Expr} {pos : Pos} {a b d : PyData} (x : Ev prog w A W h (eval value env) a) (y : Ev prog w A W h (eval slice env) b)
    (o : Op2 prog w A W h (subscriptTail value slice) a b d) : Ev prog w A W h (eval (.Subscript value slice pos) env) d := fun s Q E hs hQ =>
  Subscript_ (x s _ _ hs fun u s₁ g₁ r₁ => y s₁ _ _ (hs.trans g₁.heap) fun v s₂ g₂ r₂ => o s₂ u v Q E (hs.trans (g₁.trans g₂).heap) (r₁.mono (hide_le_of g₂.heap)) r₂ fun v s₃ g₃ r₃ => hQ v s₃ (g₁.trans (g₂.trans g₃)) r₃)

theorem item_list {value slice : Expr} {ds : List PyData} {i : Nat} {d : PyData} (hi : ds[i]? = some d) (hz : ds.length ≤ 1000000)
    (hs : ∀ (a : Addr) (t : Tok), subscripted slice false (.ref a) (.int i t) = operate [.ref a, .int i t] (getItem (.ref a) (.int i t)) := by intro _ _; kernel_rfl) :
    Op2 prog w A W h (subscriptTail value slice) (.list ds) (.int i) d := fun s u v Q E hs₀ x y hQ => by
  cases y
  cases x with
  | list e c dd sq rr =>
    rename_i t a o vs n
    obtain ⟨v, hv, r⟩ := rr.get hi
    have hlt : i < ds.length := by
      rcases Nat.lt_or_ge i ds.length with q | q
      · exact q
      · rw [List.getElem?_eq_none q] at hi; cases hi
    have hl : s.heap.IsList a vs := ⟨o, (hide_get e).1, c, n, sq⟩
    exact tail_any hl.typeIs slot_list_getitem.lookup (wpAny_getItem_list hl (by (first | lia | omega)) (by (first | lia | omega)) (by simpa using hv) (hQ v s .rfl r)) (hs a _)
theorem item_tuple {value slice : Expr} {ds : List PyData} {i : Nat} {d : PyData} (hi : ds[i]? = some d) (hz : ds.length ≤ 1000000)
    (hs : ∀ (a : Addr) (t : Tok), subscripted slice false (.ref a) (.int i t) = operate [.ref a, .int i t] (getItem (.ref a) (.int i t)) := by intro _ _; kernel_rfl) :
    Op2 prog w A W h (subscriptTail value slice) (.tuple ds) (.int i) d := fun s u v Q E hs₀ x y hQ => by
  cases y
  cases x with
  | tuple e c dd sq rr =>
    rename_i t a o vs n
    obtain ⟨v, hv, r⟩ := rr.get hi
    have hlt : i < ds.length := by
      rcases Nat.lt_or_ge i ds.length with q | q
      · exact q
      · rw [List.getElem?_eq_none q] at hi; cases hi
    have hl : IsTup s.heap a vs := ⟨o, (hide_get e).1, c, n, sq⟩
    have hsz : vs.size = ds.length := by rw [← rr.length, Array.length_toList]
    refine tail_any hl.typeIs slot_tuple_getitem.lookup (getItem_tuple hl (by (first | lia | omega)) (by (first | lia | omega)) (j := i) ?_ (by simpa using hv) (hQ v s .rfl r)) (hs a _)
    unfold seqIndex?
    have : ¬ ((i : Int) < 0) := by (first | lia | omega)
    have h2 : (i : Int) < (vs.size : Int) := by (first | lia | omega)
    simp [this, hsz, hlt]
theorem item_text {value slice : Expr} {x : Str} {i : Nat} {y : Str} (hi : i < x.length) (hy : Txt.item x i = y) (hz : x.length ≤ 1000000)
    (hs : ∀ (t u : Tok), subscripted slice false (.str x t) (.int i u) = operate [.str x t, .int i u] (getItem (.str x t) (.int i u)) := by intro _ _; kernel_rfl)
    (ht : ∀ t r, letTemporaryGo value (.str x t) r = pure () := by intro _ _; kernel_rfl) :
    Op2 prog w A W h (subscriptTail value slice) (.str x) (.int i) (.str y) := fun s u v Q E hs₀ a b hQ => by
  subst hy
  cases a; cases b
  rename_i t u
  exact item_str (by unfold fitsSsize; simp; (first | lia | omega)) (by (first | lia | omega)) (by (first | lia | omega)) (fun _ => hQ _ _ (Grow.tok s _) (.str ..)) (hs t u) (ht t)

/-! ## slices of lists -/
theorem pick_walk {α : Type} (l : List α) (a : Nat) : ∀ c : Nat, ((List.range c).map fun (k : Nat) => a + k).filterMap (fun i => l[i]?) = (l.drop a).take c
  | 0 => by simp
  | c + 1 => by
    rw [List.range_succ, List.map_append, List.filterMap_append, pick_walk l a c, List.take_add_one, List.getElem?_drop]
    simp only [List.map_cons, List.map_nil]
    cases q : l[a + c]? <;> simp [List.filterMap_cons, q]
theorem pick_gen (vs : Array Value) {lo hi : Option Int} {a b : Nat} (e : sliceBounds lo hi none vs.size = ((a : Int), (b : Int), 1)) : slicePick vs lo hi none = ((vs.toList.drop a).take (b - a)).toArray := by
  unfold slicePick
  rw [e]
  unfold sliceRange
  dsimp only
  have h1 : ((if (1 : Int) > 0 then (if (a : Int) < b then ((b : Int) - a + 1 - 1) / 1 else 0) else (if (a : Int) > b then ((a : Int) - b - 1 - 1) / (-1) else 0)) : Int).toNat = b - a := by
    rw [if_pos (by decide)]
    split
    · rw [Int.ediv_one]; (first | lia | omega)
    · (first | lia | omega)
  rw [h1]
  have h2 : (fun (k : Nat) => ((a : Int) + 1 * (k : Int)).toNat) = fun (k : Nat) => a + k := by funext k; (first | lia | omega)
  rw [h2, ← pick_walk vs.toList a]
  congr 1
  congr 1
  funext i
  simp
theorem pick_between (vs : Array Value) (a b : Nat) : slicePick vs (some (a : Int)) (some (b : Int)) none = ((vs.toList.drop a).take (b - a)).toArray := by
  have e := pick_gen vs (lo := some (a : Int)) (hi := some (b : Int)) (a := min a vs.size) (b := min b vs.size) (by
    unfold sliceBounds
    have h1 : ¬ ((a : Int) < 0) := by (first | lia | omega)
    have h2 : ¬ ((b : Int) < 0) := by (first | lia | omega)
    simp [h1, h2]
    (first | lia | omega))
  rw [e]
  congr 1
  apply List.ext_getElem?
  intro i
  simp only [List.getElem?_take, List.getElem?_drop]
  have hz : vs.toList.length = vs.size := Array.length_toList
  by_cases ha : a ≤ vs.size
  · rw [Nat.min_eq_left ha]
    by_cases hb : b ≤ vs.size
    · rw [Nat.min_eq_left hb]
    · rw [Nat.min_eq_right (by (first | lia | omega))]
      split
      · rw [if_pos (by (first | lia | omega))]
      · split
        · rw [List.getElem?_eq_none (by (first | lia | omega))]
        · rfl
  · rw [Nat.min_eq_right (a := a) (by (first | lia | omega))]
    split
    · (first | lia | omega)
    · split
      · rw [List.getElem?_eq_none (by (first | lia | omega))]
      · rfl
theorem pick_upto (vs : Array Value) (b : Nat) : slicePick vs none (some (b : Int)) none = (vs.toList.take b).toArray := by
  rw [show slicePick vs none (some (b : Int)) none = slicePick vs (some ((0 : Nat) : Int)) (some (b : Int)) none from by
    unfold slicePick sliceBounds
    have h0 : max 0 (min (0 : Int) (vs.size : Int)) = 0 := by (first | lia | omega)
    simp [h0], pick_between]
  simp
theorem pick_from (vs : Array Value) (a : Nat) : slicePick vs (some (a : Int)) none none = (vs.toList.drop a).toArray := by
  rw [show slicePick vs (some (a : Int)) none none = slicePick vs (some (a : Int)) (some ((vs.size : Nat) : Int)) none from by
    unfold slicePick sliceBounds
    have h1 : ¬ ((vs.size : Int) < 0) := by (first | lia | omega)
    simp [h1], pick_between]
  congr 1
  rw [List.take_of_length_le]
  simp

/-- a bound of a slice -/
noncomputable def EvP (prog : Program) (w : World) (A : Around) (h₀ : Heap) (env : Env) (e : Option Expr) (b : Option Int) : Prop :=
  ∀ (s : Shared) (Q E : Value → Shared → Prop), Le h₀ s.heap → (∀ v s', Grow s s' → IsPart v b → Q v s') → wpAny (model prog w) A (evalPart e env) Q E s
theorem EvP.none : EvP prog w A h env none none := fun s Q E hs hQ => wpAny_pure (hQ _ _ .rfl .none)
theorem EvP.some {e : Expr} {i : Int} (x : Ev prog w A W h (eval e env) (.int i)) : EvP prog w A h env (some e) (some i) := fun s Q E hs hQ => x s Q E hs fun v s' g r => by
  cases r; exact hQ _ _ g (.int ..)
theorem ev_slice {value : Expr} {lower upper : Option Expr} {p pos : Pos} {ds es : List PyData} {lo hi : Option Int} (hW : There W h) (x : Ev prog w A W h (eval value env) (.list ds)) (yl : EvP prog w A h env lower lo) (yu : EvP prog w A h env upper hi)
    (hz : ds.length ≤ 1000000) (he : ∀ (vs : Array Value) (g : Heap), RpL g vs.toList ds → RpL g (slicePick vs lo hi none).toList es) :
    Ev prog w A W h (eval (.Subscript value (.Slice lower upper none p) pos) env) (.list es) := fun s Q E hs hQ => by
  refine Subscript_ (x s _ _ hs fun u s₁ g₁ r₁ => ?_)
  cases r₁ with
  | list e c dd sq rr =>
    rename_i a o vs n
    refine wpAny_Slice (yl s₁ _ _ (hs.trans g₁.heap) fun l s₂ g₂ pl => yu s₂ _ _ (hs.trans (g₁.trans g₂).heap) fun u s₃ g₃ pu => wpAny_pure ?_)
    have hsz : vs.size = ds.length := by rw [← rr.length, Array.length_toList]
    have hl : (s₃.heap.push { cls := .type "slice", data := .fields #[l, u, .none] }).IsList a vs := ⟨o, le_push _ _ _ _ (g₃.heap _ _ (g₂.heap _ _ (hide_get e).1)), c, n, sq⟩
    have hl' : ({ s₃ with heap := s₃.heap.push { cls := .type "slice", data := .fields #[l, u, .none] } } : Shared).heap.IsList a vs := hl
    refine tail_any hl'.typeIs slot_list_getitem.lookup (wpAny_getItem_list_slice hl' (Heap.IsSliceOf.new ..) pl pu .none (by simp) ?_ (by rw [hsz, sizeLine_eq]; (first | lia | omega))) (ops := [.ref s₃.heap.objs.size, .ref a]) (by with_unfolding_all rfl)
    have G : Grow s { s₃ with heap := (s₃.heap.push { cls := .type "slice", data := .fields #[l, u, .none] }).push { cls := .type "list", data := .seq (slicePick vs lo hi none) } } :=
      (g₁.trans (g₂.trans g₃)).trans ((Grow.push _ _).trans (Grow.push _ _))
    refine hQ _ _ G (.list (hide_push (W := W) (h := s₃.heap.push _) ((hW.mono hs).mono ((g₁.trans (g₂.trans g₃)).heap.trans (le_push _ _))) rfl) rfl rfl rfl ?_)
    exact he _ _ (rr.mono (hide_le_of ((g₂.heap.trans g₃.heap).trans ((le_push _ _).trans (le_push _ _)))))
theorem sl_upto {ds : List PyData} (b : Nat) (vs : Array Value) (g : Heap) (r : RpL g vs.toList ds) : RpL g (slicePick vs none (some (b : Int)) none).toList (ds.take b) := by rw [pick_upto]; exact r.take b
theorem sl_from {ds : List PyData} (a : Nat) (vs : Array Value) (g : Heap) (r : RpL g vs.toList ds) : RpL g (slicePick vs (some (a : Int)) none none).toList (ds.drop a) := by rw [pick_from]; exact r.drop a
theorem sl_between {ds : List PyData} (a b : Nat) (vs : Array Value) (g : Heap) (r : RpL g vs.toList ds) : RpL g (slicePick vs (some (a : Int)) (some (b : Int)) none).toList ((ds.drop a).take (b - a)) := by rw [pick_between]; exact (r.drop a).take _

/-! ## numbers, texts, in place -/
theorem op_mulS {x y : Str} {n : Int} (hok : MulOk x n) (hy : Txt.mul x n = y) : Op2 prog w A W h (binaryOp .Mult) (.str x) (.int n) (.str y) := fun s u v Q E hs a b hQ => by
  subst hy; obtain ⟨_, rfl⟩ := a.str_inv; obtain ⟨_, rfl⟩ := b.int_inv; exact SB.mul hok fun t' k => hQ _ _ (Grow.tok s _) (.str ..)
theorem op_iadd {a b : Int} : Op2 prog w A W h (inplaceOp .Add) (.int a) (.int b) (.int (a + b)) := fun s u v Q E hs x y hQ => by
  obtain ⟨_, rfl⟩ := x.int_inv; obtain ⟨_, rfl⟩ := y.int_inv; exact iadd_int (hQ _ _ (Grow.tok s _) (.int ..))
theorem op_isub {a b : Int} : Op2 prog w A W h (inplaceOp .Sub) (.int a) (.int b) (.int (a - b)) := fun s u v Q E hs x y hQ => by
  obtain ⟨_, rfl⟩ := x.int_inv; obtain ⟨_, rfl⟩ := y.int_inv; exact isub_int (hQ _ _ (Grow.tok s _) (.int ..))
theorem op_imul {a b : Int} (hm : IntMulOk a b) : Op2 prog w A W h (inplaceOp .Mult) (.int a) (.int b) (.int (a * b)) := fun s u v Q E hs x y hQ => by
  obtain ⟨_, rfl⟩ := x.int_inv; obtain ⟨_, rfl⟩ := y.int_inv; exact PyProof.Rows.imul_int (hQ _ _ (Grow.tok s _) (.int ..)) hm
theorem op_iand {a b : Int} : Op2 prog w A W h (inplaceOp .BitAnd) (.int a) (.int b) (.int (Builtin.bitAnd a b)) := fun s u v Q E hs x y hQ => by
  obtain ⟨_, rfl⟩ := x.int_inv; obtain ⟨_, rfl⟩ := y.int_inv; exact iand_int (hQ _ _ (Grow.tok s _) (.int ..))
theorem op_ior {a b : Int} : Op2 prog w A W h (inplaceOp .BitOr) (.int a) (.int b) (.int (Builtin.bitOr a b)) := fun s u v Q E hs x y hQ => by
  obtain ⟨_, rfl⟩ := x.int_inv; obtain ⟨_, rfl⟩ := y.int_inv; exact ior_int (hQ _ _ (Grow.tok s _) (.int ..))
theorem op_ishr {a n : Int} (hn : 0 ≤ n) : Op2 prog w A W h (inplaceOp .RShift) (.int a) (.int n) (.int (a.fdiv (2 ^ n.toNat))) := fun s u v Q E hs x y hQ => by
  obtain ⟨_, rfl⟩ := x.int_inv; obtain ⟨_, rfl⟩ := y.int_inv; exact irshift_int hn (hQ _ _ (Grow.tok s _) (.int ..))
theorem op_ishl {a n : Int} (hn : 0 ≤ n) (hn2 : n ≤ 1000000) (ha : a.natAbs < 2 ^ 64) : Op2 prog w A W h (inplaceOp .LShift) (.int a) (.int n) (.int (a * 2 ^ n.toNat)) := fun s u v Q E hs x y hQ => by
  obtain ⟨_, rfl⟩ := x.int_inv; obtain ⟨_, rfl⟩ := y.int_inv; exact ilshift_int_small hn hn2 ha (hQ _ _ (Grow.tok s _) (.int ..))
theorem op_inS {x y : Str} : Op2 prog w A W h (compareOp .In) (.str y) (.str x) (.bool (Txt.contains x y)) := fun s u v Q E hs a b hQ => by
  obtain ⟨_, rfl⟩ := a.str_inv; obtain ⟨_, rfl⟩ := b.str_inv; exact SB.contains (hQ _ _ .rfl (.bool ..))
theorem op_isB {a b : Bool} : Op2 prog w A W h (compareOp .Is) (.bool a) (.bool b) (.bool (a == b)) := fun s u v Q E hs x y hQ => by
  cases x; cases y
  refine wpAny_is_plain (by cases a <;> cases b <;> rfl) ?_
  have e : ((Value.bool a == Value.bool b) : Bool) = (a == b) := by cases a <;> cases b <;> decide
  rw [e]
  exact hQ _ _ .rfl (.bool ..)
theorem op_eqv {a b : PyData} (ha : a.canLay0 = true) (hb : b.canLay0 = true) (hd : min a.depth b.depth ≤ 10) (hu : A.units + 20 < cLine) : Op2 prog w A W h (compareOp .Eq) a b (.bool (PyData.eqv a b)) := fun s u v Q E hs x y hQ => by
  obtain ⟨as, ra⟩ := (x.mono (hide_le W s.heap)).reads ha
  obtain ⟨bs, rb⟩ := (y.mono (hide_le W s.heap)).reads hb
  exact SeqAt.compareEq_reads ra rb ha hb (by (first | lia | omega)) (hQ _ _ .rfl (.bool ..))
theorem op_nev {a b : PyData} (ha : a.canLay0 = true) (hb : b.canLay0 = true) (hd : min a.depth b.depth ≤ 10) (hu : A.units + 20 < cLine) : Op2 prog w A W h (compareOp .NotEq) a b (.bool (!PyData.eqv a b)) := fun s u v Q E hs x y hQ => by
  obtain ⟨as, ra⟩ := (x.mono (hide_le W s.heap)).reads ha
  obtain ⟨bs, rb⟩ := (y.mono (hide_le W s.heap)).reads hb
  exact SeqAt.compareNe_reads ra rb ha hb (by (first | lia | omega)) (hQ _ _ .rfl (.bool ..))

/-! ## tests -/
theorem EvB.not {t : Expr} {pos : Pos} {c : Bool} {whole : Sem Value} (x : EvB prog w A h (isTrue t env (eval t env)) c) : EvB prog w A h (isTrue (.UnaryOp .Not t pos) env whole) (!c) := fun s Q E hs hQ => isTrue_not (x s _ _ hs fun s' g => hQ s' g)
theorem EvB.or2 {a b : Expr} {pos : Pos} {c d : Bool} {whole : Sem Value} (x : EvB prog w A h (isTrue a env (eval a env)) c) (y : EvB prog w A h (isTrue b env (eval b env)) d) : EvB prog w A h (isTrue (.BoolOp .Or [a, b] pos) env whole) (c || d) := fun s Q E hs hQ =>
  isTrue_or (x s _ _ hs fun s₁ g₁ => by
    cases c with
    | true => exact hQ s₁ g₁
    | false =>
      exact isTrue_or (y s₁ _ _ (hs.trans g₁.heap) fun s₂ g₂ => by
        cases d with
        | true => exact hQ s₂ (g₁.trans g₂)
        | false => exact isTrue_or_nil (hQ s₂ (g₁.trans g₂))))
theorem EvB.val {e : Expr} {b : Bool} (x : Ev prog w A W h (eval e env) (.bool b)) (he : isTrue e env (eval e env) = (do let v ← eval e env; standAt e.pos; holding [v] (truthy v)) := by kernel_rfl) : EvB prog w A h (isTrue e env (eval e env)) b := fun s Q E hs hQ =>
  isTrue_plain (x s _ _ hs fun v s' g r => by cases r; exact wpAny_truthy_bool (hQ s' g)) he
end
end Mine
end

section
open PySem PySem.W PySem.Calls PySem.Spec PyProof.Rows PyProof.Rows.LCg
set_option Elab.async false
set_option maxRecDepth 100000
set_option linter.unusedVariables false
namespace Mine

theorem leD_buts {h h' : Heap} {W wr : List Addr} (k : ∀ b o, b ∉ wr → h.get? b = some o → h'.get? b = some o) (na : ∀ a ∈ wr, ∀ o, h.get? a = some o → ¬ isD o) : LeD (hideAll h W) (hideAll h' W) := fun b o e c => by
  obtain ⟨e1, e2⟩ := hide_get e
  refine hideAll_get W (k b o (fun q => ?_) e1) e2
  exact na b q o e1 c
/-- objects outside the frame that hold no data have changed -/
theorem Frm.iters {hb h h' : Heap} {env : Env} {W wr : List Addr} {M : Mus} {ρ : Ro} (F : Frm hb env W M h ρ) (ha : ∀ a ∈ wr, a ∉ W ∧ hb.get? a = none)
    (na : ∀ a ∈ wr, ∀ o, h.get? a = some o → ¬ isD o)
    (k : ∀ b o, b ∉ wr → h.get? b = some o → h'.get? b = some o) : Frm hb env W M h' ρ := by
  have view : LeD (hideAll h W) (hideAll h' W) := leD_buts k na
  have ne : ∀ b, b ∈ W → b ∉ wr := fun b hb q => (ha b q).1 hb
  refine ⟨F.fn, F.gl, F.bl, fun b o eo => k b o (fun q => ?_) (F.keep b o eo), ?_, fun x c ec => ?_, fun x l ds hx => ?_, F.lw, F.cw, F.lb, F.has, fun b hb => let ⟨o, e⟩ := F.th b hb; ⟨o, k b o (ne b hb) e⟩⟩
  · rw [(ha b q).2] at eo; cases eo
  · obtain ⟨m, x, y, z⟩ := F.ns
    exact ⟨m, (by obtain ⟨o, es, ep, eo, r⟩ := x; exact ⟨o, es, ep, k _ _ (ne _ F.lw) eo, r⟩), fun x d hx hr => let ⟨v, e, r⟩ := y x d hx hr; ⟨v, e, r.monoD view⟩, z⟩
  · obtain ⟨vo, ⟨o, eo, r⟩, y⟩ := F.cl x c ec
    exact ⟨vo, ⟨o, k _ _ (ne _ (F.cw x c ec).1) eo, r⟩, fun d hr => let ⟨v, e, r⟩ := y d hr; ⟨v, e, r.monoD view⟩⟩
  · obtain ⟨p, q, r, t, u, vs, n, eo, rr⟩ := F.mu x l ds hx
    exact ⟨p, q, r, t, u, vs, n, k _ _ (ne _ q) eo, rr.monoD view⟩

section
variable {prog : Program} {w : World} {A : Around} {W : List Addr} {M : Mus} {hb h : Heap} {ρ : Ro} {env : Env} {K : Frag} {D U : Nat}

theorem st_for {nm : List Str} {target iter : Expr} {body rest : List Stmt} {pos : Pos} {ds : List PyData} {s : Shared} {Q : Flow → Shared → Prop} {E : Value → Shared → Prop}
    (J : Nat → Mus → Ro → Prop) (tgt : PyData → Ro → Ro) (F : Frm hb env W M s.heap ρ) (src : Src prog w A W s.heap target (eval iter env) ds) (h0 : J 0 M ρ)
    (asg : ∀ i d M ρ, ds[i]? = some d → J i M ρ → (∀ p ∈ M, p.1 ∉ nm) ∧ Asg prog w A env.scope nm env target d ρ (tgt d ρ))
    (turn : ∀ i d (s : Shared) M ρ (Q : Flow → Shared → Prop) (E : Value → Shared → Prop), ds[i]? = some d → J i M ρ → Frm hb env W M s.heap (tgt d ρ) →
      (∀ s' M' ρ', Adv W s s' → Frm hb env W M' s'.heap ρ' → J (i + 1) M' ρ' → Q .next s') → wpAny (model prog w) A (execs body env) Q E s)
    (k : ∀ s' M' ρ', Adv W s s' → Frm hb env W M' s'.heap ρ' → J ds.length M' ρ' → wpAny (model prog w) A (execs rest env) Q E s')
    (hs : ∀ x, foldedSetIterable iter env x = pure x := by intro _; kernel_rfl) :
    wpAny (model prog w) A (execs (.For target iter body [] pos :: rest) env) Q E s := by
  refine wpAny_execs_cons (wpAny_For (src s _ _ le_rfl fun x s₁ g₁ kk => kk _ _ fun g I wr St Mid s₂ lg lg2 g₂ hwr R st => ?_) hs)
  have F₂ : Frm hb env W M s₂.heap ρ := F.grow g₂.heap
  have fresh : ∀ a ∈ wr, g.get? a = none := fun a ha => by
    cases e : g.get? a with
    | none => rfl
    | some o => exact absurd (Heap.lt_size e) (Nat.not_lt.mpr (R.new a ha))
  have freshS : ∀ a ∈ wr, s.heap.get? a = none := fun a ha => by
    cases e : s.heap.get? a with
    | none => rfl
    | some o => have := lg a o e; rw [fresh a ha] at this; cases this
  have notW : ∀ a ∈ wr, a ∉ W := fun a ha hm => by
    obtain ⟨o, e⟩ := F.th a hm
    rw [freshS a ha] at e; cases e
  have wrOk : ∀ a ∈ wr, a ∉ W ∧ hb.get? a = none := fun a ha => ⟨notW a ha, by
    cases e : hb.get? a with
    | none => rfl
    | some o => have := F.keep a o e; rw [freshS a ha] at this; cases this⟩
  have notWr : ∀ b o, g.get? b = some o → b ∉ wr := fun b o e q => by rw [fresh b q] at e; cases e
  refine codeAny_forLoop_any (fun n s' => ∃ i M' ρ', n = ds.length + 1 - i ∧ i ≤ ds.length ∧ St i s'.heap ∧ Frm hb env W M' s'.heap ρ' ∧ J i M' ρ' ∧
    Le (hideAll g W) (hideAll s'.heap W) ∧ s'.os = s.os ∧ (AllBare s.gens → AllBare s'.gens)) ?_ (ds.length + 1)
    ⟨0, M, ρ, rfl, Nat.zero_le _, st, F₂, h0, hide_le_of lg2, g₂.os, g₂.gens⟩
  rintro n s' ⟨i, M', ρ', rfl, hi, st', F', hJ, V', hos, hgn⟩
  by_cases hlt : i < ds.length
  · obtain ⟨d, hd⟩ : ∃ d, ds[i]? = some d := ⟨_, List.getElem?_eq_getElem hlt⟩
    refine R.item i d _ _ _ hd st' fun v h₀₁ tk₁ hR md₀ k₀ => ?_
    have V₀ : Le (hideAll g W) (hideAll h₀₁ W) := fun b o e => by
      obtain ⟨e1, e2⟩ := hide_get (V' b o e)
      exact hideAll_get W (k₀ b o (notWr b o (hide_get e).1) e1) e2
    have F0 : Frm hb env W M' h₀₁ ρ' := F'.iters wrOk (fun a ha o e => by obtain ⟨o', e', n'⟩ := R.at_ _ _ st' a ha; rw [e'] at e; cases e; exact n') k₀
    have rv0 : Rp (hideAll h₀₁ W) v d := hR W F'.th V₀
    refine R.go i v { s' with heap := h₀₁, toks := tk₁ } _ _ md₀ fun h₁ st₁ kg => ?_
    have na₁ : ∀ a ∈ wr, ∀ o, h₀₁.get? a = some o → ¬ isD o := fun a ha o e => by obtain ⟨o', e', n'⟩ := R.mid_ _ _ _ md₀ a ha; rw [e'] at e; cases e; exact n'
    have F1 : Frm hb env W M' h₁ ρ' := F0.iters wrOk na₁ kg
    have rv1 : Rp (hideAll h₁ W) v d := rv0.monoD (leD_buts kg na₁)
    have V₁ : Le (hideAll g W) (hideAll h₁ W) := fun b o e => by
      obtain ⟨e1, e2⟩ := hide_get (V₀ b o e)
      exact hideAll_get W (kg b o (notWr b o (hide_get e).1) e1) e2
    obtain ⟨hnm, as⟩ := asg i d M' ρ' hd hJ
    refine as hb W M' { s' with heap := h₁, toks := tk₁ } v _ _ F1 hnm rv1 fun h₂ tk₂ F2 k₂ => ?_
    have keep2 : ∀ b o, b ∉ W → h₁.get? b = some o → h₂.get? b = some o := fun b o hb e => k₂ b o (fun q => hb (q ▸ F1.lw)) (fun x _ q => hb (F1.cw x b q).1) e
    have st2 : St (i + 1) h₂ := R.frame _ _ _ st₁ fun b hb o e => keep2 b o (by
      rcases hb with hb | ⟨_, hb⟩
      · exact notW b hb
      · exact hb) e
    have V2 : Le (hideAll g W) (hideAll h₂ W) := V₁.trans (hide_mono (fun _ x => x) fun b o hb e => keep2 b o hb e)
    refine turn i d { s' with heap := h₂, toks := tk₂ } M' (tgt d ρ') |> fun _ => ?_
    refine turn i d { s' with heap := h₂, toks := tk₂ } M' ρ' _ _ hd hJ F2 fun s₃ M₃ ρ₃ adv F3 hJ3 => ?_
    refine ⟨ds.length + 1 - (i + 1), by (first | lia | omega), i + 1, M₃, ρ₃, rfl, hlt, ?_, F3, hJ3, V2.trans adv.view, adv.os.trans hos, fun x => adv.gens (hgn x)⟩
    refine R.frame _ _ _ st2 fun b hb o e => ?_
    have hbW : b ∉ W := by
      rcases hb with hb | ⟨_, hb⟩
      · exact notW b hb
      · exact hb
    exact (hide_get (adv.view b o (hideAll_get W e hbW))).1
  · obtain rfl : i = ds.length := Nat.le_antisymm hi (Nat.not_lt.mp hlt)
    refine R.done _ _ _ st' fun h₁ tk₁ k₁ => wpAny_execs_nil ?_
    have F1 : Frm hb env W M' h₁ ρ' := F'.iters wrOk (fun a ha o e => by obtain ⟨o', e', n'⟩ := R.at_ _ _ st' a ha; rw [e'] at e; cases e; exact n') k₁
    refine k { s' with heap := h₁, toks := tk₁ } M' ρ' ⟨(hide_le_of lg).trans fun b o e => ?_, hos, hgn⟩ F1 hJ
    obtain ⟨e1, e2⟩ := hide_get (V' b o e)
    exact hideAll_get W (k₁ b o (notWr b o (hide_get e).1) e1) e2

/-! ## a list that is filled -/
theorem Adv.narrow {s s₁ s₂ : Shared} {l : Addr} (x : Adv W s s₁) (hl : s.heap.get? l = none) (y : Adv (l :: W) s₁ s₂) : Adv W s s₂ := ⟨fun b o e => by
    have e1 := x.view b o e
    obtain ⟨e2, e3⟩ := hide_get e1
    have hne : b ≠ l := fun q => by have := (hide_get e).1; rw [q, hl] at this; cases this
    have e4 := y.view b o (hideAll_get (l :: W) e2 fun q => by rcases List.mem_cons.mp q with q | q; exact hne q; exact e3 q)
    exact hideAll_get W (hide_get e4).1 e3, y.os.trans x.os, fun g => y.gens (x.gens g)⟩

theorem st_newList {x : Str} {px p pos : Pos} {rest : List Stmt} {s : Shared} {Q : Flow → Shared → Prop} {E : Value → Shared → Prop} (F : Frm hb env W [] s.heap ρ) (hx : env.kindOf x = some .local)
    (k : ∀ s' l, s.heap.get? l = none → Adv W s s' → Frm hb env (l :: W) [(x, l, [])] s'.heap (fun y => if y = x then none else ρ y) → wpAny (model prog w) A (execs rest env) Q E s') :
    wpAny (model prog w) A (execs (.Assign [.Name x px] (.List [] p) pos :: rest) env) Q E s := by
  refine wpAny_execs_cons (wpAny_Assign_Name (List_ (Calls.spliced_nil (wpAny_newList ?_ (Nat.zero_le _)))) (by rfl))
  obtain ⟨m, hn, hloc, _⟩ := (F.grow (le_push s.heap { cls := .type "list", data := .seq ([] : List Value).toArray })).ns
  have F₁ := F.grow (le_push s.heap { cls := .type "list", data := .seq ([] : List Value).toArray })
  refine wpAny_storeName_local hx hn (fun h' hn' sb => ?_) (by rw [F.fn]; rfl)
  have hl0 : s.heap.get? s.heap.objs.size = none := by
    cases e : s.heap.get? s.heap.objs.size with
    | none => rfl
    | some o => exact absurd (Heap.lt_size e) (Nat.lt_irrefl _)
  have hlL : s.heap.objs.size ≠ env.locals := fun q => by obtain ⟨o, e⟩ := F.th _ F.lw; rw [← q, hl0] at e; cases e
  have hlW : s.heap.objs.size ∉ W := F.th.new
  have hlc : ∀ y, env.cells.lookup y ≠ some s.heap.objs.size := fun y q => by obtain ⟨vo, ⟨o, e, _⟩, _⟩ := F.cl y _ q; rw [hl0] at e; cases e
  have hlb : hb.get? s.heap.objs.size = none := by
    cases e : hb.get? s.heap.objs.size with
    | none => rfl
    | some o => have := F.keep _ o e; rw [hl0] at this; cases this
  have el : h'.get? s.heap.objs.size = some { cls := .type "list", data := .seq #[] } := (sb.2 _ hlL).trans (Heap.get?_push_size _ rfl)
  have old : ∀ b o, b ≠ env.locals → s.heap.get? b = some o → h'.get? b = some o := fun b o hb e => (sb.2 b hb).trans (le_push _ _ _ _ e)
  have view : Le (hideAll s.heap W) (hideAll h' (s.heap.objs.size :: W)) := hide_new (fun a ha => by
    rcases List.mem_cons.mp ha with q | q
    · exact .inr (q ▸ hl0)
    · exact .inl q) fun b o hb e => old b o (fun q => hb (q ▸ F.lw)) e
  refine k _ s.heap.objs.size hl0 ⟨hide_mono (fun _ x => x) fun b o hb e => old b o (fun q => hb (q ▸ F.lw)) e, rfl, id⟩ ?_
  obtain ⟨m₀, hn₀, hloc₀, _⟩ := F.ns
  obtain rfl : m = m₀ := ns_eq hn (ns_le (le_push _ _) hn₀)
  refine ⟨F.fn, F.gl, F.bl, fun b o e => old b o (fun q => by rw [q, F.lb] at e; cases e) (F.keep b o e), ⟨_, hn', fun y d hy hr => ?_, fun y l ds hm => ?_⟩, fun y c e => ?_, fun y l ds hm => ?_, List.mem_cons_of_mem _ F.lw, fun y c e => ?_, F.lb, F.has, fun a ha => ?_⟩
  · by_cases q : y = x
    · simp [q] at hr
    · simp only [q, if_false] at hr ⊢
      obtain ⟨v, e, r⟩ := hloc₀ y d hy hr
      exact ⟨v, e, r.mono view⟩
  · cases List.mem_singleton.mp hm; simp
  · obtain ⟨vo, ⟨o, e1, r⟩, b⟩ := F.cl y c e
    refine ⟨vo, ⟨o, old c o (F.cw y c e).2.1 e1, r⟩, fun d hr => ?_⟩
    by_cases q : y = x
    · simp [q] at hr
    · simp only [q, if_false] at hr
      obtain ⟨v, e', r'⟩ := b d hr
      exact ⟨v, e', r'.mono view⟩
  · cases List.mem_singleton.mp hm
    exact ⟨hx, List.mem_cons_self .., hlL, hlc, hlb, #[], 0, el, .nil⟩
  · obtain ⟨a, b⟩ := F.cw y c e
    exact ⟨List.mem_cons_of_mem _ a, b⟩
  · rcases List.mem_cons.mp ha with q | q
    · exact ⟨_, q ▸ el⟩
    · by_cases q' : a = env.locals
      · obtain ⟨o, _, _, e, _⟩ := hn'; exact ⟨o, q' ▸ e⟩
      · obtain ⟨o, e⟩ := F.th a q; exact ⟨o, old a o q' e⟩

theorem st_append {x : Str} {e : Expr} {p1 p2 p3 pos : Pos} {l : Addr} {ds : List PyData} {d : PyData} {rest : List Stmt} {s : Shared} {Q : Flow → Shared → Prop} {E : Value → Shared → Prop}
    (F : Frm hb env W [(x, l, ds)] s.heap ρ) (v : Ev prog w A W s.heap (eval e env) d) (hz : ds.length ≤ 1000000)
    (k : ∀ s', Adv W s s' → Frm hb env W [(x, l, ds ++ [d])] s'.heap ρ → wpAny (model prog w) A (execs rest env) Q E s')
    {pl : Sem Bool} (ho : eval (.Call (.Attribute (.Name x p1) "append" p2) [e] [] p3) env = (do
      let ov ← eval (.Name x p1) env
      standAt p2.atName
      let (f, first) ← holding [ov] (getMethod ov "append" pl)
      callWith p3 f first (backTo p3 (starEach [e] env)) []) := by rfl)
    (hd : (x == ("__debug__" : Str)) = false := by kernel_rfl)
    (hi : interactive env = false := by kernel_rfl) (he : starEach [e] env = (false, eval e env) :: starEach [] env := by kernel_rfl) (hbk : backTo p3 (starEach [e] env) = [(false, eval e env)] := by kernel_rfl) :
    wpAny (model prog w) A (execs (.Expr (.Call (.Attribute (.Name x p1) "append" p2) [e] [] p3) pos :: rest) env) Q E s := by
  obtain ⟨hx, lW, lL, lc, lb, vs, n, el, rr⟩ := F.mu x l ds (List.mem_singleton.mpr rfl)
  obtain ⟨m, hn, _, hm⟩ := F.ns
  refine wpAny_execs_cons (wpAny_Expr (MethodCall_ (pl := pl) (wpAny_Name (wpAny_loadName_local F.fn hx hn (hm x l ds (List.mem_singleton.mpr rfl)) ?_) hd) ho) hi (by rfl))
  refine Calls.getMethod_list_append el rfl rfl ?_
  refine callWith_method1 ?_ he (by rfl)
  rw [hbk]
  refine spliced_cons (v s _ _ le_rfl fun u s₁ g r => Calls.spliced_nil ?_)
  have hsz : vs.size ≤ sizeLine := by
    have := rr.length
    rw [Array.length_toList] at this
    rw [sizeLine_eq]; (first | lia | omega)
  refine append_at (g.heap _ _ el) (fun h' sb hl' => ?_) hsz
  refine k _ (g.adv.trans ⟨Frm.hide_same lW sb, rfl, id⟩) ?_
  have F₁ := F.grow g.heap
  have view : Le (hideAll s₁.heap W) (hideAll h' W) := Frm.hide_same lW sb
  have F₂ := F₁.setM (ds' := ds ++ [d]) (List.mem_singleton.mpr rfl) (fun p hp _ => List.mem_singleton.mp hp) sb hl' (by rw [Array.toList_push]; exact (rr.mono (hide_le_of g.heap)).snoc r)
  simpa using F₂

/-- the filled list is data from now on -/
theorem Frm.let1 {x : Str} {l : Addr} {ds : List PyData} (F : Frm hb env (l :: W) [(x, l, ds)] h ρ) (hl : l ∉ W) : Frm hb env W [] h (upd ρ x (.list ds)) := by
  have := (F.freeze (W' := W) (List.mem_singleton.mpr rfl) (fun a => by simp) hl).1
  simpa using this

/-! ## enumerate -/
theorem src_enum {f : Str} {fp pos : Pos} {e : Expr} {ds : List PyData} {elts : List Expr} {ek : Nat} {tp : Pos} (F : Frm hb env W M h ρ) (X : Wl K hb) (hh : A.handled = none) (hf : env.kindOf f = some .globalImplicit) (hk : nsIn K mainGlobals f = some none) (hv : bootBuiltins f = some (.type "enumerate"))
    (x : Ev prog w A W h (eval e env) (.list ds)) (hn' : f ≠ "__name__" := by decide +kernel) (hd : (f == ("__debug__" : Str)) = false := by kernel_rfl) (he : backTo pos (starEach [e] env) = [(false, eval e env)] := by kernel_rfl) :
    Src prog w A W h (.Tuple elts ek tp) (eval (.Call (.Name f fp) [e] [] pos) env) (ds.mapIdx fun i d => .tuple [.int i, d]) := fun s Q E hs hQ => by
  refine wpAny_Call_NameR (name_boot F X hs hf hk hv ?_ hn' hd)
  rw [he]
  refine PySem.callWith_type1 (x s _ _ hs fun v s₁ g r => ?_)
  cases r with
  | list e1 c dd sq rr =>
    rename_i a o vs n
    obtain ⟨e2, e3⟩ := hide_get e1
    have hl : s₁.heap.IsList a vs := ⟨o, e2, c, n, sq⟩
    have ha : @LT.lt Nat _ a s₁.heap.objs.size := Heap.lt_size e2
    have hlen : vs.size = ds.length := by rw [← rr.length, Array.length_toList]
    refine call_enumerate_list hl fun h' en it sz kp => hQ _ _ (g.trans ⟨kp, rfl, id⟩) fun Q' E' k => ?_
    have W₀ := WalksT.enumerate (prog := prog) (w := w) hh (s₁.heap.objs.size + 1) s₁.heap.objs.size a (Nat.succ_ne_self _) (Nat.ne_of_lt (Nat.lt_succ_of_lt ha)) (Nat.ne_of_lt ha) vs
    refine wpAny_pyIter_enum en (k s₁.heap (s₁.heap.objs.size + 1) [s₁.heap.objs.size + 1, s₁.heap.objs.size]
      (fun i h => (∃ old, IsEnum h (s₁.heap.objs.size + 1) s₁.heap.objs.size i old) ∧ h.IsListIter s₁.heap.objs.size a i ∧ h.IsList a vs)
      (fun i v h => ∃ T, v = .ref T ∧ (∃ x, IsEnumOut h (s₁.heap.objs.size + 1) s₁.heap.objs.size ((i : Int) + 1) x T) ∧ h.IsListIter s₁.heap.objs.size a (i + 1) ∧ h.IsList a vs ∧ T ≠ s₁.heap.objs.size + 1 ∧ T ≠ s₁.heap.objs.size)
      _ g.heap kp (g.trans ⟨kp, rfl, id⟩) (fun b hb => ?_) ?_ ⟨⟨_, en⟩, it, ⟨o, kp _ _ e2, c, n, sq⟩⟩)
    · show b < h'.objs.size
      rw [sz]
      rcases List.mem_cons.mp hb with q | q
      · rw [q]; exact Nat.lt_succ_self _
      · rw [List.mem_singleton.mp q]; exact Nat.lt_succ_of_lt (Nat.lt_succ_self _)
    · refine ⟨List.mem_cons_self .., fun b hb => ?_, fun i h h' st kk => W₀.frame i h h' st fun b hb o e => kk b ?_ o e, fun i d s Q E hd st hQ => ?_, fun i v s Q E md hQ => ?_, fun s Q E st hQ => ?_, fun i s Q E st hQ => W₀.self i s Q E st hQ, fun i h st b hb => ?_, fun i v h md b hb => ?_⟩
      · rcases List.mem_cons.mp hb with q | q
        · rw [q]; exact Nat.le_succ _
        · rw [List.mem_singleton.mp q]; exact Nat.le_refl _
      · rcases List.mem_cons.mp hb with q | hb
        · exact .inl (by rw [q]; exact List.mem_cons_self ..)
        · rcases List.mem_cons.mp hb with q | hb
          · exact .inl (by rw [q]; exact List.mem_cons_of_mem _ (List.mem_cons_self ..))
          · rw [List.mem_singleton.mp hb]; exact .inr ⟨⟨_, e2⟩, e3⟩
      · rw [List.getElem?_mapIdx] at hd
        obtain ⟨d₀, hd0, rfl⟩ := Option.map_eq_some_iff.mp hd
        have hlt : i < vs.size := by
          rcases Nat.lt_or_ge i ds.length with q | q
          · (first | lia | omega)
          · rw [List.getElem?_eq_none q] at hd0; cases hd0
        obtain ⟨⟨old, he⟩, hit, hl'⟩ := st
        obtain ⟨v₀, hv0, r0⟩ := rr.get hd0
        have hx : vs[i]? = some v₀ := by rw [← Array.getElem?_toList]; exact hv0
        refine wpAny_pyNext_enum_item he hit hl' hx (Nat.succ_ne_self _) fun h'' ho hit' hT hsz kk => ?_
        have kk' : ∀ b o, b ∉ [s₁.heap.objs.size + 1, s₁.heap.objs.size] → s.heap.get? b = some o → h''.get? b = some o := fun b o hb e => kk b o (fun q => hb (by simp [q])) (fun q => hb (by simp [q])) e
        have helt : s₁.heap.objs.size + 1 < s.heap.objs.size := Heap.lt_size he
        refine hQ (.ref s.heap.objs.size) h'' _ (fun W' hW' le => ?_) ⟨s.heap.objs.size, rfl, ⟨_, ho⟩, hit', ?_, Nat.ne_of_gt helt, Nat.ne_of_gt (Nat.lt_of_succ_lt helt)⟩ kk'
        · exact .tuple (hideAll_get W' hT fun q => by obtain ⟨o', e'⟩ := hW' _ q; exact absurd (Heap.lt_size e') (Nat.lt_irrefl _)) rfl rfl rfl (.cons (.int ..) (.one (r0.mono le)))
        · obtain ⟨ol, el, rl⟩ := hl'
          exact ⟨ol, kk' _ _ (fun q => by
            rcases List.mem_cons.mp q with q | q
            · exact absurd q (Nat.ne_of_lt (Nat.lt_succ_of_lt ha))
            · exact absurd (List.mem_singleton.mp q) (Nat.ne_of_lt ha)) el, rl⟩
      · obtain ⟨T, rfl, md⟩ := md
        exact W₀.go elts ek tp i T s Q E md hQ
      · exact W₀.done s Q E (by simpa [hlen] using st) hQ
      · obtain ⟨⟨old, he⟩, ⟨oi, ei, ci, di⟩, _⟩ := st
        rcases List.mem_cons.mp hb with q | q
        · exact ⟨_, q ▸ he, fun z => z.1.elim (fun z => absurd (Value.type.inj z) (by decide)) fun z => absurd (Value.type.inj z) (by decide)⟩
        · exact ⟨oi, (List.mem_singleton.mp q) ▸ ei, fun z => by unfold isD at z; rw [ci] at z; exact z.1.elim (fun z => absurd (Value.type.inj z) (by decide)) fun z => absurd (Value.type.inj z) (by decide)⟩
      · obtain ⟨T, rfl, ⟨x, he⟩, ⟨oi, ei, ci, di⟩, _⟩ := md
        rcases List.mem_cons.mp hb with q | q
        · exact ⟨_, q ▸ he, fun z => z.1.elim (fun z => absurd (Value.type.inj z) (by decide)) fun z => absurd (Value.type.inj z) (by decide)⟩
        · exact ⟨oi, (List.mem_singleton.mp q) ▸ ei, fun z => by unfold isD at z; rw [ci] at z; exact z.1.elim (fun z => absurd (Value.type.inj z) (by decide)) fun z => absurd (Value.type.inj z) (by decide)⟩
end
end Mine
end

section
open PySem PySem.W PySem.Calls PySem.Spec PyProof.Rows PyProof.Rows.LCg
set_option Elab.async false
set_option maxRecDepth 100000
set_option maxHeartbeats 2000000
namespace Mine
theorem lk_tuple_gi : typeLookup (.type "tuple") "__getitem__" = pure (some (.builtin "tuple.__getitem__")) := by rw [typeLookup_type, builtinLookup_eq_fast]; kernel_rfl
theorem ty_tuple_gi : typeOf (.builtin "tuple.__getitem__") = pure (.type "wrapper_descriptor") := by show builtinType _ = _; rw [builtinType_eq_fast]; kernel_rfl
theorem slot_wd_get : Slot "wrapper_descriptor" "__get__" "wrapper_descriptor.__get__" :=
  .of (owner := "wrapper_descriptor") (n := "__get__") (by rw [typeLookup_type, builtinLookup_eq_fast]; kernel_rfl) (by decide +kernel) (by decide +kernel) (by decide +kernel)
    (by first | exact .inl (by decide +kernel) | exact .inr (by decide +kernel)) (by rw [isSubtype_type]; kernel_rfl)
theorem wd_set : typeLookup (.type "wrapper_descriptor") "__set__" = pure none := by rw [typeLookup_type, builtinLookup_eq_fast]; kernel_rfl
theorem wd_del : typeLookup (.type "wrapper_descriptor") "__delete__" = pure none := by rw [typeLookup_type, builtinLookup_eq_fast]; kernel_rfl
theorem entry_wd_get : entryFor table "wrapper_descriptor.__get__" = some Builtin.«wrapper_descriptor.__get__» := entryFor_of_tree (by kernel_rfl)
theorem args_wd_get (a b c : Value) : argsOk "wrapper_descriptor.__get__" ⟨[a, b, c], []⟩ := by unfold argsOk; kernel_rfl
theorem owner_tuple_gi : (".".intercalate ("tuple.__getitem__".cutAt '.').dropLast) = "tuple" := by
  have e0 : "tuple.__getitem__".cutAt '.' = ["tuple", "__getitem__"] := by first | rfl | decide +kernel
  rw [e0]; decide +kernel
theorem sub_tuple_gi : isSubtype (.type "tuple") (.type (".".intercalate ("tuple.__getitem__".cutAt '.').dropLast)) = pure true := by
  rw [owner_tuple_gi, isSubtype_type]; kernel_rfl
theorem ga_tuple : typeLookup (.type "tuple") "__getattribute__" = pure (some (.builtin "tuple.__getattribute__")) := by rw [typeLookup_type, builtinLookup_eq_fast]; kernel_rfl
theorem sub_tuple_mod : isSubtype (.type "tuple") (.type "module") = pure false := by rw [isSubtype_type]; kernel_rfl

section
variable {prog : Program} {w : World} {A : Around} {E : Value → Shared → Prop} {h : Heap} {g : Array GenState} {d : Drawn} {t : Nat} {os : OsState} {a : Addr} {o : Obj}
theorem wd_gets {R : Result → Shared → Prop} {vs : Array Value} {n : Nat} {sl : Array (Option Value)} (hx : h.get? a = some ⟨.type "tuple", none, .seq vs n, sl⟩) (hq : ∀ o, R (.ok (.ret (.ref h.objs.size))) ⟨h.push o, g, d, t, os⟩) :
    codeAny (model prog w) A (.call (.builtin "wrapper_descriptor.__get__") ⟨[.builtin "tuple.__getitem__", .ref a, .type "tuple"], []⟩) R ⟨h, g, d, t, os⟩ := by
  have hT : (⟨h, g, d, t, os⟩ : Shared).TypeIs (.ref a) "tuple" := ⟨_, hx, rfl⟩
  have hT5 : (⟨h, g, d, t, os⟩ : Shared).TypeIs (.builtin "tuple.__getitem__") "wrapper_descriptor" := ty_tuple_gi
  have f8 := sub_tuple_gi
  refine codeAny_call_builtin slot_wd_get.plain entry_wd_get (slot_wd_get.check _ _ _ _ _ _ _ _ hT5 (args_wd_get _ _ _) ?_)
  repeat (any_goals (first | assumption | wp_step))
  exact hq _
theorem gi_entry {tk : Tok} {Q : Fin → Shared → Prop} {vs : Array Value} {n : Nat} {sl : Array (Option Value)} (hx : h.get? a = some ⟨.type "tuple", none, .seq vs n, sl⟩) (hq : ∀ o, Q (.done (.ret (.ref h.objs.size))) ⟨h.push o, g, d, t, os⟩) :
    wpAny (model prog w) A (Builtin.«object.__getattribute__» ⟨[.ref a, .str "__getitem__" tk], []⟩) Q E ⟨h, g, d, t, os⟩ := by
  have hT : (⟨h, g, d, t, os⟩ : Shared).TypeIs (.ref a) "tuple" := ⟨_, hx, rfl⟩
  have hT5 : (⟨h, g, d, t, os⟩ : Shared).TypeIs (.builtin "tuple.__getitem__") "wrapper_descriptor" := ty_tuple_gi
  have f4 := lk_tuple_gi
  have f5 := ty_tuple_gi
  have f6 := slot_wd_get.lookup
  have f7 := wd_set
  have f8 := wd_del
  repeat (any_goals (first | assumption | wp_step))
  exact wd_gets hx fun o => wpAny_pure (hq o)
theorem gi_call {tk : Tok} {R : Result → Shared → Prop} {vs : Array Value} {n : Nat} {sl : Array (Option Value)} (hx : h.get? a = some ⟨.type "tuple", none, .seq vs n, sl⟩) (hq : ∀ o, R (.ok (.ret (.ref h.objs.size))) ⟨h.push o, g, d, t, os⟩) :
    codeAny (model prog w) A (.call (.builtin "tuple.__getattribute__") ⟨[.ref a, .str "__getitem__" tk], []⟩) R ⟨h, g, d, t, os⟩ :=
  codeAny_call_builtin PySem.F.slot_tuple_getattribute.plain PySem.F.entry_tuple_ga (PySem.F.slot_tuple_getattribute.check _ _ _ _ _ _ _ _ (show (⟨h, g, d, t, os⟩ : Shared).TypeIs (.ref a) "tuple" from ⟨_, hx, rfl⟩) (PySem.F.args_tuple_getattribute_2 _ _) (gi_entry hx hq))
theorem gi_by {tk : Tok} {Q : Value → Shared → Prop} {vs : Array Value} {n : Nat} {sl : Array (Option Value)} (hx : h.get? a = some ⟨.type "tuple", none, .seq vs n, sl⟩) (hq : ∀ o, Q (.ref h.objs.size) ⟨h.push o, g, d, t, os⟩) :
    wpAny (model prog w) A (getAttrBy (.ref a) (.str "__getitem__" tk) false) Q E ⟨h, g, d, t, os⟩ := by
  have hT : (⟨h, g, d, t, os⟩ : Shared).TypeIs (.ref a) "tuple" := ⟨_, hx, rfl⟩
  have f2 := PySem.F.slot_tuple_getattribute.lookup
  have f3 := PySem.F.slot_tuple_getattribute.bind (.ref a)
  repeat (any_goals (first | assumption | wp_step))
  refine gi_call hx fun o => ?_
  repeat (any_goals (first | assumption | wp_step))
  exact hq o
theorem hasattr_entry {tk : Tok} {Q : Fin → Shared → Prop} {vs : Array Value} {n : Nat} {sl : Array (Option Value)} (hx : h.get? a = some ⟨.type "tuple", none, .seq vs n, sl⟩) (hq : ∀ o, Q (.done (.ret (.bool true))) ⟨h.push o, g, d, t, os⟩) :
    wpAny (model prog w) A (Builtin.«hasattr» ⟨[.ref a, .str "__getitem__" tk], []⟩) Q E ⟨h, g, d, t, os⟩ := by
  have hT : (⟨h, g, d, t, os⟩ : Shared).TypeIs (.ref a) "tuple" := ⟨_, hx, rfl⟩
  have f4 := lk_tuple_gi
  have f5 := ga_tuple
  have f6 := sub_tuple_mod
  repeat (any_goals (first | assumption | with_reducible apply gi_by hx | wp_step))
  intro o
  repeat (any_goals (first | assumption | wp_step))
  exact hq o
end

theorem kind_hasattr : builtinKind "hasattr" = none := by decide +kernel
theorem plain_hasattr : plainId "hasattr" = true := by decide +kernel
theorem entry_hasattr : entryFor table "hasattr" = some Builtin.«hasattr» := entryFor_of_tree (by kernel_rfl)
theorem args_hasattr (a b : Value) : argsOk "hasattr" ⟨[a, b], []⟩ := by unfold argsOk; kernel_rfl

mutual
theorem Rp.uniq {g : Heap} : ∀ {v : Value} {d e : PyData}, Rp g v d → Rp g v e → d.canLay0 = true → e.canLay0 = true → d = e
  | _, _, _, .none, x, _, _ => by cases x; rfl
  | _, _, _, .bool b, x, _, _ => by cases x; rfl
  | _, _, _, .int i t, x, _, _ => by cases x; rfl
  | _, _, _, .str y t, x, _, _ => by cases x; rfl
  | _, _, _, .raw a, x, q, _ => by simp [PyData.canLay0] at q
  | _, _, _, .list e c _ s r, x, q, p => by
    cases x with
    | raw => simp [PyData.canLay0] at p
    | list e' c' _ s' r' =>
      rw [e] at e'; cases e'; rw [s] at s'; cases s'
      rw [RpL.uniq r r' (by simpa [PyData.canLay0] using q) (by simpa [PyData.canLay0] using p)]
    | tuple e' c' _ s' r' => rw [e] at e'; cases e'; rw [c] at c'; exact absurd (Value.type.inj c') (by decide)
  | _, _, _, .tuple e c _ s r, x, q, p => by
    cases x with
    | raw => simp [PyData.canLay0] at p
    | tuple e' c' _ s' r' =>
      rw [e] at e'; cases e'; rw [s] at s'; cases s'
      rw [RpL.uniq r r' (by simpa [PyData.canLay0] using q) (by simpa [PyData.canLay0] using p)]
    | list e' c' _ s' r' => rw [e] at e'; cases e'; rw [c] at c'; exact absurd (Value.type.inj c') (by decide)
theorem RpL.uniq {g : Heap} : ∀ {vs : List Value} {ds es : List PyData}, RpL g vs ds → RpL g vs es → PyData.canLayAll0 ds = true → PyData.canLayAll0 es = true → ds = es
  | _, _, _, .nil, x, _, _ => by cases x; rfl
  | _, _, _, .cons a r, x, q, p => by
    cases x with
    | cons a' r' =>
      have q' := Bool.and_eq_true_iff.mp (show (_ && _) = true by simpa [PyData.canLayAll0] using q)
      have p' := Bool.and_eq_true_iff.mp (show (_ && _) = true by simpa [PyData.canLayAll0] using p)
      rw [Rp.uniq a a' q'.1 p'.1, RpL.uniq r r' q'.2 p'.2]
end
open Classical in
noncomputable def dataOf (g : Heap) (v : Value) : PyData := if h : ∃ d, d.canLay0 = true ∧ Rp g v d then h.choose else .none
theorem dataOf_eq {g : Heap} {v : Value} {d : PyData} (x : Rp g v d) (hl : d.canLay0 = true) : dataOf g v = d := by
  have h : ∃ d, d.canLay0 = true ∧ Rp g v d := ⟨d, hl, x⟩
  unfold dataOf
  rw [dif_pos h]
  exact Rp.uniq h.choose_spec.2 x h.choose_spec.1 hl
theorem count_eq {g : Heap} (p : PyData → Bool) : ∀ {vs : List Value} {ds : List PyData}, RpL g vs ds → PyData.canLayAll0 ds = true → vs.countP (fun v => p (dataOf g v)) = ds.countP p
  | _, _, .nil, _ => rfl
  | _, _, .cons a r, q => by
    have q' := Bool.and_eq_true_iff.mp (show (_ && _) = true by simpa [PyData.canLayAll0] using q)
    rw [List.countP_cons, List.countP_cons, count_eq p r q'.2, dataOf_eq a q'.1]
theorem RpL.mem {g : Heap} : ∀ {vs : List Value} {ds : List PyData}, RpL g vs ds → ∀ v ∈ vs, ∃ d ∈ ds, Rp g v d
  | _, _, .nil, _, h => nomatch h
  | _, _, .cons a r, v, h => by
    rcases List.mem_cons.mp h with rfl | h
    · exact ⟨_, List.mem_cons_self .., a⟩
    · obtain ⟨d, hd, x⟩ := RpL.mem r v h; exact ⟨d, List.mem_cons_of_mem _ hd, x⟩

section
variable {prog : Program} {w : World} {A : Around} {W : List Addr} {M : Mus} {hb h : Heap} {ρ : Ro} {env : Env} {K : Frag} {D U : Nat}

theorem op_hasattr {ds : List PyData} : OpN prog w A W h (.builtin "hasattr") [.tuple ds, .str "__getitem__"] (.bool true) := fun s vs Q E _ r hQ => by
  cases r with
  | cons a r =>
    cases a with
    | tuple e c dd sq rr =>
      cases r with
      | cons b r =>
        cases b; cases r
        rename_i a' o vs n t
        obtain ⟨cls, dict, data, sl⟩ := o
        dsimp only at c dd sq
        subst c dd sq
        refine Calls.call_function_entry kind_hasattr plain_hasattr entry_hasattr (args_hasattr _ _) ?_
        obtain ⟨hp, g, d, tk, os⟩ := s
        exact hasattr_entry (hide_get e).1 fun o => ⟨_, rfl, hQ _ _ (Grow.push _ _) (.bool ..)⟩

theorem lay_mem : ∀ ds : List PyData, PyData.canLayAll0 ds = true → ∀ x ∈ ds, x.canLay0 = true
  | [], _, _, h => nomatch h
  | a :: l, hl, x, hx => by
    have := Bool.and_eq_true_iff.mp (show (a.canLay0 && PyData.canLayAll0 l) = true from hl)
    rcases List.mem_cons.mp hx with rfl | hx
    · exact this.1
    · exact lay_mem l this.2 x hx
/-- a method of a list or a tuple, of one argument -/
theorem ev_count {o e : Expr} {ap pos : Pos} {tup : Bool} {ds : List PyData} {d : PyData} (x : Ev prog w A W h (eval o env) (if tup then .tuple ds else .list ds)) (y : Ev prog w A W h (eval e env) d)
    (hl : PyData.canLayAll0 ds = true) (hl' : d.canLay0 = true) (hd : d.depth ≤ 10) (hu : A.units + 20 < cLine)
    {pl : Sem Bool} (ho : eval (.Call (.Attribute o "count" ap) [e] [] pos) env = (do
      let ov ← eval o env
      standAt ap.atName
      let (f, first) ← holding [ov] (getMethod ov "count" pl)
      callWith pos f first (backTo pos (starEach [e] env)) []) := by rfl)
    (hbk : backTo pos (starEach [e] env) = [(false, eval e env)] := by kernel_rfl) :
    Ev prog w A W h (eval (.Call (.Attribute o "count" ap) [e] [] pos) env) (.int (ds.countP fun y => PyData.eqv y d : Nat)) := fun s Q E hs hQ => by
  refine MethodCall_ (pl := pl) (x s _ _ hs fun v s₁ g r => ?_) ho
  have lay := lay_mem ds hl
  cases tup with
  | false =>
    cases r with
    | list e' c dd sq rr =>
      rename_i a o' vs n
      obtain ⟨cls, dict, data, sl⟩ := o'
      dsimp only at c dd sq
      subst c dd sq
      have e1 := (hide_get e').1
      refine getMethod_builtin (T := "list") (id := "list.count") ⟨_, e1, rfl⟩ PySem.F.plainAttrs_list F.slot_list_count F.type_list_count (fun a' q => by cases q; exact ⟨_, e1, rfl⟩) ?_
      rw [hbk]
      refine seqMethod1_meets F.slot_list_count F.entry_list_count (y s₁ _ _ (hs.trans g.heap) fun u s₂ g₂ r₂ => ⟨⟨_, g₂.heap _ _ e1, rfl⟩, F.args_list_count_2 _ _, _, SeqAt.list_countAt a vs n none sl u (fun v => PyData.eqv (dataOf (hideAll s₂.heap W) v) d), g₂.heap _ _ e1, fun z hz => ?_, ?_⟩)
      · obtain ⟨dz, hdz, rz⟩ := (rr.mono (hide_le_of g₂.heap)).mem z (by simpa using hz)
        rw [dataOf_eq rz (lay dz hdz)]
        obtain ⟨as, ra⟩ := (rz.mono (hide_le W s₂.heap)).reads (lay dz hdz)
        obtain ⟨bs, rb⟩ := (r₂.mono (hide_le W s₂.heap)).reads hl'
        exact fun prog w E Q hq => SeqAt.eqAt_reads dz d A.in1 s₂ z u as bs ra rb (lay dz hdz) hl' (by show A.units + 1 + min dz.depth d.depth < cLine; (first | lia | omega)) prog w E Q hq
      · rw [count_eq (fun y => PyData.eqv y d) (rr.mono (hide_le_of g₂.heap)) hl]
        exact hQ _ _ ((g.trans g₂).trans (Grow.tok s₂ _)) (.int ..)
  | true =>
    cases r with
    | tuple e' c dd sq rr =>
      rename_i a o' vs n
      obtain ⟨cls, dict, data, sl⟩ := o'
      dsimp only at c dd sq
      subst c dd sq
      have e1 := (hide_get e').1
      refine getMethod_builtin (T := "tuple") (id := "tuple.count") ⟨_, e1, rfl⟩ PySem.F.plainAttrs_tuple F.slot_tuple_count F.type_tuple_count (fun a' q => by cases q; exact ⟨_, e1, rfl⟩) ?_
      rw [hbk]
      refine seqMethod1_meets F.slot_tuple_count F.entry_tuple_count (y s₁ _ _ (hs.trans g.heap) fun u s₂ g₂ r₂ => ⟨⟨_, g₂.heap _ _ e1, rfl⟩, F.args_tuple_count_2 _ _, _, SeqAt.tuple_countAt a vs n none sl u (fun v => PyData.eqv (dataOf (hideAll s₂.heap W) v) d), g₂.heap _ _ e1, fun z hz => ?_, ?_⟩)
      · obtain ⟨dz, hdz, rz⟩ := (rr.mono (hide_le_of g₂.heap)).mem z (by simpa using hz)
        rw [dataOf_eq rz (lay dz hdz)]
        obtain ⟨as, ra⟩ := (rz.mono (hide_le W s₂.heap)).reads (lay dz hdz)
        obtain ⟨bs, rb⟩ := (r₂.mono (hide_le W s₂.heap)).reads hl'
        exact fun prog w E Q hq => SeqAt.eqAt_reads dz d A.in1 s₂ z u as bs ra rb (lay dz hdz) hl' (by show A.units + 1 + min dz.depth d.depth < cLine; (first | lia | omega)) prog w E Q hq
      · rw [count_eq (fun y => PyData.eqv y d) (rr.mono (hide_le_of g₂.heap)) hl]
        exact hQ _ _ ((g.trans g₂).trans (Grow.tok s₂ _)) (.int ..)

theorem op_cat {ds es : List PyData} (hW : There W h) (hz : ds.length + es.length ≤ 1000) : Op2 prog w A W h (binaryOp .Add) (.tuple ds) (.tuple es) (.tuple (ds ++ es)) := fun s u v Q E hs x y hQ => by
  cases x with
  | tuple e c dd sq rr =>
    cases y with
    | tuple e' c' dd' sq' rr' =>
      rename_i a o vs n a' o' vs' n'
      obtain ⟨cls, dict, data, sl⟩ := o
      obtain ⟨cls', dict', data', sl'⟩ := o'
      dsimp only at c dd sq c' dd' sq'
      subst c dd sq c' dd' sq'
      have ho := (hide_get e).1
      have ho2 := (hide_get e').1
      have l1 := rr.length
      have l2 := rr'.length
      rw [Array.length_toList] at l1 l2
      by_cases hv : vs.toList = []
      · refine concat_meets ⟨_, ho, rfl⟩ ⟨_, ho2, rfl⟩ noFill_tuple_add seq_tuple_add PySem.F.slot_tuple_add PySem.F.entry_tuple_add (PySem.F.args_tuple_add_2 _ _)
          (tuple_addW0 a a' vs vs' n n' none none sl sl' (by simpa using hv)) ⟨ho, ho2, ?_⟩
        have : ds = [] := by
          rw [hv] at rr; cases rr; rfl
        subst this
        exact hQ _ _ .rfl (.tuple e' rfl rfl rfl rr')
      · by_cases hw : vs'.toList = []
        · refine concat_meets ⟨_, ho, rfl⟩ ⟨_, ho2, rfl⟩ noFill_tuple_add seq_tuple_add PySem.F.slot_tuple_add PySem.F.entry_tuple_add (PySem.F.args_tuple_add_2 _ _)
            (tuple_addW1 a a' vs vs' n n' none none sl sl' (by simpa using hv) (by simpa using hw)) ⟨ho, ho2, ?_⟩
          have : es = [] := by
            rw [hw] at rr'; cases rr'; rfl
          subst this
          rw [List.append_nil] at hQ
          exact hQ _ _ .rfl (.tuple e rfl rfl rfl rr)
        · refine concat_meets ⟨_, ho, rfl⟩ ⟨_, ho2, rfl⟩ noFill_tuple_add seq_tuple_add PySem.F.slot_tuple_add PySem.F.entry_tuple_add (PySem.F.args_tuple_add_2 _ _)
            (tuple_addW2 a a' vs vs' n n' none none sl sl' (by simpa using hv) (by simpa using hw) (by rw [sizeLine_eq]; (first | lia | omega))) ⟨ho, ho2, ?_⟩
          exact hQ _ _ (Grow.push _ _) (.tuple (hide_push (hW.mono hs) rfl) rfl rfl rfl (by rw [Array.toList_append]; exact (rr.append rr').mono (hide_le_of (le_push _ _))))
end
end Mine
end

section
open PySem PySem.W PySem.Calls PySem.Spec PyProof.Rows PyProof.Rows.LCg
set_option Elab.async false
set_option maxRecDepth 100000
set_option linter.unusedVariables false
namespace Mine
theorem no_str_imul : typeLookup (.type "str") (dunderI "mul") = pure none := by rw [typeLookup_type, builtinLookup_eq_fast]; kernel_rfl
theorem fi_str_mul : fillsInplaceSlot (.type "str") "mul" (Operator.Mult == .Add) = pure false := by
  unfold fillsInplaceSlot
  show (typeLookup (.type "str") (dunderI "mul") >>= _) = _
  rw [no_str_imul]
  kernel_rfl
theorem sq_str_imul : seqSlot? (.type "str") (dunderI "mul") = pure none := by
  unfold seqSlot?
  rw [no_str_imul]
  kernel_rfl
section
variable {prog : Program} {w : World} {A : Around} {W : List Addr} {h : Heap} {s : Shared} {E : Value → Shared → Prop}
theorem imul_road {a n : Value} {id idr : String} {ix : Value} {Q : Value → Shared → Prop} (ha : ∀ s' : Shared, s'.TypeIs a "str") (hn : ∀ s' : Shared, s'.TypeIs n "int")
    (hfT : fillsNumberSlot (.type "str") "mul" = pure false) (hfU : fillsNumberSlot (.type "int") "mul" = pure true) (hr : Slot "int" (dunderR "mul") idr)
    (hrep : seqRepeat? (.type "str") = pure (some (.builtin id))) (hix : typeLookup (.type "int") "__index__" = pure (some ix))
    (hc : wpAny (model prog w) A (PySem.call (.builtin idr) [n, a]) (fun v s' => v = .notImplemented ∧ wpAny (model prog w) A (PySem.call (.builtin id) [a, n]) Q E s') E s) : wpAny (model prog w) A (inplaceOp .Mult a n) Q E s := by
  unfold inplaceOp
  refine wpAny_holding ?_
  refine wpAny_bind (wpAny_typeOf (ha s) ?_)
  refine wpAny_bind ?_
  show wpAny _ _ (fillsInplaceSlot (.type "str") "mul" (Operator.Mult == .Add)) _ _ _
  rw [fi_str_mul]
  refine wpAny_pure ?_
  rw [if_neg (by decide)]
  refine wpAny_bind (wpAny_binaryOp1_right_declines (nm := "mul") (by decide) (ha s) (hn s) hfT hfU hr (wpAny_mono hc (fun v s' h' => ⟨h'.1, ?_⟩) fun _ _ e => e))
  refine wpAny_bind ?_
  show wpAny _ _ (seqSlot? (.type "str") (dunderI "mul")) _ _ _
  rw [sq_str_imul]
  refine wpAny_pure ?_
  refine wpAny_bind (wpAny_of_eq hrep ?_)
  unfold sequenceRepeat
  refine wpAny_bind (wpAny_specialOf (hn s') hix ?_)
  exact wpAny_bind (wpAny_rule h'.2)
theorem imul_str {x : Str} {n : Int} {t u : Tok} {Q : Value → Shared → Prop} (hok : MulOk x n) (hq : ∀ t' k, Q (.str (Txt.mul x n) t') { s with toks := k }) : wpAny (model prog w) A (inplaceOp .Mult (.str x t) (.int n u)) Q E s := by
  refine imul_road (fun s' => typeIs_str s' x t) (fun s' => typeIs_int s' n u) noFill_str_mul PySem.F.fills_int_mul PySem.F.slot_int_rmul repeat_str PySem.F.slot_int_index.lookup
    (call_gives PySem.F.slot_int_rmul (typeIs_int s n u) PySem.F.entry_int_rmul (PySem.F.args_int_rmul_2 _ _) (AutoIntG1.int___rmul___int_str_0 n u x t)
      ⟨rfl, call_gives PySem.F.slot_str_mul (typeIs_str s x t) PySem.F.entry_str_mul (PySem.F.args_str_mul_2 _ _) (gives_str_mul x n t u hok.1 hok.2.1 hok.2.2) ?_⟩)
  unfold Txt.mul at hq
  by_cases h1 : n < 1
  · rw [if_pos h1]; have h' := hq s.toks (s.toks + 1); rw [if_pos h1] at h'; exact ⟨by decide, h'⟩
  · rw [if_neg h1]; refine post_val_or_made (fun hc => fits_reps (hok.2.2 h1 (by simpa using hc))) fun t' k => ?_
    have h' := hq t' k; rw [if_neg h1] at h'; exact h'
theorem op_imulS {x y : Str} {n : Int} (hok : MulOk x n) (hy : Txt.mul x n = y) : Op2 prog w A W h (inplaceOp .Mult) (.str x) (.int n) (.str y) := fun s u v Q E hs a b hQ => by
  subst hy; obtain ⟨_, rfl⟩ := a.str_inv; obtain ⟨_, rfl⟩ := b.int_inv; exact imul_str hok fun t' k => hQ _ _ (Grow.tok s _) (.str ..)
end
section
variable {prog : Program} {w : World} {A : Around} {W : List Addr} {h : Heap} {env : Env}
theorem evs_nil {pos : Pos} : Evs prog w A W h (backTo pos (starEach [] env)) [] := Evs.nil
theorem evs_cons {pos : Pos} {e : Expr} {es : List Expr} {d : PyData} {ds : List PyData} (x : Ev prog w A W h (eval e env) d) (y : Evs prog w A W h (backTo pos (starEach es env)) ds)
    (he : starEach (e :: es) env = (false, eval e env) :: starEach es env := by kernel_rfl) : Evs prog w A W h (backTo pos (starEach (e :: es) env)) (d :: ds) := by
  rw [he]
  exact Evs.cons x y
end
theorem len1 {P : List Value → Prop} (h : ∀ a, P [a]) : ∀ vs : List Value, vs.length = 1 → P vs
  | [a], _ => h a
  | [], e => by simp at e
  | _ :: _ :: _, e => by simp at e
theorem len2 {P : List Value → Prop} (h : ∀ a b, P [a, b]) : ∀ vs : List Value, vs.length = 2 → P vs
  | [a, b], _ => h a b
  | [], e => by simp at e
  | [_], e => by simp at e
  | _ :: _ :: _ :: _, e => by simp at e
theorem len3 {P : List Value → Prop} (h : ∀ a b c, P [a, b, c]) : ∀ vs : List Value, vs.length = 3 → P vs
  | [a, b, c], _ => h a b c
  | [], e => by simp at e
  | [_], e => by simp at e
  | [_, _], e => by simp at e
  | _ :: _ :: _ :: _ :: _, e => by simp at e
/-! ## comprehensions by the shape of their target -/
theorem sub_upd {scope : Scope} {ρ : Ro} {x₀ : Str} {d : PyData} (hn : scope.names.lookup x₀ ≠ some .free := by decide +kernel) (x : Str) (y : PyData) (e : seen scope ρ x = some y) : upd (seen scope ρ) x₀ d x = some y := by
  by_cases q : x = x₀
  · subst q
    exfalso
    revert e
    unfold seen
    split
    · rename_i h; exact absurd h hn
    · exact fun e => nomatch e
  · simp only [upd, q, if_false]; exact e
theorem sub_row {scope : Scope} {ρ ρ' : Ro} (h0 : ∀ x y, seen scope ρ x = some y → ρ' x = some y) : ∀ (xs : List (Str × Pos)) (ds : List PyData), (∀ x ∈ xs, scope.names.lookup x.1 ≠ some .free) → ∀ x y, seen scope ρ x = some y → rowUpd ρ' xs ds x = some y
  | [], ds, _, x, y, e => by unfold rowUpd; exact h0 x y e
  | _ :: _, [], _, x, y, e => by unfold rowUpd; exact h0 x y e
  | p :: xs, d :: ds, hn, x, y, e => by
    unfold rowUpd
    refine sub_row (ρ' := upd ρ' p.1 d) (fun x y e => ?_) xs ds (fun x hx => hn x (List.mem_cons_of_mem _ hx)) x y e
    by_cases q : x = p.1
    · subst q
      exfalso
      revert e
      unfold seen
      split
      · rename_i h; exact absurd h (hn _ (List.mem_cons_self ..))
      · exact fun e => nomatch e
    · simp only [upd, q, if_false]; exact h0 x y e

noncomputable def rowT (ρ : Ro) (xs : List (Str × Pos)) : PyData → Ro
  | .tuple ds => rowUpd ρ xs ds
  | _ => ρ

section
variable {prog : Program} {w : World} {A : Around} {W : List Addr} {M : Mus} {hb h : Heap} {ρ : Ro} {env : Env} {scope : Scope}
noncomputable abbrev Held (env : Env) (scope : Scope) (x : Str) : Prop := ∀ C cs, (cenvOf env scope C cs).kindOf x = some .local ∨ ((cenvOf env scope C cs).kindOf x = some .cell ∧ (x, NameKind.cell) ∈ scope.names)
theorem asg_held {x : Str} {px : Pos} {d : PyData} {ρ : Ro} (hx : Held env scope x) (C : Addr) (cs : List (Str × Addr)) : Asg prog w A scope [x] (cenvOf env scope C cs) (.Name x px) d ρ (upd ρ x d) := by
  rcases hx C cs with h | ⟨h, hm⟩
  · exact asg_loc h
  · exact asg_cell h hm
theorem ev_comp1 {x : Str} {px : Pos} {elt iter : Expr} {ifs : List Expr} {pos : Pos} {ds : List PyData} (f : PyData → Option PyData)
    (F : Frm hb env W M h ρ) (src : Src prog w A W h (.Name x px) (eval iter env) ds)
    (turn : ∀ C cs d W' h', d ∈ ds → Frm hb (cenvOf env scope C cs) W' [] h' (upd (seen scope ρ) x d) →
      EvT prog w A h' ifs (cenvOf env scope C cs) (f d).isSome ∧ ∀ y, f d = some y → Ev prog w A W' h' (eval elt (cenvOf env scope C cs)) y) (hz : ds.length ≤ 1000000)
    (hx : Held env scope x := by intro _ _; exact .inl (by kernel_rfl)) (hn : scope.names.lookup x ≠ some .free := by decide +kernel)
    (hnd : (scope.names.map (·.1)).Nodup := by decide +kernel) (hkind : scope.kind = .function := by kernel_rfl)
    (hfree : (scope.names.all fun x => x.2 != .free || env.kindOf x.1 == some .cell || env.kindOf x.1 == some .free) = true := by kernel_rfl)
    (hs : ∀ x, foldedSetIterable iter env x = pure x := by intro _; kernel_rfl) :
    Ev prog w A W h (eval (.ListComp elt [⟨.Name x px, iter, ifs, 0⟩] scope pos) env) (.list (ds.filterMap f)) :=
  ev_comp (nm := [x]) (fun d => upd (seen scope ρ) x d) f F src (fun C cs d _ => asg_held hx C cs) turn (fun d => sub_upd hn) hz hnd hkind hfree hs
theorem st_comp1 {x : Str} {px : Pos} {elt iter : Expr} {ifs : List Expr} {pos : Pos} {ds : List PyData} (f : PyData → Option PyData) {y : Str} {py spos : Pos} {s : Shared} {rest : List Stmt} {Q : Flow → Shared → Prop} {E : Value → Shared → Prop}
    (F : Frm hb env W M s.heap ρ) (hM : ∀ p ∈ M, p.1 ≠ y) (src : Src prog w A W s.heap (.Name x px) (eval iter env) ds)
    (turn : ∀ C cs d W' h', d ∈ ds → Frm hb (cenvOf env scope C cs) W' [] h' (upd (seen scope ρ) x d) →
      EvT prog w A h' ifs (cenvOf env scope C cs) (f d).isSome ∧ ∀ y, f d = some y → Ev prog w A W' h' (eval elt (cenvOf env scope C cs)) y) (hz : ds.length ≤ 1000000)
    (k : ∀ s', Adv W s s' → Frm hb env W M s'.heap (upd ρ y (.list (ds.filterMap f))) → wpAny (model prog w) A (execs rest env) Q E s')
    (hy : env.kindOf y = some .local ∨ env.kindOf y = some .cell := by exact .inl (by kernel_rfl))
    (hx : Held env scope x := by intro _ _; exact .inl (by kernel_rfl)) (hn : scope.names.lookup x ≠ some .free := by decide +kernel)
    (hnd : (scope.names.map (·.1)).Nodup := by decide +kernel) (hkind : scope.kind = .function := by kernel_rfl)
    (hfree : (scope.names.all fun x => x.2 != .free || env.kindOf x.1 == some .cell || env.kindOf x.1 == some .free) = true := by kernel_rfl)
    (hsw : swapsWith (.ListComp elt [⟨.Name x px, iter, ifs, 0⟩] scope pos) (some (.Name y py)) spos.line env = pure true := by kernel_rfl)
    (hs : ∀ x, foldedSetIterable iter env x = pure x := by intro _; kernel_rfl) :
    wpAny (model prog w) A (execs (.Assign [.Name y py] (.ListComp elt [⟨.Name x px, iter, ifs, 0⟩] scope pos) spos :: rest) env) Q E s :=
  st_comp (nm := [x]) (fun d => upd (seen scope ρ) x d) f F hy hM src (fun C cs d _ => asg_held hx C cs) turn (fun d => sub_upd hn) hz k hnd hkind hfree hsw hs

theorem asg_rowT (xs : List (Str × Pos)) {elts : List Expr} {kk : Nat} {pos : Pos} {d : PyData} {ρ : Ro} (hh : A.handled = none) (he : elts = xs.map fun p => Expr.Name p.1 p.2) (hx : ∀ x ∈ xs, Held env scope x.1) (hd : ∃ ds, d = .tuple ds ∧ xs.length = ds.length) (C : Addr) (cs : List (Str × Addr)) :
    Asg prog w A scope (xs.map (·.1)) (cenvOf env scope C cs) (.Tuple elts kk pos) d ρ (rowT ρ xs d) := by
  obtain ⟨ds, rfl, hl⟩ := hd
  exact asg_tup xs hh he (fun x hm => hx x hm C cs) hl
theorem sub_rowT {scope : Scope} {ρ : Ro} (xs : List (Str × Pos)) (hn : ∀ x ∈ xs, scope.names.lookup x.1 ≠ some .free) (d : PyData) (x : Str) (y : PyData) (e : seen scope ρ x = some y) : rowT (seen scope ρ) xs d x = some y := by
  cases d <;> first | exact e | exact sub_row (fun _ _ e => e) xs _ hn x y e
theorem ev_comp2 (xs : List (Str × Pos)) {elts : List Expr} {kk : Nat} {tp : Pos} {elt iter : Expr} {ifs : List Expr} {pos : Pos} {ds : List PyData} (f : PyData → Option PyData) (hh : A.handled = none)
    (F : Frm hb env W M h ρ) (src : Src prog w A W h (.Tuple elts kk tp) (eval iter env) ds) (hds : ∀ d ∈ ds, ∃ es, d = .tuple es ∧ xs.length = es.length)
    (turn : ∀ C cs d W' h', d ∈ ds → Frm hb (cenvOf env scope C cs) W' [] h' (rowT (seen scope ρ) xs d) →
      EvT prog w A h' ifs (cenvOf env scope C cs) (f d).isSome ∧ ∀ y, f d = some y → Ev prog w A W' h' (eval elt (cenvOf env scope C cs)) y) (hz : ds.length ≤ 1000000)
    (he : elts = xs.map fun p => Expr.Name p.1 p.2) (hx : ∀ x ∈ xs, Held env scope x.1) (hn : ∀ x ∈ xs, scope.names.lookup x.1 ≠ some .free := by decide +kernel)
    (hnd : (scope.names.map (·.1)).Nodup := by decide +kernel) (hkind : scope.kind = .function := by kernel_rfl)
    (hfree : (scope.names.all fun x => x.2 != .free || env.kindOf x.1 == some .cell || env.kindOf x.1 == some .free) = true := by kernel_rfl)
    (hs : ∀ x, foldedSetIterable iter env x = pure x := by intro _; kernel_rfl) :
    Ev prog w A W h (eval (.ListComp elt [⟨.Tuple elts kk tp, iter, ifs, 0⟩] scope pos) env) (.list (ds.filterMap f)) :=
  ev_comp (nm := xs.map (·.1)) (rowT (seen scope ρ) xs) f F src (fun C cs d hd => asg_rowT xs hh he hx (hds d hd) C cs) turn (sub_rowT xs hn) hz hnd hkind hfree hs
theorem st_comp2 (xs : List (Str × Pos)) {elts : List Expr} {kk : Nat} {tp : Pos} {elt iter : Expr} {ifs : List Expr} {pos : Pos} {ds : List PyData} (f : PyData → Option PyData) {y : Str} {py spos : Pos} {s : Shared} {rest : List Stmt} {Q : Flow → Shared → Prop} {E : Value → Shared → Prop} (hh : A.handled = none)
    (F : Frm hb env W M s.heap ρ) (hM : ∀ p ∈ M, p.1 ≠ y) (src : Src prog w A W s.heap (.Tuple elts kk tp) (eval iter env) ds) (hds : ∀ d ∈ ds, ∃ es, d = .tuple es ∧ xs.length = es.length)
    (turn : ∀ C cs d W' h', d ∈ ds → Frm hb (cenvOf env scope C cs) W' [] h' (rowT (seen scope ρ) xs d) →
      EvT prog w A h' ifs (cenvOf env scope C cs) (f d).isSome ∧ ∀ y, f d = some y → Ev prog w A W' h' (eval elt (cenvOf env scope C cs)) y) (hz : ds.length ≤ 1000000)
    (k : ∀ s', Adv W s s' → Frm hb env W M s'.heap (upd ρ y (.list (ds.filterMap f))) → wpAny (model prog w) A (execs rest env) Q E s')
    (he : elts = xs.map fun p => Expr.Name p.1 p.2) (hx : ∀ x ∈ xs, Held env scope x.1) (hy : env.kindOf y = some .local ∨ env.kindOf y = some .cell := by exact .inl (by kernel_rfl)) (hn : ∀ x ∈ xs, scope.names.lookup x.1 ≠ some .free := by decide +kernel)
    (hnd : (scope.names.map (·.1)).Nodup := by decide +kernel) (hkind : scope.kind = .function := by kernel_rfl)
    (hfree : (scope.names.all fun x => x.2 != .free || env.kindOf x.1 == some .cell || env.kindOf x.1 == some .free) = true := by kernel_rfl)
    (hsw : swapsWith (.ListComp elt [⟨.Tuple elts kk tp, iter, ifs, 0⟩] scope pos) (some (.Name y py)) spos.line env = pure true := by kernel_rfl)
    (hs : ∀ x, foldedSetIterable iter env x = pure x := by intro _; kernel_rfl) :
    wpAny (model prog w) A (execs (.Assign [.Name y py] (.ListComp elt [⟨.Tuple elts kk tp, iter, ifs, 0⟩] scope pos) spos :: rest) env) Q E s :=
  st_comp (nm := xs.map (·.1)) (rowT (seen scope ρ) xs) f F hy hM src (fun C cs d hd => asg_rowT xs hh he hx (hds d hd) C cs) turn (sub_rowT xs hn) hz k hnd hkind hfree hsw hs
end

theorem held2 {env : Env} {scope : Scope} {a b : Str} {p q : Pos} (h1 : Held env scope a := by intro _ _; exact .inl (by kernel_rfl)) (h2 : Held env scope b := by intro _ _; exact .inl (by kernel_rfl)) : ∀ x ∈ [(a, p), (b, q)], Held env scope x.1 := fun x hx => by
  rcases List.mem_cons.mp hx with rfl | hx
  · exact h1
  · rw [List.mem_singleton.mp hx]; exact h2
theorem held4 {env : Env} {scope : Scope} {a b c d : Str} {p q r t : Pos} (h1 : Held env scope a := by intro _ _; exact .inl (by kernel_rfl)) (h2 : Held env scope b := by intro _ _; exact .inl (by kernel_rfl)) (h3 : Held env scope c := by intro _ _; exact .inl (by kernel_rfl)) (h4 : Held env scope d := by intro _ _; exact .inl (by kernel_rfl)) :
    ∀ x ∈ [(a, p), (b, q), (c, r), (d, t)], Held env scope x.1 := fun x hx => by
  rcases List.mem_cons.mp hx with rfl | hx
  · exact h1
  · rcases List.mem_cons.mp hx with rfl | hx
    · exact h2
    · rcases List.mem_cons.mp hx with rfl | hx
      · exact h3
      · rw [List.mem_singleton.mp hx]; exact h4
end Mine
end

section
open PySem PySem.W PySem.Calls PySem.Spec PyProof.Rows PyProof.Rows.LCg
set_option Elab.async false
set_option maxRecDepth 100000
set_option linter.unusedVariables false
namespace Mine

/-! ## what a frame's names are known to hold -/
noncomputable def Has (ρ : Ro) : List (Str × PyData) → Prop
  | [] => True
  | p :: L => ρ p.1 = some p.2 ∧ Has ρ L
theorem Has.get {ρ : Ro} : ∀ {L : List (Str × PyData)} {x : Str} {d : PyData}, Has ρ L → (e : L.lookup x = some d := by kernel_rfl) → ρ x = some d
  | [], _, _, _, e => nomatch e
  | p :: L, x, d, H, e => by
    rw [List.lookup_cons] at e
    cases q : x == p.1 with
    | true => rw [q] at e; cases e; rw [beq_iff_eq.mp q]; exact H.1
    | false => rw [q] at e; exact Has.get H.2 e
theorem Has.keep {ρ ρ' : Ro} : ∀ {L : List (Str × PyData)}, Has ρ L → (∀ p ∈ L, ρ' p.1 = ρ p.1) → Has ρ' L
  | [], _, _ => trivial
  | p :: L, H, k => ⟨(k p (List.mem_cons_self ..)).trans H.1, Has.keep H.2 fun q hq => k q (List.mem_cons_of_mem _ hq)⟩
theorem Has.part {ρ : Ro} (q : Str × PyData → Bool) : ∀ {L : List (Str × PyData)}, Has ρ L → Has ρ (L.filter q)
  | [], _ => trivial
  | p :: L, H => by
    rw [List.filter_cons]
    split
    · exact ⟨H.1, Has.part q H.2⟩
    · exact Has.part q H.2
theorem Has.upd {ρ : Ro} {L : List (Str × PyData)} (H : Has ρ L) (x : Str) (d : PyData) : Has (upd ρ x d) ((x, d) :: L.filter fun p => !(p.1 == x)) := by
  refine ⟨by simp [Mine.upd], (H.part _).keep fun p hp => ?_⟩
  have := (List.mem_filter.mp hp).2
  have hne : p.1 ≠ x := by
    intro q
    rw [q] at this
    simp at this
  simp only [Mine.upd, hne, if_false]
theorem Has.off {ρ : Ro} {L : List (Str × PyData)} (H : Has ρ L) (x : Str) : Has (fun y => if y = x then none else ρ y) (L.filter fun p => !(p.1 == x)) := by
  refine (H.part _).keep fun p hp => ?_
  have := (List.mem_filter.mp hp).2
  have hne : p.1 ≠ x := by
    intro q
    rw [q] at this
    simp at this
  simp only [hne, if_false]
theorem Has.comp {ρ : Ro} {L : List (Str × PyData)} {x : Str} {d : PyData} {scope : Scope} (H : Has ρ L) (hc : (L.all fun p => !(p.1 == x) && scope.names.lookup p.1 == some .free) = true := by kernel_rfl) : Has (Mine.upd (seen scope ρ) x d) ((x, d) :: L) := by
  refine ⟨by simp [Mine.upd], H.keep fun p hp => ?_⟩
  have := Bool.and_eq_true_iff.mp (List.all_eq_true.mp hc p hp)
  have hne : p.1 ≠ x := by
    intro q
    rw [q] at this
    simp at this
  have hl : scope.names.lookup p.1 = some .free := by simpa using this.2
  simp only [Mine.upd, hne, if_false, seen, hl]
theorem Has.row {ρ : Ro} {x y : Str} {p q : Pos} {L : List (Str × PyData)} {d e : PyData} (H : Has ρ L) (hxy : (x == y) = false := by kernel_rfl) (hc : (L.all fun z => !(z.1 == x) && !(z.1 == y)) = true := by kernel_rfl) : Has (rowUpd ρ [(x, p), (y, q)] [d, e]) ((x, d) :: (y, e) :: L) := by
  have hne : x ≠ y := beq_eq_false_iff_ne.mp hxy
  refine ⟨?_, ?_, H.keep fun z hz => ?_⟩
  · simp [rowUpd, Mine.upd, hne]
  · simp [rowUpd, Mine.upd]
  · have := Bool.and_eq_true_iff.mp (List.all_eq_true.mp hc z hz)
    have h1 : z.1 ≠ x := by intro r; rw [r] at this; simp at this
    have h2 : z.1 ≠ y := by intro r; rw [r] at this; simp at this
    simp [rowUpd, Mine.upd, h1, h2]
theorem Has.rowF {hb h : Heap} {env : Env} {W : List Addr} {M : Mus} {ρ : Ro} {x y : Str} {p q : Pos} {L : List (Str × PyData)} {d e : PyData} (F : Frm hb env W M h (rowT ρ [(x, p), (y, q)] (.tuple [d, e]))) (H : Has ρ L)
    (hxy : (x == y) = false := by kernel_rfl) (hc : (L.all fun z => !(z.1 == x) && !(z.1 == y)) = true := by kernel_rfl) : Has (rowT ρ [(x, p), (y, q)] (.tuple [d, e])) ((x, d) :: (y, e) :: L) := H.row hxy hc
theorem Has.compF {hb h : Heap} {env : Env} {W : List Addr} {M : Mus} {ρ : Ro} {L : List (Str × PyData)} {x : Str} {d : PyData} {scope : Scope} (F : Frm hb env W M h (Mine.upd (seen scope ρ) x d)) (H : Has ρ L)
    (hc : (L.all fun p => !(p.1 == x) && scope.names.lookup p.1 == some .free) = true := by kernel_rfl) : Has (Mine.upd (seen scope ρ) x d) ((x, d) :: L) := H.comp hc
/-- keep some of what is known -/
theorem Has.cut {ρ : Ro} {L : List (Str × PyData)} (H : Has ρ L) : ∀ L' : List (Str × PyData), (L'.map fun p => L.lookup p.1) = (L'.map fun p => some p.2) → Has ρ L'
  | [], _ => trivial
  | p :: L', e => by
    rw [List.map_cons, List.map_cons] at e
    injection e with e1 e2
    exact ⟨H.get e1, Has.cut H L' e2⟩

theorem upTo_get {n i : Nat} {d : PyData} (h : (upTo' n)[i]? = some d) : i < n ∧ d = .int (i : Int) := by
  rw [List.getElem?_map] at h
  obtain ⟨c, hc, rfl⟩ := Option.map_eq_some_iff.mp h
  have hi : i < n := by
    rcases Nat.lt_or_ge i n with q | q
    · exact q
    · rw [List.getElem?_eq_none (by simpa using q)] at hc; cases hc
  rw [List.getElem?_range hi] at hc
  exact ⟨hi, by rw [Option.some.inj hc]⟩

section
variable {prog : Program} {w : World} {A : Around} {W : List Addr} {M : Mus} {hb h : Heap} {ρ : Ro} {env : Env}
theorem op_lenN {ds : List PyData} {n : Nat} (e : ds.length = n) (hz : n ≤ 1000000) : OpN prog w A W h (.builtin "len") [.list ds] (.int n) := by
  subst e; exact op_lenL hz
theorem st_for2 (xs : List (Str × Pos)) {elts : List Expr} {kk : Nat} {tp : Pos} {iter : Expr} {body rest : List Stmt} {pos : Pos} {ds : List PyData} {s : Shared} {Q : Flow → Shared → Prop} {E : Value → Shared → Prop} (hh : A.handled = none)
    (J : Nat → Mus → Ro → Prop) (F : Frm hb env W M s.heap ρ) (src : Src prog w A W s.heap (.Tuple elts kk tp) (eval iter env) ds) (h0 : J 0 M ρ)
    (hds : ∀ d ∈ ds, ∃ es, d = .tuple es ∧ xs.length = es.length) (he : elts = xs.map fun p => Expr.Name p.1 p.2)
    (hk : ∀ x ∈ xs, env.kindOf x.1 = some .local ∨ (env.kindOf x.1 = some .cell ∧ (x.1, NameKind.cell) ∈ env.scope.names)) (hnm : ∀ i M ρ, J i M ρ → ∀ p ∈ M, p.1 ∉ xs.map (·.1))
    (turn : ∀ i d (s : Shared) M ρ (Q : Flow → Shared → Prop) (E : Value → Shared → Prop), ds[i]? = some d → J i M ρ → Frm hb env W M s.heap (rowT ρ xs d) →
      (∀ s' M' ρ', Adv W s s' → Frm hb env W M' s'.heap ρ' → J (i + 1) M' ρ' → Q .next s') → wpAny (model prog w) A (execs body env) Q E s)
    (k : ∀ s' M' ρ', Adv W s s' → Frm hb env W M' s'.heap ρ' → J ds.length M' ρ' → wpAny (model prog w) A (execs rest env) Q E s')
    (hs : ∀ x, foldedSetIterable iter env x = pure x := by intro _; kernel_rfl) :
    wpAny (model prog w) A (execs (.For (.Tuple elts kk tp) iter body [] pos :: rest) env) Q E s :=
  st_for (nm := xs.map (·.1)) J (fun d ρ => rowT ρ xs d) F src h0 (fun i d M ρ hd hJ => ⟨hnm i M ρ hJ, by
    obtain ⟨es, rfl, hl⟩ := hds d (List.mem_of_getElem? hd)
    exact asg_tup xs hh he hk hl⟩) turn k hs
end
end Mine
end

section
open PySem PySem.W PyProof.Rows
set_option Elab.async false
set_option maxRecDepth 100000
set_option maxHeartbeats 8000000
namespace Mine
/-! ## the defs of the text, by their places -/
noncomputable def nthS : List Stmt → Nat → Stmt
  | [], _ => .Pass default
  | s :: _, 0 => s
  | _ :: r, n + 1 => nthS r n
noncomputable def inner : Stmt → List Stmt
  | .ClassDef _ _ _ b .. => b
  | _ => []
noncomputable def fArgs : Stmt → Arguments
  | .FunctionDef _ a .. => a
  | _ => { posonlyargs := [], args := [], vararg := none, kwonlyargs := [], kw_defaults := [], kwarg := none, defaults := [] }
noncomputable def fBody : Stmt → FuncBody
  | .FunctionDef _ _ b .. => .stmts b
  | _ => .stmts []
noncomputable def fScope : Stmt → Scope
  | .FunctionDef _ _ _ _ _ _ s .. => s
  | _ => PySem.Challenge.pw_xp0030_01.main.scope
noncomputable def top (i : Nat) : Stmt := nthS PySem.Challenge.pw_xp0030_01.main.body i
noncomputable def meth (i j : Nat) : Stmt := nthS (inner (top i)) j
/-! ## the objects that stand behind the top (printed by wip/heapgen.lean) -/
noncomputable def hd.heap_39 : Params → Frag := fun P =>
  (nat_lit 2, { cls := Value.none, data := Data.dict #[] }) ::
  (nat_lit 3, { cls := Value.type "dict", data := Data.dict #[{ hash := PyData.keyHash P (Str.ofString "__name__"), key := Value.str (Str.ofString "__name__") 165, val := Value.str (Str.ofString "law_xp0030_01") 508 }, { hash := PyData.keyHash P (Str.ofString "__doc__"), key := Value.str (Str.ofString "__doc__") 166, val := Value.none }, { hash := PyData.keyHash P (Str.ofString "__package__"), key := Value.str (Str.ofString "__package__") 167, val := Value.none }, { hash := PyData.keyHash P (Str.ofString "__loader__"), key := Value.str (Str.ofString "__loader__") 168, val := Value.builtin "__main__.__loader__#opaque" }, { hash := PyData.keyHash P (Str.ofString "__spec__"), key := Value.str (Str.ofString "__spec__") 169, val := Value.none }, { hash := PyData.keyHash P (Str.ofString "__annotations__"), key := Value.str (Str.ofString "__annotations__") 170, val := Value.ref 6 }, { hash := PyData.keyHash P (Str.ofString "__builtins__"), key := Value.str (Str.ofString "__builtins__") 171, val := Value.ref 4 }, { hash := PyData.keyHash P (Str.ofString "__file__"), key := Value.str (Str.ofString "__file__") 173, val := Value.str (Str.ofString "/claim/cut.py") 172 }, { hash := PyData.keyHash P (Str.ofString "__cached__"), key := Value.str (Str.ofString "__cached__") 174, val := Value.none }, { hash := PyData.keyHash P (Str.ofString "_wall"), key := Value.str (Str.ofString "_wall") 193, val := Value.ref 21 }, { hash := PyData.keyHash P (Str.ofString "_post_parse_validation"), key := Value.str (Str.ofString "_post_parse_validation") 204, val := Value.ref 28 }, { hash := PyData.keyHash P (Str.ofString "NL"), key := Value.str (Str.ofString "NL") 208, val := Value.str (Str.ofString "\n") 207 }, { hash := PyData.keyHash P (Str.ofString "EMPTYSTRING"), key := Value.str (Str.ofString "EMPTYSTRING") 210, val := Value.str (Str.ofString "") 209 }, { hash := PyData.keyHash P (Str.ofString "_ValueFormatter"), key := Value.str (Str.ofString "_ValueFormatter") 318, val := Value.ref 101 }, { hash := PyData.keyHash P (Str.ofString "_Accumulator"), key := Value.str (Str.ofString "_Accumulator") 414, val := Value.ref 185 }, { hash := PyData.keyHash P (Str.ofString "lt"), key := Value.str (Str.ofString "lt") 424, val := Value.ref 196 }, { hash := PyData.keyHash P (Str.ofString "eq"), key := Value.str (Str.ofString "eq") 432, val := Value.ref 203 }, { hash := PyData.keyHash P (Str.ofString "concat"), key := Value.str (Str.ofString "concat") 441, val := Value.ref 210 }, { hash := PyData.keyHash P (Str.ofString "countOf"), key := Value.str (Str.ofString "countOf") 451, val := Value.ref 217 }, { hash := PyData.keyHash P (Str.ofString "iadd"), key := Value.str (Str.ofString "iadd") 459, val := Value.ref 224 }, { hash := PyData.keyHash P (Str.ofString "iand"), key := Value.str (Str.ofString "iand") 467, val := Value.ref 231 }, { hash := PyData.keyHash P (Str.ofString "ilshift"), key := Value.str (Str.ofString "ilshift") 475, val := Value.ref 238 }, { hash := PyData.keyHash P (Str.ofString "imul"), key := Value.str (Str.ofString "imul") 483, val := Value.ref 245 }, { hash := PyData.keyHash P (Str.ofString "ior"), key := Value.str (Str.ofString "ior") 491, val := Value.ref 252 }, { hash := PyData.keyHash P (Str.ofString "irshift"), key := Value.str (Str.ofString "irshift") 499, val := Value.ref 259 }, { hash := PyData.keyHash P (Str.ofString "isub"), key := Value.str (Str.ofString "isub") 507, val := Value.ref 266 }, { hash := PyData.keyHash P (Str.ofString "_law_end"), key := Value.str (Str.ofString "_law_end") 520, val := Value.ref 273 }, { hash := PyData.keyHash P (Str.ofString "_law_left"), key := Value.str (Str.ofString "_law_left") 526, val := Value.ref 278 }, { hash := PyData.keyHash P (Str.ofString "_law_painted"), key := Value.str (Str.ofString "_law_painted") 532, val := Value.ref 283 }, { hash := PyData.keyHash P (Str.ofString "_law_ways"), key := Value.str (Str.ofString "_law_ways") 541, val := Value.ref 290 }, { hash := PyData.keyHash P (Str.ofString "law"), key := Value.str (Str.ofString "law") 547, val := Value.ref 295 }] 31 }) ::
  (nat_lit 15, { cls := Value.type "tuple", data := Data.seq #[] }) ::
  (nat_lit 17, { cls := Value.type "tuple", data := Data.seq #[Value.str (Str.ofString "k") 190] }) ::
  (nat_lit 18, { cls := Value.type "tuple", data := Data.seq #[] }) ::
  (nat_lit 20, { cls := Value.type "code", data := Data.fields #[Value.str (Str.ofString "_wall") 187, Value.str (Str.ofString "_wall") 188, Value.str (Str.ofString "/claim/cut.py") 189, Value.int 1 0, Value.int 1 0, Value.int 0 0, Value.int 0 0, Value.int 3 0, Value.ref 15, Value.bool true, Value.int 181 0, Value.ref 16, Value.none, Value.ref 17, Value.ref 18, Value.ref 19, Value.int 191 0, Value.int 1 0, Value.str (Str.ofString "/claim/cut.py") 192] }) ::
  (nat_lit 21, { cls := Value.type "function", data := Data.func { name := Str.ofString "_wall", qualname := Str.ofString "_wall", params := fArgs (top 0), body := fBody (top 0), scope := fScope (top 0), globals := 3, closure := [], defaults := Value.none, kwdefaults := Value.none, pyModule := Value.str (Str.ofString "__main__") 164, code := Value.ref 20 } }) ::
  (nat_lit 22, { cls := Value.type "tuple", data := Data.seq #[] }) ::
  (nat_lit 24, { cls := Value.type "tuple", data := Data.seq #[Value.str (Str.ofString "parsed_email_header_tuples") 199, Value.str (Str.ofString "accepted_values") 200, Value.str (Str.ofString "v") 201] }) ::
  (nat_lit 25, { cls := Value.type "tuple", data := Data.seq #[] }) ::
  (nat_lit 27, { cls := Value.type "code", data := Data.fields #[Value.str (Str.ofString "_post_parse_validation") 196, Value.str (Str.ofString "_post_parse_validation") 197, Value.str (Str.ofString "/claim/cut.py") 198, Value.int 5 0, Value.int 1 0, Value.int 0 0, Value.int 0 0, Value.int 3 0, Value.ref 22, Value.bool true, Value.int 181 0, Value.ref 23, Value.none, Value.ref 24, Value.ref 25, Value.ref 26, Value.int 202 0, Value.int 5 0, Value.str (Str.ofString "/claim/cut.py") 203] }) ::
  (nat_lit 28, { cls := Value.type "function", data := Data.func { name := Str.ofString "_post_parse_validation", qualname := Str.ofString "_post_parse_validation", params := fArgs (top 2), body := fBody (top 2), scope := fScope (top 2), globals := 3, closure := [], defaults := Value.none, kwdefaults := Value.none, pyModule := Value.str (Str.ofString "cpy313.email.utils") 194, code := Value.ref 27 } }) ::
  (nat_lit 36, { cls := Value.type "tuple", data := Data.seq #[] }) ::
  (nat_lit 38, { cls := Value.type "tuple", data := Data.seq #[Value.str (Str.ofString "self") 226, Value.str (Str.ofString "headerlen") 227, Value.str (Str.ofString "maxlen") 228, Value.str (Str.ofString "continuation_ws") 229, Value.str (Str.ofString "splitchars") 230] }) ::
  (nat_lit 39, { cls := Value.type "tuple", data := Data.seq #[] }) ::
  (nat_lit 41, { cls := Value.type "code", data := Data.fields #[Value.str (Str.ofString "__init__") 223, Value.str (Str.ofString "_ValueFormatter.__init__") 224, Value.str (Str.ofString "/claim/cut.py") 225, Value.int 17 0, Value.int 5 0, Value.int 0 0, Value.int 0 0, Value.int 3 0, Value.ref 36, Value.bool true, Value.int 181 0, Value.ref 37, Value.none, Value.ref 38, Value.ref 39, Value.ref 40, Value.int 231 0, Value.int 17 0, Value.str (Str.ofString "/claim/cut.py") 232] }) ::
  (nat_lit 42, { cls := Value.type "function", data := Data.func { name := Str.ofString "__init__", qualname := Str.ofString "_ValueFormatter.__init__", params := fArgs (meth 6 0), body := fBody (meth 6 0), scope := fScope (meth 6 0), globals := 3, closure := [], defaults := Value.none, kwdefaults := Value.none, pyModule := Value.str (Str.ofString "cpy313.email.header") 205, code := Value.ref 41 } }) ::
  (nat_lit 43, { cls := Value.type "tuple", data := Data.seq #[] }) ::
  (nat_lit 45, { cls := Value.type "tuple", data := Data.seq #[Value.str (Str.ofString "self") 237, Value.str (Str.ofString "linesep") 238] }) ::
  (nat_lit 46, { cls := Value.type "tuple", data := Data.seq #[] }) ::
  (nat_lit 48, { cls := Value.type "code", data := Data.fields #[Value.str (Str.ofString "_str") 234, Value.str (Str.ofString "_ValueFormatter._str") 235, Value.str (Str.ofString "/claim/cut.py") 236, Value.int 25 0, Value.int 2 0, Value.int 0 0, Value.int 0 0, Value.int 3 0, Value.ref 43, Value.bool true, Value.int 181 0, Value.ref 44, Value.none, Value.ref 45, Value.ref 46, Value.ref 47, Value.int 239 0, Value.int 25 0, Value.str (Str.ofString "/claim/cut.py") 240] }) ::
  (nat_lit 49, { cls := Value.type "function", data := Data.func { name := Str.ofString "_str", qualname := Str.ofString "_ValueFormatter._str", params := fArgs (meth 6 1), body := fBody (meth 6 1), scope := fScope (meth 6 1), globals := 3, closure := [], defaults := Value.none, kwdefaults := Value.none, pyModule := Value.str (Str.ofString "cpy313.email.header") 205, code := Value.ref 48 } }) ::
  (nat_lit 50, { cls := Value.type "tuple", data := Data.seq #[] }) ::
  (nat_lit 52, { cls := Value.type "tuple", data := Data.seq #[Value.str (Str.ofString "self") 245] }) ::
  (nat_lit 53, { cls := Value.type "tuple", data := Data.seq #[] }) ::
  (nat_lit 55, { cls := Value.type "code", data := Data.fields #[Value.str (Str.ofString "__str__") 242, Value.str (Str.ofString "_ValueFormatter.__str__") 243, Value.str (Str.ofString "/claim/cut.py") 244, Value.int 29 0, Value.int 1 0, Value.int 0 0, Value.int 0 0, Value.int 3 0, Value.ref 50, Value.bool true, Value.int 181 0, Value.ref 51, Value.none, Value.ref 52, Value.ref 53, Value.ref 54, Value.int 246 0, Value.int 29 0, Value.str (Str.ofString "/claim/cut.py") 247] }) ::
  (nat_lit 56, { cls := Value.type "function", data := Data.func { name := Str.ofString "__str__", qualname := Str.ofString "_ValueFormatter.__str__", params := fArgs (meth 6 2), body := fBody (meth 6 2), scope := fScope (meth 6 2), globals := 3, closure := [], defaults := Value.none, kwdefaults := Value.none, pyModule := Value.str (Str.ofString "cpy313.email.header") 205, code := Value.ref 55 } }) ::
  (nat_lit 57, { cls := Value.type "tuple", data := Data.seq #[] }) ::
  (nat_lit 59, { cls := Value.type "tuple", data := Data.seq #[Value.str (Str.ofString "self") 252, Value.str (Str.ofString "end_of_line") 253] }) ::
  (nat_lit 60, { cls := Value.type "tuple", data := Data.seq #[] }) ::
  (nat_lit 62, { cls := Value.type "code", data := Data.fields #[Value.str (Str.ofString "newline") 249, Value.str (Str.ofString "_ValueFormatter.newline") 250, Value.str (Str.ofString "/claim/cut.py") 251, Value.int 32 0, Value.int 1 0, Value.int 0 0, Value.int 0 0, Value.int 3 0, Value.ref 57, Value.bool true, Value.int 181 0, Value.ref 58, Value.none, Value.ref 59, Value.ref 60, Value.ref 61, Value.int 254 0, Value.int 32 0, Value.str (Str.ofString "/claim/cut.py") 255] }) ::
  (nat_lit 63, { cls := Value.type "function", data := Data.func { name := Str.ofString "newline", qualname := Str.ofString "_ValueFormatter.newline", params := fArgs (meth 6 3), body := fBody (meth 6 3), scope := fScope (meth 6 3), globals := 3, closure := [], defaults := Value.none, kwdefaults := Value.none, pyModule := Value.str (Str.ofString "cpy313.email.header") 205, code := Value.ref 62 } }) ::
  (nat_lit 64, { cls := Value.type "tuple", data := Data.seq #[] }) ::
  (nat_lit 66, { cls := Value.type "tuple", data := Data.seq #[Value.str (Str.ofString "self") 260] }) ::
  (nat_lit 67, { cls := Value.type "tuple", data := Data.seq #[] }) ::
  (nat_lit 69, { cls := Value.type "code", data := Data.fields #[Value.str (Str.ofString "add_transition") 257, Value.str (Str.ofString "_ValueFormatter.add_transition") 258, Value.str (Str.ofString "/claim/cut.py") 259, Value.int 43 0, Value.int 1 0, Value.int 0 0, Value.int 0 0, Value.int 3 0, Value.ref 64, Value.bool true, Value.int 181 0, Value.ref 65, Value.none, Value.ref 66, Value.ref 67, Value.ref 68, Value.int 261 0, Value.int 43 0, Value.str (Str.ofString "/claim/cut.py") 262] }) ::
  (nat_lit 70, { cls := Value.type "function", data := Data.func { name := Str.ofString "add_transition", qualname := Str.ofString "_ValueFormatter.add_transition", params := fArgs (meth 6 4), body := fBody (meth 6 4), scope := fScope (meth 6 4), globals := 3, closure := [], defaults := Value.none, kwdefaults := Value.none, pyModule := Value.str (Str.ofString "cpy313.email.header") 205, code := Value.ref 69 } }) ::
  (nat_lit 71, { cls := Value.type "tuple", data := Data.seq #[] }) ::
  (nat_lit 73, { cls := Value.type "tuple", data := Data.seq #[Value.str (Str.ofString "self") 267, Value.str (Str.ofString "fws") 268, Value.str (Str.ofString "string") 269, Value.str (Str.ofString "charset") 270] }) ::
  (nat_lit 74, { cls := Value.type "tuple", data := Data.seq #[] }) ::
  (nat_lit 76, { cls := Value.type "code", data := Data.fields #[Value.str (Str.ofString "feed") 264, Value.str (Str.ofString "_ValueFormatter.feed") 265, Value.str (Str.ofString "/claim/cut.py") 266, Value.int 46 0, Value.int 4 0, Value.int 0 0, Value.int 0 0, Value.int 3 0, Value.ref 71, Value.bool true, Value.int 181 0, Value.ref 72, Value.none, Value.ref 73, Value.ref 74, Value.ref 75, Value.int 271 0, Value.int 46 0, Value.str (Str.ofString "/claim/cut.py") 272] }) ::
  (nat_lit 77, { cls := Value.type "function", data := Data.func { name := Str.ofString "feed", qualname := Str.ofString "_ValueFormatter.feed", params := fArgs (meth 6 5), body := fBody (meth 6 5), scope := fScope (meth 6 5), globals := 3, closure := [], defaults := Value.none, kwdefaults := Value.none, pyModule := Value.str (Str.ofString "cpy313.email.header") 205, code := Value.ref 76 } }) ::
  (nat_lit 78, { cls := Value.type "tuple", data := Data.seq #[] }) ::
  (nat_lit 80, { cls := Value.type "tuple", data := Data.seq #[Value.str (Str.ofString "self") 277] }) ::
  (nat_lit 81, { cls := Value.type "tuple", data := Data.seq #[] }) ::
  (nat_lit 83, { cls := Value.type "code", data := Data.fields #[Value.str (Str.ofString "_maxlengths") 274, Value.str (Str.ofString "_ValueFormatter._maxlengths") 275, Value.str (Str.ofString "/claim/cut.py") 276, Value.int 49 0, Value.int 1 0, Value.int 0 0, Value.int 0 0, Value.int 3 0, Value.ref 78, Value.bool true, Value.int 181 0, Value.ref 79, Value.none, Value.ref 80, Value.ref 81, Value.ref 82, Value.int 278 0, Value.int 49 0, Value.str (Str.ofString "/claim/cut.py") 279] }) ::
  (nat_lit 84, { cls := Value.type "function", data := Data.func { name := Str.ofString "_maxlengths", qualname := Str.ofString "_ValueFormatter._maxlengths", params := fArgs (meth 6 6), body := fBody (meth 6 6), scope := fScope (meth 6 6), globals := 3, closure := [], defaults := Value.none, kwdefaults := Value.none, pyModule := Value.str (Str.ofString "cpy313.email.header") 205, code := Value.ref 83 } }) ::
  (nat_lit 85, { cls := Value.type "tuple", data := Data.seq #[] }) ::
  (nat_lit 87, { cls := Value.type "tuple", data := Data.seq #[Value.str (Str.ofString "self") 284, Value.str (Str.ofString "fws") 285, Value.str (Str.ofString "string") 286, Value.str (Str.ofString "splitchars") 287] }) ::
  (nat_lit 88, { cls := Value.type "tuple", data := Data.seq #[] }) ::
  (nat_lit 90, { cls := Value.type "code", data := Data.fields #[Value.str (Str.ofString "_ascii_split") 281, Value.str (Str.ofString "_ValueFormatter._ascii_split") 282, Value.str (Str.ofString "/claim/cut.py") 283, Value.int 52 0, Value.int 4 0, Value.int 0 0, Value.int 0 0, Value.int 3 0, Value.ref 85, Value.bool true, Value.int 181 0, Value.ref 86, Value.none, Value.ref 87, Value.ref 88, Value.ref 89, Value.int 288 0, Value.int 52 0, Value.str (Str.ofString "/claim/cut.py") 289] }) ::
  (nat_lit 91, { cls := Value.type "function", data := Data.func { name := Str.ofString "_ascii_split", qualname := Str.ofString "_ValueFormatter._ascii_split", params := fArgs (meth 6 7), body := fBody (meth 6 7), scope := fScope (meth 6 7), globals := 3, closure := [], defaults := Value.none, kwdefaults := Value.none, pyModule := Value.str (Str.ofString "cpy313.email.header") 205, code := Value.ref 90 } }) ::
  (nat_lit 92, { cls := Value.type "tuple", data := Data.seq #[] }) ::
  (nat_lit 94, { cls := Value.type "tuple", data := Data.seq #[Value.str (Str.ofString "self") 294, Value.str (Str.ofString "fws") 295, Value.str (Str.ofString "string") 296, Value.str (Str.ofString "ch") 297, Value.str (Str.ofString "i") 298, Value.str (Str.ofString "prevpart") 299, Value.str (Str.ofString "part") 300, Value.str (Str.ofString "remainder") 301] }) ::
  (nat_lit 95, { cls := Value.type "tuple", data := Data.seq #[] }) ::
  (nat_lit 97, { cls := Value.type "code", data := Data.fields #[Value.str (Str.ofString "_append_chunk") 291, Value.str (Str.ofString "_ValueFormatter._append_chunk") 292, Value.str (Str.ofString "/claim/cut.py") 293, Value.int 55 0, Value.int 3 0, Value.int 0 0, Value.int 0 0, Value.int 3 0, Value.ref 92, Value.bool true, Value.int 181 0, Value.ref 93, Value.none, Value.ref 94, Value.ref 95, Value.ref 96, Value.int 302 0, Value.int 55 0, Value.str (Str.ofString "/claim/cut.py") 303] }) ::
  (nat_lit 98, { cls := Value.type "function", data := Data.func { name := Str.ofString "_append_chunk", qualname := Str.ofString "_ValueFormatter._append_chunk", params := fArgs (meth 6 8), body := fBody (meth 6 8), scope := fScope (meth 6 8), globals := 3, closure := [], defaults := Value.none, kwdefaults := Value.none, pyModule := Value.str (Str.ofString "cpy313.email.header") 205, code := Value.ref 97 } }) ::
  (nat_lit 99, { cls := Value.type "tuple", data := Data.seq #[Value.str (Str.ofString "_continuation_ws") 305, Value.str (Str.ofString "_continuation_ws_len") 306, Value.str (Str.ofString "_current_line") 307, Value.str (Str.ofString "_lines") 308, Value.str (Str.ofString "_maxlen") 309, Value.str (Str.ofString "_splitchars") 310] }) ::
  (nat_lit 100, { cls := Value.type "dict", data := Data.dict #[{ hash := PyData.keyHash P (Str.ofString "__module__"), key := Value.str (Str.ofString "__module__") 218, val := Value.str (Str.ofString "cpy313.email.header") 205 }, { hash := PyData.keyHash P (Str.ofString "__firstlineno__"), key := Value.str (Str.ofString "__firstlineno__") 222, val := Value.int 15 221 }, { hash := PyData.keyHash P (Str.ofString "__init__"), key := Value.str (Str.ofString "__init__") 233, val := Value.ref 42 }, { hash := PyData.keyHash P (Str.ofString "_str"), key := Value.str (Str.ofString "_str") 241, val := Value.ref 49 }, { hash := PyData.keyHash P (Str.ofString "__str__"), key := Value.str (Str.ofString "__str__") 248, val := Value.ref 56 }, { hash := PyData.keyHash P (Str.ofString "newline"), key := Value.str (Str.ofString "newline") 256, val := Value.ref 63 }, { hash := PyData.keyHash P (Str.ofString "add_transition"), key := Value.str (Str.ofString "add_transition") 263, val := Value.ref 70 }, { hash := PyData.keyHash P (Str.ofString "feed"), key := Value.str (Str.ofString "feed") 273, val := Value.ref 77 }, { hash := PyData.keyHash P (Str.ofString "_maxlengths"), key := Value.str (Str.ofString "_maxlengths") 280, val := Value.ref 84 }, { hash := PyData.keyHash P (Str.ofString "_ascii_split"), key := Value.str (Str.ofString "_ascii_split") 290, val := Value.ref 91 }, { hash := PyData.keyHash P (Str.ofString "_append_chunk"), key := Value.str (Str.ofString "_append_chunk") 304, val := Value.ref 98 }, { hash := PyData.keyHash P (Str.ofString "__static_attributes__"), key := Value.str (Str.ofString "__static_attributes__") 311, val := Value.ref 99 }, { hash := PyData.keyHash P (Str.ofString "__dict__"), key := Value.str (Str.ofString "__dict__") 313, val := Value.ref 102 }, { hash := PyData.keyHash P (Str.ofString "__weakref__"), key := Value.str (Str.ofString "__weakref__") 315, val := Value.ref 103 }, { hash := PyData.keyHash P (Str.ofString "__doc__"), key := Value.str (Str.ofString "__doc__") 316, val := Value.none }] 4 }) ::
  (nat_lit 101, { cls := Value.type "type", data := Data.cls { name := Str.ofString "_ValueFormatter", bases := [Value.type "object"], mro := [Value.ref 101, Value.type "object"], ns := 100, qualname := Str.ofString "_ValueFormatter" }, slots := #[none, none, some (Value.str (Str.ofString "_ValueFormatter") 211), some (Value.str (Str.ofString "_ValueFormatter") 219), some (Value.builtin "object.__new__"), some (Value.bool true)] }) ::
  (nat_lit 102, { cls := Value.type "getset_descriptor", data := Data.fields #[Value.str (Str.ofString "__dict__") 312, Value.ref 101, Value.builtin "function.__dict__", Value.builtin "function.__dict__#set"] }) ::
  (nat_lit 103, { cls := Value.type "getset_descriptor", data := Data.fields #[Value.str (Str.ofString "__weakref__") 314, Value.ref 101, Value.builtin "ExceptionGroup.__weakref__", Value.none] }) ::
  (nat_lit 106, { cls := Value.type "tuple", data := Data.seq #[Value.type "list"] }) ::
  (nat_lit 109, { cls := Value.type "cell", data := Data.cell (some (Value.ref 185)) }) ::
  (nat_lit 114, { cls := Value.type "tuple", data := Data.seq #[Value.int 0 331] }) ::
  (nat_lit 115, { cls := Value.type "tuple", data := Data.seq #[Value.ref 109] }) ::
  (nat_lit 116, { cls := Value.type "tuple", data := Data.seq #[Value.str (Str.ofString "__class__") 335] }) ::
  (nat_lit 118, { cls := Value.type "tuple", data := Data.seq #[Value.str (Str.ofString "self") 336, Value.str (Str.ofString "initial_size") 337] }) ::
  (nat_lit 119, { cls := Value.type "tuple", data := Data.seq #[] }) ::
  (nat_lit 121, { cls := Value.type "code", data := Data.fields #[Value.str (Str.ofString "__init__") 332, Value.str (Str.ofString "_Accumulator.__init__") 333, Value.str (Str.ofString "/claim/cut.py") 334, Value.int 83 0, Value.int 2 0, Value.int 0 0, Value.int 0 0, Value.int 3 0, Value.ref 116, Value.bool true, Value.int 181 0, Value.ref 117, Value.none, Value.ref 118, Value.ref 119, Value.ref 120, Value.int 338 0, Value.int 83 0, Value.str (Str.ofString "/claim/cut.py") 339] }) ::
  (nat_lit 122, { cls := Value.type "function", data := Data.func { name := Str.ofString "__init__", qualname := Str.ofString "_Accumulator.__init__", params := fArgs (meth 7 0), body := fBody (meth 7 0), scope := fScope (meth 7 0), globals := 3, closure := [(Str.ofString "__class__", 109)], defaults := Value.ref 114, kwdefaults := Value.none, pyModule := Value.str (Str.ofString "cpy313.email.header") 205, code := Value.ref 121, closureTuple := Value.ref 115 } }) ::
  (nat_lit 123, { cls := Value.type "tuple", data := Data.seq #[] }) ::
  (nat_lit 125, { cls := Value.type "tuple", data := Data.seq #[Value.str (Str.ofString "self") 344, Value.str (Str.ofString "fws") 345, Value.str (Str.ofString "string") 346] }) ::
  (nat_lit 126, { cls := Value.type "tuple", data := Data.seq #[] }) ::
  (nat_lit 128, { cls := Value.type "code", data := Data.fields #[Value.str (Str.ofString "push") 341, Value.str (Str.ofString "_Accumulator.push") 342, Value.str (Str.ofString "/claim/cut.py") 343, Value.int 87 0, Value.int 3 0, Value.int 0 0, Value.int 0 0, Value.int 3 0, Value.ref 123, Value.bool true, Value.int 181 0, Value.ref 124, Value.none, Value.ref 125, Value.ref 126, Value.ref 127, Value.int 347 0, Value.int 87 0, Value.str (Str.ofString "/claim/cut.py") 348] }) ::
  (nat_lit 129, { cls := Value.type "function", data := Data.func { name := Str.ofString "push", qualname := Str.ofString "_Accumulator.push", params := fArgs (meth 7 1), body := fBody (meth 7 1), scope := fScope (meth 7 1), globals := 3, closure := [], defaults := Value.none, kwdefaults := Value.none, pyModule := Value.str (Str.ofString "cpy313.email.header") 205, code := Value.ref 128 } }) ::
  (nat_lit 130, { cls := Value.type "tuple", data := Data.seq #[Value.int 0 350] }) ::
  (nat_lit 131, { cls := Value.type "tuple", data := Data.seq #[] }) ::
  (nat_lit 133, { cls := Value.type "tuple", data := Data.seq #[Value.str (Str.ofString "self") 354, Value.str (Str.ofString "i") 355, Value.str (Str.ofString "popped") 356] }) ::
  (nat_lit 134, { cls := Value.type "tuple", data := Data.seq #[] }) ::
  (nat_lit 136, { cls := Value.type "code", data := Data.fields #[Value.str (Str.ofString "pop_from") 351, Value.str (Str.ofString "_Accumulator.pop_from") 352, Value.str (Str.ofString "/claim/cut.py") 353, Value.int 90 0, Value.int 2 0, Value.int 0 0, Value.int 0 0, Value.int 3 0, Value.ref 131, Value.bool true, Value.int 181 0, Value.ref 132, Value.none, Value.ref 133, Value.ref 134, Value.ref 135, Value.int 357 0, Value.int 90 0, Value.str (Str.ofString "/claim/cut.py") 358] }) ::
  (nat_lit 137, { cls := Value.type "function", data := Data.func { name := Str.ofString "pop_from", qualname := Str.ofString "_Accumulator.pop_from", params := fArgs (meth 7 2), body := fBody (meth 7 2), scope := fScope (meth 7 2), globals := 3, closure := [], defaults := Value.ref 130, kwdefaults := Value.none, pyModule := Value.str (Str.ofString "cpy313.email.header") 205, code := Value.ref 136 } }) ::
  (nat_lit 138, { cls := Value.type "tuple", data := Data.seq #[Value.ref 109] }) ::
  (nat_lit 139, { cls := Value.type "tuple", data := Data.seq #[Value.str (Str.ofString "__class__") 363] }) ::
  (nat_lit 141, { cls := Value.type "tuple", data := Data.seq #[Value.str (Str.ofString "self") 364] }) ::
  (nat_lit 142, { cls := Value.type "tuple", data := Data.seq #[] }) ::
  (nat_lit 144, { cls := Value.type "code", data := Data.fields #[Value.str (Str.ofString "pop") 360, Value.str (Str.ofString "_Accumulator.pop") 361, Value.str (Str.ofString "/claim/cut.py") 362, Value.int 95 0, Value.int 1 0, Value.int 0 0, Value.int 0 0, Value.int 3 0, Value.ref 139, Value.bool true, Value.int 181 0, Value.ref 140, Value.none, Value.ref 141, Value.ref 142, Value.ref 143, Value.int 365 0, Value.int 95 0, Value.str (Str.ofString "/claim/cut.py") 366] }) ::
  (nat_lit 145, { cls := Value.type "function", data := Data.func { name := Str.ofString "pop", qualname := Str.ofString "_Accumulator.pop", params := fArgs (meth 7 3), body := fBody (meth 7 3), scope := fScope (meth 7 3), globals := 3, closure := [(Str.ofString "__class__", 109)], defaults := Value.none, kwdefaults := Value.none, pyModule := Value.str (Str.ofString "cpy313.email.header") 205, code := Value.ref 144, closureTuple := Value.ref 138 } }) ::
  (nat_lit 146, { cls := Value.type "tuple", data := Data.seq #[] }) ::
  (nat_lit 148, { cls := Value.type "tuple", data := Data.seq #[Value.str (Str.ofString "self") 371] }) ::
  (nat_lit 149, { cls := Value.type "tuple", data := Data.seq #[] }) ::
  (nat_lit 151, { cls := Value.type "code", data := Data.fields #[Value.str (Str.ofString "__len__") 368, Value.str (Str.ofString "_Accumulator.__len__") 369, Value.str (Str.ofString "/claim/cut.py") 370, Value.int 100 0, Value.int 1 0, Value.int 0 0, Value.int 0 0, Value.int 3 0, Value.ref 146, Value.bool true, Value.int 181 0, Value.ref 147, Value.none, Value.ref 148, Value.ref 149, Value.ref 150, Value.int 372 0, Value.int 100 0, Value.str (Str.ofString "/claim/cut.py") 373] }) ::
  (nat_lit 152, { cls := Value.type "function", data := Data.func { name := Str.ofString "__len__", qualname := Str.ofString "_Accumulator.__len__", params := fArgs (meth 7 4), body := fBody (meth 7 4), scope := fScope (meth 7 4), globals := 3, closure := [], defaults := Value.none, kwdefaults := Value.none, pyModule := Value.str (Str.ofString "cpy313.email.header") 205, code := Value.ref 151 } }) ::
  (nat_lit 153, { cls := Value.type "tuple", data := Data.seq #[] }) ::
  (nat_lit 155, { cls := Value.type "tuple", data := Data.seq #[Value.str (Str.ofString "self") 378] }) ::
  (nat_lit 156, { cls := Value.type "tuple", data := Data.seq #[] }) ::
  (nat_lit 158, { cls := Value.type "code", data := Data.fields #[Value.str (Str.ofString "__str__") 375, Value.str (Str.ofString "_Accumulator.__str__") 376, Value.str (Str.ofString "/claim/cut.py") 377, Value.int 103 0, Value.int 1 0, Value.int 0 0, Value.int 0 0, Value.int 3 0, Value.ref 153, Value.bool true, Value.int 181 0, Value.ref 154, Value.none, Value.ref 155, Value.ref 156, Value.ref 157, Value.int 379 0, Value.int 103 0, Value.str (Str.ofString "/claim/cut.py") 380] }) ::
  (nat_lit 159, { cls := Value.type "function", data := Data.func { name := Str.ofString "__str__", qualname := Str.ofString "_Accumulator.__str__", params := fArgs (meth 7 5), body := fBody (meth 7 5), scope := fScope (meth 7 5), globals := 3, closure := [], defaults := Value.none, kwdefaults := Value.none, pyModule := Value.str (Str.ofString "cpy313.email.header") 205, code := Value.ref 158 } }) ::
  (nat_lit 160, { cls := Value.type "tuple", data := Data.seq #[Value.none] }) ::
  (nat_lit 161, { cls := Value.type "tuple", data := Data.seq #[] }) ::
  (nat_lit 163, { cls := Value.type "tuple", data := Data.seq #[Value.str (Str.ofString "self") 385, Value.str (Str.ofString "startval") 386] }) ::
  (nat_lit 164, { cls := Value.type "tuple", data := Data.seq #[] }) ::
  (nat_lit 166, { cls := Value.type "code", data := Data.fields #[Value.str (Str.ofString "reset") 382, Value.str (Str.ofString "_Accumulator.reset") 383, Value.str (Str.ofString "/claim/cut.py") 384, Value.int 106 0, Value.int 2 0, Value.int 0 0, Value.int 0 0, Value.int 3 0, Value.ref 161, Value.bool true, Value.int 181 0, Value.ref 162, Value.none, Value.ref 163, Value.ref 164, Value.ref 165, Value.int 387 0, Value.int 106 0, Value.str (Str.ofString "/claim/cut.py") 388] }) ::
  (nat_lit 167, { cls := Value.type "function", data := Data.func { name := Str.ofString "reset", qualname := Str.ofString "_Accumulator.reset", params := fArgs (meth 7 6), body := fBody (meth 7 6), scope := fScope (meth 7 6), globals := 3, closure := [], defaults := Value.ref 160, kwdefaults := Value.none, pyModule := Value.str (Str.ofString "cpy313.email.header") 205, code := Value.ref 166 } }) ::
  (nat_lit 168, { cls := Value.type "tuple", data := Data.seq #[] }) ::
  (nat_lit 170, { cls := Value.type "tuple", data := Data.seq #[Value.str (Str.ofString "self") 393] }) ::
  (nat_lit 171, { cls := Value.type "tuple", data := Data.seq #[] }) ::
  (nat_lit 173, { cls := Value.type "code", data := Data.fields #[Value.str (Str.ofString "is_onlyws") 390, Value.str (Str.ofString "_Accumulator.is_onlyws") 391, Value.str (Str.ofString "/claim/cut.py") 392, Value.int 112 0, Value.int 1 0, Value.int 0 0, Value.int 0 0, Value.int 3 0, Value.ref 168, Value.bool true, Value.int 181 0, Value.ref 169, Value.none, Value.ref 170, Value.ref 171, Value.ref 172, Value.int 394 0, Value.int 112 0, Value.str (Str.ofString "/claim/cut.py") 395] }) ::
  (nat_lit 174, { cls := Value.type "function", data := Data.func { name := Str.ofString "is_onlyws", qualname := Str.ofString "_Accumulator.is_onlyws", params := fArgs (meth 7 7), body := fBody (meth 7 7), scope := fScope (meth 7 7), globals := 3, closure := [], defaults := Value.none, kwdefaults := Value.none, pyModule := Value.str (Str.ofString "cpy313.email.header") 205, code := Value.ref 173 } }) ::
  (nat_lit 175, { cls := Value.type "tuple", data := Data.seq #[Value.ref 109] }) ::
  (nat_lit 176, { cls := Value.type "tuple", data := Data.seq #[Value.str (Str.ofString "__class__") 400] }) ::
  (nat_lit 178, { cls := Value.type "tuple", data := Data.seq #[Value.str (Str.ofString "self") 401] }) ::
  (nat_lit 179, { cls := Value.type "tuple", data := Data.seq #[] }) ::
  (nat_lit 181, { cls := Value.type "code", data := Data.fields #[Value.str (Str.ofString "part_count") 397, Value.str (Str.ofString "_Accumulator.part_count") 398, Value.str (Str.ofString "/claim/cut.py") 399, Value.int 115 0, Value.int 1 0, Value.int 0 0, Value.int 0 0, Value.int 3 0, Value.ref 176, Value.bool true, Value.int 181 0, Value.ref 177, Value.none, Value.ref 178, Value.ref 179, Value.ref 180, Value.int 402 0, Value.int 115 0, Value.str (Str.ofString "/claim/cut.py") 403] }) ::
  (nat_lit 182, { cls := Value.type "function", data := Data.func { name := Str.ofString "part_count", qualname := Str.ofString "_Accumulator.part_count", params := fArgs (meth 7 8), body := fBody (meth 7 8), scope := fScope (meth 7 8), globals := 3, closure := [(Str.ofString "__class__", 109)], defaults := Value.none, kwdefaults := Value.none, pyModule := Value.str (Str.ofString "cpy313.email.header") 205, code := Value.ref 181, closureTuple := Value.ref 175 } }) ::
  (nat_lit 183, { cls := Value.type "tuple", data := Data.seq #[Value.str (Str.ofString "_initial_size") 405] }) ::
  (nat_lit 184, { cls := Value.type "dict", data := Data.dict #[{ hash := PyData.keyHash P (Str.ofString "__module__"), key := Value.str (Str.ofString "__module__") 326, val := Value.str (Str.ofString "cpy313.email.header") 205 }, { hash := PyData.keyHash P (Str.ofString "__firstlineno__"), key := Value.str (Str.ofString "__firstlineno__") 330, val := Value.int 81 329 }, { hash := PyData.keyHash P (Str.ofString "__init__"), key := Value.str (Str.ofString "__init__") 340, val := Value.ref 122 }, { hash := PyData.keyHash P (Str.ofString "push"), key := Value.str (Str.ofString "push") 349, val := Value.ref 129 }, { hash := PyData.keyHash P (Str.ofString "pop_from"), key := Value.str (Str.ofString "pop_from") 359, val := Value.ref 137 }, { hash := PyData.keyHash P (Str.ofString "pop"), key := Value.str (Str.ofString "pop") 367, val := Value.ref 145 }, { hash := PyData.keyHash P (Str.ofString "__len__"), key := Value.str (Str.ofString "__len__") 374, val := Value.ref 152 }, { hash := PyData.keyHash P (Str.ofString "__str__"), key := Value.str (Str.ofString "__str__") 381, val := Value.ref 159 }, { hash := PyData.keyHash P (Str.ofString "reset"), key := Value.str (Str.ofString "reset") 389, val := Value.ref 167 }, { hash := PyData.keyHash P (Str.ofString "is_onlyws"), key := Value.str (Str.ofString "is_onlyws") 396, val := Value.ref 174 }, { hash := PyData.keyHash P (Str.ofString "part_count"), key := Value.str (Str.ofString "part_count") 404, val := Value.ref 182 }, { hash := PyData.keyHash P (Str.ofString "__static_attributes__"), key := Value.str (Str.ofString "__static_attributes__") 406, val := Value.ref 183 }, { hash := PyData.keyHash P (Str.ofString "__dict__"), key := Value.str (Str.ofString "__dict__") 409, val := Value.ref 186 }, { hash := PyData.keyHash P (Str.ofString "__weakref__"), key := Value.str (Str.ofString "__weakref__") 411, val := Value.ref 187 }, { hash := PyData.keyHash P (Str.ofString "__doc__"), key := Value.str (Str.ofString "__doc__") 412, val := Value.none }] 5 }) ::
  (nat_lit 185, { cls := Value.type "type", data := Data.cls { name := Str.ofString "_Accumulator", bases := [Value.type "list"], mro := [Value.ref 185, Value.type "list", Value.type "object"], ns := 184, qualname := Str.ofString "_Accumulator" }, slots := #[some (Value.ref 106), none, some (Value.str (Str.ofString "_Accumulator") 319), some (Value.str (Str.ofString "_Accumulator") 327), some (Value.builtin "list.__new__"), some (Value.bool true)] }) ::
  (nat_lit 186, { cls := Value.type "getset_descriptor", data := Data.fields #[Value.str (Str.ofString "__dict__") 408, Value.ref 185, Value.builtin "function.__dict__", Value.builtin "function.__dict__#set"] }) ::
  (nat_lit 187, { cls := Value.type "getset_descriptor", data := Data.fields #[Value.str (Str.ofString "__weakref__") 410, Value.ref 185, Value.builtin "ExceptionGroup.__weakref__", Value.none] }) ::
  (nat_lit 190, { cls := Value.type "tuple", data := Data.seq #[] }) ::
  (nat_lit 192, { cls := Value.type "tuple", data := Data.seq #[Value.str (Str.ofString "a") 420, Value.str (Str.ofString "b") 421] }) ::
  (nat_lit 193, { cls := Value.type "tuple", data := Data.seq #[] }) ::
  (nat_lit 195, { cls := Value.type "code", data := Data.fields #[Value.str (Str.ofString "lt") 417, Value.str (Str.ofString "lt") 418, Value.str (Str.ofString "/claim/cut.py") 419, Value.int 118 0, Value.int 2 0, Value.int 0 0, Value.int 0 0, Value.int 3 0, Value.ref 190, Value.bool true, Value.int 181 0, Value.ref 191, Value.none, Value.ref 192, Value.ref 193, Value.ref 194, Value.int 422 0, Value.int 118 0, Value.str (Str.ofString "/claim/cut.py") 423] }) ::
  (nat_lit 196, { cls := Value.type "function", data := Data.func { name := Str.ofString "lt", qualname := Str.ofString "lt", params := fArgs (top 9), body := fBody (top 9), scope := fScope (top 9), globals := 3, closure := [], defaults := Value.none, kwdefaults := Value.none, pyModule := Value.str (Str.ofString "cpy313.operator") 415, code := Value.ref 195 } }) ::
  (nat_lit 197, { cls := Value.type "tuple", data := Data.seq #[] }) ::
  (nat_lit 199, { cls := Value.type "tuple", data := Data.seq #[Value.str (Str.ofString "a") 428, Value.str (Str.ofString "b") 429] }) ::
  (nat_lit 200, { cls := Value.type "tuple", data := Data.seq #[] }) ::
  (nat_lit 202, { cls := Value.type "code", data := Data.fields #[Value.str (Str.ofString "eq") 425, Value.str (Str.ofString "eq") 426, Value.str (Str.ofString "/claim/cut.py") 427, Value.int 120 0, Value.int 2 0, Value.int 0 0, Value.int 0 0, Value.int 3 0, Value.ref 197, Value.bool true, Value.int 181 0, Value.ref 198, Value.none, Value.ref 199, Value.ref 200, Value.ref 201, Value.int 430 0, Value.int 120 0, Value.str (Str.ofString "/claim/cut.py") 431] }) ::
  (nat_lit 203, { cls := Value.type "function", data := Data.func { name := Str.ofString "eq", qualname := Str.ofString "eq", params := fArgs (top 10), body := fBody (top 10), scope := fScope (top 10), globals := 3, closure := [], defaults := Value.none, kwdefaults := Value.none, pyModule := Value.str (Str.ofString "cpy313.operator") 415, code := Value.ref 202 } }) ::
  (nat_lit 204, { cls := Value.type "tuple", data := Data.seq #[] }) ::
  (nat_lit 206, { cls := Value.type "tuple", data := Data.seq #[Value.str (Str.ofString "a") 436, Value.str (Str.ofString "b") 437, Value.str (Str.ofString "msg") 438] }) ::
  (nat_lit 207, { cls := Value.type "tuple", data := Data.seq #[] }) ::
  (nat_lit 209, { cls := Value.type "code", data := Data.fields #[Value.str (Str.ofString "concat") 433, Value.str (Str.ofString "concat") 434, Value.str (Str.ofString "/claim/cut.py") 435, Value.int 122 0, Value.int 2 0, Value.int 0 0, Value.int 0 0, Value.int 3 0, Value.ref 204, Value.bool true, Value.int 181 0, Value.ref 205, Value.none, Value.ref 206, Value.ref 207, Value.ref 208, Value.int 439 0, Value.int 122 0, Value.str (Str.ofString "/claim/cut.py") 440] }) ::
  (nat_lit 210, { cls := Value.type "function", data := Data.func { name := Str.ofString "concat", qualname := Str.ofString "concat", params := fArgs (top 11), body := fBody (top 11), scope := fScope (top 11), globals := 3, closure := [], defaults := Value.none, kwdefaults := Value.none, pyModule := Value.str (Str.ofString "cpy313.operator") 415, code := Value.ref 209 } }) ::
  (nat_lit 211, { cls := Value.type "tuple", data := Data.seq #[] }) ::
  (nat_lit 213, { cls := Value.type "tuple", data := Data.seq #[Value.str (Str.ofString "a") 445, Value.str (Str.ofString "b") 446, Value.str (Str.ofString "count") 447, Value.str (Str.ofString "i") 448] }) ::
  (nat_lit 214, { cls := Value.type "tuple", data := Data.seq #[] }) ::
  (nat_lit 216, { cls := Value.type "code", data := Data.fields #[Value.str (Str.ofString "countOf") 442, Value.str (Str.ofString "countOf") 443, Value.str (Str.ofString "/claim/cut.py") 444, Value.int 127 0, Value.int 2 0, Value.int 0 0, Value.int 0 0, Value.int 3 0, Value.ref 211, Value.bool true, Value.int 181 0, Value.ref 212, Value.none, Value.ref 213, Value.ref 214, Value.ref 215, Value.int 449 0, Value.int 127 0, Value.str (Str.ofString "/claim/cut.py") 450] }) ::
  (nat_lit 217, { cls := Value.type "function", data := Data.func { name := Str.ofString "countOf", qualname := Str.ofString "countOf", params := fArgs (top 12), body := fBody (top 12), scope := fScope (top 12), globals := 3, closure := [], defaults := Value.none, kwdefaults := Value.none, pyModule := Value.str (Str.ofString "cpy313.operator") 415, code := Value.ref 216 } }) ::
  (nat_lit 218, { cls := Value.type "tuple", data := Data.seq #[] }) ::
  (nat_lit 220, { cls := Value.type "tuple", data := Data.seq #[Value.str (Str.ofString "a") 455, Value.str (Str.ofString "b") 456] }) ::
  (nat_lit 221, { cls := Value.type "tuple", data := Data.seq #[] }) ::
  (nat_lit 223, { cls := Value.type "code", data := Data.fields #[Value.str (Str.ofString "iadd") 452, Value.str (Str.ofString "iadd") 453, Value.str (Str.ofString "/claim/cut.py") 454, Value.int 133 0, Value.int 2 0, Value.int 0 0, Value.int 0 0, Value.int 3 0, Value.ref 218, Value.bool true, Value.int 181 0, Value.ref 219, Value.none, Value.ref 220, Value.ref 221, Value.ref 222, Value.int 457 0, Value.int 133 0, Value.str (Str.ofString "/claim/cut.py") 458] }) ::
  (nat_lit 224, { cls := Value.type "function", data := Data.func { name := Str.ofString "iadd", qualname := Str.ofString "iadd", params := fArgs (top 13), body := fBody (top 13), scope := fScope (top 13), globals := 3, closure := [], defaults := Value.none, kwdefaults := Value.none, pyModule := Value.str (Str.ofString "cpy313.operator") 415, code := Value.ref 223 } }) ::
  (nat_lit 225, { cls := Value.type "tuple", data := Data.seq #[] }) ::
  (nat_lit 227, { cls := Value.type "tuple", data := Data.seq #[Value.str (Str.ofString "a") 463, Value.str (Str.ofString "b") 464] }) ::
  (nat_lit 228, { cls := Value.type "tuple", data := Data.seq #[] }) ::
  (nat_lit 230, { cls := Value.type "code", data := Data.fields #[Value.str (Str.ofString "iand") 460, Value.str (Str.ofString "iand") 461, Value.str (Str.ofString "/claim/cut.py") 462, Value.int 136 0, Value.int 2 0, Value.int 0 0, Value.int 0 0, Value.int 3 0, Value.ref 225, Value.bool true, Value.int 181 0, Value.ref 226, Value.none, Value.ref 227, Value.ref 228, Value.ref 229, Value.int 465 0, Value.int 136 0, Value.str (Str.ofString "/claim/cut.py") 466] }) ::
  (nat_lit 231, { cls := Value.type "function", data := Data.func { name := Str.ofString "iand", qualname := Str.ofString "iand", params := fArgs (top 14), body := fBody (top 14), scope := fScope (top 14), globals := 3, closure := [], defaults := Value.none, kwdefaults := Value.none, pyModule := Value.str (Str.ofString "cpy313.operator") 415, code := Value.ref 230 } }) ::
  (nat_lit 232, { cls := Value.type "tuple", data := Data.seq #[] }) ::
  (nat_lit 234, { cls := Value.type "tuple", data := Data.seq #[Value.str (Str.ofString "a") 471, Value.str (Str.ofString "b") 472] }) ::
  (nat_lit 235, { cls := Value.type "tuple", data := Data.seq #[] }) ::
  (nat_lit 237, { cls := Value.type "code", data := Data.fields #[Value.str (Str.ofString "ilshift") 468, Value.str (Str.ofString "ilshift") 469, Value.str (Str.ofString "/claim/cut.py") 470, Value.int 139 0, Value.int 2 0, Value.int 0 0, Value.int 0 0, Value.int 3 0, Value.ref 232, Value.bool true, Value.int 181 0, Value.ref 233, Value.none, Value.ref 234, Value.ref 235, Value.ref 236, Value.int 473 0, Value.int 139 0, Value.str (Str.ofString "/claim/cut.py") 474] }) ::
  (nat_lit 238, { cls := Value.type "function", data := Data.func { name := Str.ofString "ilshift", qualname := Str.ofString "ilshift", params := fArgs (top 15), body := fBody (top 15), scope := fScope (top 15), globals := 3, closure := [], defaults := Value.none, kwdefaults := Value.none, pyModule := Value.str (Str.ofString "cpy313.operator") 415, code := Value.ref 237 } }) ::
  (nat_lit 239, { cls := Value.type "tuple", data := Data.seq #[] }) ::
  (nat_lit 241, { cls := Value.type "tuple", data := Data.seq #[Value.str (Str.ofString "a") 479, Value.str (Str.ofString "b") 480] }) ::
  (nat_lit 242, { cls := Value.type "tuple", data := Data.seq #[] }) ::
  (nat_lit 244, { cls := Value.type "code", data := Data.fields #[Value.str (Str.ofString "imul") 476, Value.str (Str.ofString "imul") 477, Value.str (Str.ofString "/claim/cut.py") 478, Value.int 142 0, Value.int 2 0, Value.int 0 0, Value.int 0 0, Value.int 3 0, Value.ref 239, Value.bool true, Value.int 181 0, Value.ref 240, Value.none, Value.ref 241, Value.ref 242, Value.ref 243, Value.int 481 0, Value.int 142 0, Value.str (Str.ofString "/claim/cut.py") 482] }) ::
  (nat_lit 245, { cls := Value.type "function", data := Data.func { name := Str.ofString "imul", qualname := Str.ofString "imul", params := fArgs (top 16), body := fBody (top 16), scope := fScope (top 16), globals := 3, closure := [], defaults := Value.none, kwdefaults := Value.none, pyModule := Value.str (Str.ofString "cpy313.operator") 415, code := Value.ref 244 } }) ::
  (nat_lit 246, { cls := Value.type "tuple", data := Data.seq #[] }) ::
  (nat_lit 248, { cls := Value.type "tuple", data := Data.seq #[Value.str (Str.ofString "a") 487, Value.str (Str.ofString "b") 488] }) ::
  (nat_lit 249, { cls := Value.type "tuple", data := Data.seq #[] }) ::
  (nat_lit 251, { cls := Value.type "code", data := Data.fields #[Value.str (Str.ofString "ior") 484, Value.str (Str.ofString "ior") 485, Value.str (Str.ofString "/claim/cut.py") 486, Value.int 145 0, Value.int 2 0, Value.int 0 0, Value.int 0 0, Value.int 3 0, Value.ref 246, Value.bool true, Value.int 181 0, Value.ref 247, Value.none, Value.ref 248, Value.ref 249, Value.ref 250, Value.int 489 0, Value.int 145 0, Value.str (Str.ofString "/claim/cut.py") 490] }) ::
  (nat_lit 252, { cls := Value.type "function", data := Data.func { name := Str.ofString "ior", qualname := Str.ofString "ior", params := fArgs (top 17), body := fBody (top 17), scope := fScope (top 17), globals := 3, closure := [], defaults := Value.none, kwdefaults := Value.none, pyModule := Value.str (Str.ofString "cpy313.operator") 415, code := Value.ref 251 } }) ::
  (nat_lit 253, { cls := Value.type "tuple", data := Data.seq #[] }) ::
  (nat_lit 255, { cls := Value.type "tuple", data := Data.seq #[Value.str (Str.ofString "a") 495, Value.str (Str.ofString "b") 496] }) ::
  (nat_lit 256, { cls := Value.type "tuple", data := Data.seq #[] }) ::
  (nat_lit 258, { cls := Value.type "code", data := Data.fields #[Value.str (Str.ofString "irshift") 492, Value.str (Str.ofString "irshift") 493, Value.str (Str.ofString "/claim/cut.py") 494, Value.int 148 0, Value.int 2 0, Value.int 0 0, Value.int 0 0, Value.int 3 0, Value.ref 253, Value.bool true, Value.int 181 0, Value.ref 254, Value.none, Value.ref 255, Value.ref 256, Value.ref 257, Value.int 497 0, Value.int 148 0, Value.str (Str.ofString "/claim/cut.py") 498] }) ::
  (nat_lit 259, { cls := Value.type "function", data := Data.func { name := Str.ofString "irshift", qualname := Str.ofString "irshift", params := fArgs (top 18), body := fBody (top 18), scope := fScope (top 18), globals := 3, closure := [], defaults := Value.none, kwdefaults := Value.none, pyModule := Value.str (Str.ofString "cpy313.operator") 415, code := Value.ref 258 } }) ::
  (nat_lit 260, { cls := Value.type "tuple", data := Data.seq #[] }) ::
  (nat_lit 262, { cls := Value.type "tuple", data := Data.seq #[Value.str (Str.ofString "a") 503, Value.str (Str.ofString "b") 504] }) ::
  (nat_lit 263, { cls := Value.type "tuple", data := Data.seq #[] }) ::
  (nat_lit 265, { cls := Value.type "code", data := Data.fields #[Value.str (Str.ofString "isub") 500, Value.str (Str.ofString "isub") 501, Value.str (Str.ofString "/claim/cut.py") 502, Value.int 151 0, Value.int 2 0, Value.int 0 0, Value.int 0 0, Value.int 3 0, Value.ref 260, Value.bool true, Value.int 181 0, Value.ref 261, Value.none, Value.ref 262, Value.ref 263, Value.ref 264, Value.int 505 0, Value.int 151 0, Value.str (Str.ofString "/claim/cut.py") 506] }) ::
  (nat_lit 266, { cls := Value.type "function", data := Data.func { name := Str.ofString "isub", qualname := Str.ofString "isub", params := fArgs (top 19), body := fBody (top 19), scope := fScope (top 19), globals := 3, closure := [], defaults := Value.none, kwdefaults := Value.none, pyModule := Value.str (Str.ofString "cpy313.operator") 415, code := Value.ref 265 } }) ::
  (nat_lit 267, { cls := Value.type "tuple", data := Data.seq #[] }) ::
  (nat_lit 269, { cls := Value.type "tuple", data := Data.seq #[Value.str (Str.ofString "things") 513, Value.str (Str.ofString "room") 514, Value.str (Str.ofString "first") 515, Value.str (Str.ofString "writer") 516, Value.str (Str.ofString "thing") 517] }) ::
  (nat_lit 270, { cls := Value.type "tuple", data := Data.seq #[] }) ::
  (nat_lit 272, { cls := Value.type "code", data := Data.fields #[Value.str (Str.ofString "_law_end") 510, Value.str (Str.ofString "_law_end") 511, Value.str (Str.ofString "/claim/cut.py") 512, Value.int 155 0, Value.int 3 0, Value.int 0 0, Value.int 0 0, Value.int 3 0, Value.ref 267, Value.bool true, Value.int 181 0, Value.ref 268, Value.none, Value.ref 269, Value.ref 270, Value.ref 271, Value.int 518 0, Value.int 155 0, Value.str (Str.ofString "/claim/cut.py") 519] }) ::
  (nat_lit 273, { cls := Value.type "function", data := Data.func { name := Str.ofString "_law_end", qualname := Str.ofString "_law_end", params := fArgs (top 21), body := fBody (top 21), scope := fScope (top 21), globals := 3, closure := [], defaults := Value.none, kwdefaults := Value.none, pyModule := Value.str (Str.ofString "law_xp0030_01") 508, code := Value.ref 272 } }) ::
  (nat_lit 274, { cls := Value.type "tuple", data := Data.seq #[] }) ::
  (nat_lit 277, { cls := Value.type "code", data := Data.fields #[Value.str (Str.ofString "_law_left") 521, Value.str (Str.ofString "_law_left") 522, Value.str (Str.ofString "/claim/cut.py") 523, Value.int 160 0, Value.int 1 0, Value.int 0 0, Value.int 0 0, Value.int 3 0, Value.ref 274, Value.bool true, Value.int 181 0, Value.ref 275, Value.none, Value.none, Value.none, Value.ref 276, Value.int 524 0, Value.int 160 0, Value.str (Str.ofString "/claim/cut.py") 525] }) ::
  (nat_lit 278, { cls := Value.type "function", data := Data.func { name := Str.ofString "_law_left", qualname := Str.ofString "_law_left", params := fArgs (top 22), body := fBody (top 22), scope := fScope (top 22), globals := 3, closure := [], defaults := Value.none, kwdefaults := Value.none, pyModule := Value.str (Str.ofString "law_xp0030_01") 508, code := Value.ref 277 } }) ::
  (nat_lit 279, { cls := Value.type "tuple", data := Data.seq #[] }) ::
  (nat_lit 282, { cls := Value.type "code", data := Data.fields #[Value.str (Str.ofString "_law_painted") 527, Value.str (Str.ofString "_law_painted") 528, Value.str (Str.ofString "/claim/cut.py") 529, Value.int 165 0, Value.int 1 0, Value.int 0 0, Value.int 0 0, Value.int 3 0, Value.ref 279, Value.bool true, Value.int 181 0, Value.ref 280, Value.none, Value.none, Value.none, Value.ref 281, Value.int 530 0, Value.int 165 0, Value.str (Str.ofString "/claim/cut.py") 531] }) ::
  (nat_lit 283, { cls := Value.type "function", data := Data.func { name := Str.ofString "_law_painted", qualname := Str.ofString "_law_painted", params := fArgs (top 23), body := fBody (top 23), scope := fScope (top 23), globals := 3, closure := [], defaults := Value.none, kwdefaults := Value.none, pyModule := Value.str (Str.ofString "law_xp0030_01") 508, code := Value.ref 282 } }) ::
  (nat_lit 284, { cls := Value.type "tuple", data := Data.seq #[] }) ::
  (nat_lit 286, { cls := Value.type "tuple", data := Data.seq #[Value.str (Str.ofString "shared") 536, Value.str (Str.ofString "ways") 537, Value.str (Str.ofString "many") 538] }) ::
  (nat_lit 287, { cls := Value.type "tuple", data := Data.seq #[] }) ::
  (nat_lit 289, { cls := Value.type "code", data := Data.fields #[Value.str (Str.ofString "_law_ways") 533, Value.str (Str.ofString "_law_ways") 534, Value.str (Str.ofString "/claim/cut.py") 535, Value.int 180 0, Value.int 1 0, Value.int 0 0, Value.int 0 0, Value.int 3 0, Value.ref 284, Value.bool true, Value.int 181 0, Value.ref 285, Value.none, Value.ref 286, Value.ref 287, Value.ref 288, Value.int 539 0, Value.int 180 0, Value.str (Str.ofString "/claim/cut.py") 540] }) ::
  (nat_lit 290, { cls := Value.type "function", data := Data.func { name := Str.ofString "_law_ways", qualname := Str.ofString "_law_ways", params := fArgs (top 24), body := fBody (top 24), scope := fScope (top 24), globals := 3, closure := [], defaults := Value.none, kwdefaults := Value.none, pyModule := Value.str (Str.ofString "law_xp0030_01") 508, code := Value.ref 289 } }) ::
  (nat_lit 291, { cls := Value.type "tuple", data := Data.seq #[] }) ::
  (nat_lit 294, { cls := Value.type "code", data := Data.fields #[Value.str (Str.ofString "law") 542, Value.str (Str.ofString "law") 543, Value.str (Str.ofString "/claim/cut.py") 544, Value.int 185 0, Value.int 1 0, Value.int 0 0, Value.int 0 0, Value.int 3 0, Value.ref 291, Value.bool true, Value.int 181 0, Value.ref 292, Value.none, Value.none, Value.none, Value.ref 293, Value.int 545 0, Value.int 185 0, Value.str (Str.ofString "/claim/cut.py") 546] }) ::
  (nat_lit 295, { cls := Value.type "function", data := Data.func { name := Str.ofString "law", qualname := Str.ofString "law", params := fArgs (top 25), body := fBody (top 25), scope := fScope (top 25), globals := 3, closure := [], defaults := Value.none, kwdefaults := Value.none, pyModule := Value.str (Str.ofString "law_xp0030_01") 508, code := Value.ref 294 } }) :: []
end Mine
end

section
open PySem PySem.W PySem.Calls PySem.Spec PyProof.Rows PyProof.Rows.LCg
set_option Elab.async false
set_option maxRecDepth 100000
set_option linter.unusedVariables false
namespace Mine

theorem fillit : (fun (_ : Params → Frag) => True) hd.heap_39 ∧ PySem.Challenge.rw_xp0030_01.prog = PySem.Challenge.rw_xp0030_01.prog := by
  k_fill
  exact ⟨trivial, rfl⟩

local macro_rules | `(tactic| walk_at "enter1") => `(tactic| (
  case ho => k_is
  case hcd => k_is
  case hbind => exact fun s => len1 fun a => BindsTo.of_eq (by kernel_rfl)
  case k1 => decide
  case k2 => decide
  case k3 => decide
  case k4 => decide
  case c1 => rfl
  case c2 => rfl
  case c3 => rfl))
local macro_rules | `(tactic| walk_at "enter2") => `(tactic| (
  case ho => k_is
  case hcd => k_is
  case hbind => exact fun s => len2 fun a b => BindsTo.of_eq (by kernel_rfl)
  case k1 => decide
  case k2 => decide
  case k3 => decide
  case k4 => decide
  case c1 => rfl
  case c2 => rfl
  case c3 => rfl))

section
variable {prog : Program} {w : World}
theorem lt_ps (a b : Int) : PS prog w (hd.heap_39 w.params) 1 20 196 [.int a, .int b] (.bool (decide (a < b))) := by
  k_dflt (refine' ps_def (D := 0) (U := 17) ["a", "b"] ?ho ?hcd ?hbind rfl ?k1 ?k2 ?k3 ?k4 ?h ?c1 ?c2 ?c3)
  walk_at "enter2"
  intro A L W hb s Q E C F k
  exact st_ret F (Ev.cmp (ev_loc F) (ev_loc F) op_lt) k
theorem eq_ps (a b : PyData) (ha : a.canLay0 = true) (hb : b.canLay0 = true) (hdp : min a.depth b.depth ≤ 10) : PS prog w (hd.heap_39 w.params) 1 50 203 [a, b] (.bool (PyData.eqv a b)) := by
  k_dflt (refine' ps_def (D := 0) (U := 47) ["a", "b"] ?ho ?hcd ?hbind rfl ?k1 ?k2 ?k3 ?k4 ?h ?c1 ?c2 ?c3)
  walk_at "enter2"
  intro A L W hb' s Q E C F k
  exact st_ret F (Ev.cmp (ev_loc F) (ev_loc F) (op_eqv ha hb hdp (by have := C.un; (first | lia | omega)))) k
theorem iadd_ps (a b : Int) : PS prog w (hd.heap_39 w.params) 1 20 224 [.int a, .int b] (.int (a + b)) := by
  k_dflt (refine' ps_def (D := 0) (U := 17) ["a", "b"] ?ho ?hcd ?hbind rfl ?k1 ?k2 ?k3 ?k4 ?h ?c1 ?c2 ?c3)
  walk_at "enter2"
  intro A L W hb s Q E C F k
  exact st_aug F (.inl (by kernel_rfl)) (by kernel_rfl) (ev_loc F) (op_iadd (a := a) (b := b)) (fun _ h => nomatch h) fun s' adv F' => st_ret F' (ev_loc F') fun v s'' adv' => k v s'' (adv.trans adv')
theorem iand_ps (a b : Int) : PS prog w (hd.heap_39 w.params) 1 20 231 [.int a, .int b] (.int (Builtin.bitAnd a b)) := by
  k_dflt (refine' ps_def (D := 0) (U := 17) ["a", "b"] ?ho ?hcd ?hbind rfl ?k1 ?k2 ?k3 ?k4 ?h ?c1 ?c2 ?c3)
  walk_at "enter2"
  intro A L W hb s Q E C F k
  exact st_aug F (.inl (by kernel_rfl)) (by kernel_rfl) (ev_loc F) (op_iand (a := a) (b := b)) (fun _ h => nomatch h) fun s' adv F' => st_ret F' (ev_loc F') fun v s'' adv' => k v s'' (adv.trans adv')
theorem ilshift_ps (a n : Int) (hn : 0 ≤ n) (hn2 : n ≤ 1000000) (ha : a.natAbs < 2 ^ 64) : PS prog w (hd.heap_39 w.params) 1 20 238 [.int a, .int n] (.int (a * 2 ^ n.toNat)) := by
  k_dflt (refine' ps_def (D := 0) (U := 17) ["a", "b"] ?ho ?hcd ?hbind rfl ?k1 ?k2 ?k3 ?k4 ?h ?c1 ?c2 ?c3)
  walk_at "enter2"
  intro A L W hb s Q E C F k
  exact st_aug F (.inl (by kernel_rfl)) (by kernel_rfl) (ev_loc F) (op_ishl (a := a) (n := n) hn hn2 ha) (fun _ h => nomatch h) fun s' adv F' => st_ret F' (ev_loc F') fun v s'' adv' => k v s'' (adv.trans adv')
theorem imul_ps (x y : Str) (n : Int) (hok : MulOk x n) (hy : Txt.mul x n = y) : PS prog w (hd.heap_39 w.params) 1 20 245 [.str x, .int n] (.str y) := by
  k_dflt (refine' ps_def (D := 0) (U := 17) ["a", "b"] ?ho ?hcd ?hbind rfl ?k1 ?k2 ?k3 ?k4 ?h ?c1 ?c2 ?c3)
  walk_at "enter2"
  intro A L W hb s Q E C F k
  exact st_aug F (.inl (by kernel_rfl)) (by kernel_rfl) (ev_loc F) (op_imulS hok hy) (fun _ h => nomatch h) fun s' adv F' => st_ret F' (ev_loc F') fun v s'' adv' => k v s'' (adv.trans adv')
theorem ior_ps (a b : Int) : PS prog w (hd.heap_39 w.params) 1 20 252 [.int a, .int b] (.int (Builtin.bitOr a b)) := by
  k_dflt (refine' ps_def (D := 0) (U := 17) ["a", "b"] ?ho ?hcd ?hbind rfl ?k1 ?k2 ?k3 ?k4 ?h ?c1 ?c2 ?c3)
  walk_at "enter2"
  intro A L W hb s Q E C F k
  exact st_aug F (.inl (by kernel_rfl)) (by kernel_rfl) (ev_loc F) (op_ior (a := a) (b := b)) (fun _ h => nomatch h) fun s' adv F' => st_ret F' (ev_loc F') fun v s'' adv' => k v s'' (adv.trans adv')
theorem irshift_ps (a n : Int) (hn : 0 ≤ n) : PS prog w (hd.heap_39 w.params) 1 20 259 [.int a, .int n] (.int (a.fdiv (2 ^ n.toNat))) := by
  k_dflt (refine' ps_def (D := 0) (U := 17) ["a", "b"] ?ho ?hcd ?hbind rfl ?k1 ?k2 ?k3 ?k4 ?h ?c1 ?c2 ?c3)
  walk_at "enter2"
  intro A L W hb s Q E C F k
  exact st_aug F (.inl (by kernel_rfl)) (by kernel_rfl) (ev_loc F) (op_ishr (a := a) (n := n) hn) (fun _ h => nomatch h) fun s' adv F' => st_ret F' (ev_loc F') fun v s'' adv' => k v s'' (adv.trans adv')
theorem isub_ps (a b : Int) : PS prog w (hd.heap_39 w.params) 1 20 266 [.int a, .int b] (.int (a - b)) := by
  k_dflt (refine' ps_def (D := 0) (U := 17) ["a", "b"] ?ho ?hcd ?hbind rfl ?k1 ?k2 ?k3 ?k4 ?h ?c1 ?c2 ?c3)
  walk_at "enter2"
  intro A L W hb s Q E C F k
  exact st_aug F (.inl (by kernel_rfl)) (by kernel_rfl) (ev_loc F) (op_isub (a := a) (b := b)) (fun _ h => nomatch h) fun s' adv F' => st_ret F' (ev_loc F') fun v s'' adv' => k v s'' (adv.trans adv')
theorem concat_ps (ds es : List PyData) (hz : ds.length + es.length ≤ 1000) : PS prog w (hd.heap_39 w.params) 1 20 210 [.tuple ds, .tuple es] (.tuple (ds ++ es)) := by
  k_dflt (refine' ps_def (D := 0) (U := 17) ["a", "b"] ?ho ?hcd ?hbind rfl ?k1 ?k2 ?k3 ?k4 ?h ?c1 ?c2 ?c3)
  walk_at "enter2"
  intro A L W hb s Q E C F k
  refine st_if (c := false) F (EvB.not (c := true) (EvB.val (W := W) (ev_boot F C.wl (by kernel_rfl) (by k_is) (by boot_by_name) (evs_cons (ev_loc F) (evs_cons .str evs_nil)) (op_hasattr (ds := ds))))) (fun e => nomatch e) fun _ s' g F' => ?_
  refine st_nil ?_
  exact st_ret F' (Ev.bin (ev_loc F') (ev_loc F') (op_cat F'.th hz)) fun v s'' adv' => k v s'' (g.adv.trans adv')
end
end Mine
end

section
open PySem PySem.W PySem.Calls PySem.Spec PyProof.Rows PyProof.Rows.LCg
set_option Elab.async false
set_option maxRecDepth 100000
set_option linter.unusedVariables false
namespace Mine

theorem fillit3 : (fun (_ : Params → Frag) => True) hd.heap_39 ∧ PySem.Challenge.rw_xp0030_01.prog = PySem.Challenge.rw_xp0030_01.prog := by
  k_fill
  exact ⟨trivial, rfl⟩
local macro_rules | `(tactic| walk_at "enter1") => `(tactic| (
  case ho => k_is
  case hcd => k_is
  case hbind => exact fun s => len1 fun a => BindsTo.of_eq (by kernel_rfl)
  case k1 => decide
  case k2 => decide
  case k3 => decide
  case k4 => decide
  case c1 => rfl
  case c2 => rfl
  case c3 => rfl))
local macro_rules | `(tactic| walk_at "enter2") => `(tactic| (
  case ho => k_is
  case hcd => k_is
  case hbind => exact fun s => len2 fun a b => BindsTo.of_eq (by kernel_rfl)
  case k1 => decide
  case k2 => decide
  case k3 => decide
  case k4 => decide
  case c1 => rfl
  case c2 => rfl
  case c3 => rfl))

theorem upd_ne {ρ : Ro} {x y : Str} {d : PyData} {r : Option PyData} (h : ρ y = r) (hn : (y == x) = false := by kernel_rfl) : upd ρ x d y = r := by
  have : y ≠ x := beq_eq_false_iff_ne.mp hn
  simp only [upd, this, if_false, h]
theorem upd_eq {ρ : Ro} {x : Str} {d : PyData} : upd ρ x d x = some d := by simp [upd]

section
variable {prog : Program} {w : World}
theorem countOf_ps (bs : List Bool) : PS prog w (hd.heap_39 w.params) 1 50 217 [.list (bs.map .bool), .bool true] (.int (bs.count true : Nat)) := by
  k_dflt (refine' ps_def (D := 0) (U := 47) ["a", "b"] ?ho ?hcd ?hbind rfl ?k1 ?k2 ?k3 ?k4 ?h ?c1 ?c2 ?c3)
  walk_at "enter2"
  intro A L W hb' s Q E C F k
  refine st_asg F (Ev.int (i := 0)) (.inl (by kernel_rfl)) (fun _ h => nomatch h) fun s₁ a₁ F₁ => ?_
  refine st_for (nm := ["i"]) (fun i M ρ => M = [] ∧ ρ "b" = some (.bool true) ∧ ρ "count" = some (.int ((bs.take i).count true : Nat))) (fun d ρ => upd ρ "i" d) F₁ (src_list C.hh (ev_loc F₁ (d := .list (bs.map .bool)))) ⟨rfl, by kernel_rfl, by kernel_rfl⟩
    (fun i d M ρ _ hJ => ⟨(by rw [hJ.1]; exact (fun _ h => nomatch h)), asg_loc (by kernel_rfl)⟩) ?_ ?_
  · rintro i d s M ρ Q E hdi ⟨rfl, hb, hc⟩ F k
    rw [List.getElem?_map] at hdi
    obtain ⟨b, hbi, rfl⟩ := Option.map_eq_some_iff.mp hdi
    have hi := upd_eq (ρ := ρ) (x := "i") (d := .bool b)
    have hb2 := upd_ne (x := "i") (d := .bool b) hb
    have hc2 := upd_ne (x := "i") (d := .bool b) hc
    have ht : (bs.take (i + 1)).count true = (bs.take i).count true + (if b then 1 else 0) := by
      rw [List.take_add_one, hbi, List.count_append]
      cases b <;> simp
    refine st_if (c := (b == true) || PyData.eqv (.bool b) (.bool true)) F (EvB.or2 (EvB.cmp (W := W) (ev_loc F (hr := hi)) (ev_loc F (hr := hb2)) op_isB) (EvB.cmp (W := W) (ev_loc F (hr := hi)) (ev_loc F (hr := hb2)) (op_eqv rfl rfl (by cases b <;> decide) (by have := C.un; (first | lia | omega))))) ?_ ?_
    · intro e s' g F'
      have eb : b = true := by cases b <;> first | rfl | (revert e; decide)
      subst eb
      refine st_aug F' (.inl (by kernel_rfl)) hc2 (Ev.int (i := 1)) op_iadd (fun _ h => nomatch h) fun s'' adv F'' => ?_
      refine st_nil (st_nil (k s'' [] _ (g.adv.trans adv) F'' ⟨rfl, upd_ne hb2, ?_⟩))
      rw [upd_eq, ht]
      simp
    · intro e s' g F'
      have eb : b = false := by cases b <;> first | rfl | (revert e; decide)
      subst eb
      refine st_nil (st_nil (k s' [] _ g.adv F' ⟨rfl, hb2, ?_⟩))
      rw [hc2, ht]
      simp
  · rintro s' M' ρ' adv F' ⟨rfl, hb, hc⟩
    rw [List.length_map, List.take_length] at hc
    exact st_ret F' (ev_loc F' (hr := hc)) fun v s'' adv' => k v s'' (a₁.trans (adv.trans adv'))

theorem ways_ps (ns : List Int) (hn : ∀ n ∈ ns, 0 ≤ n ∧ n ≤ 4) : PS prog w (hd.heap_39 w.params) 1 50 290 [.list (ns.map .int)] (.int (ns.foldl (fun a n => a * (3 - n)) 1)) := by
  k_dflt (refine' ps_def (D := 0) (U := 47) ["shared"] ?ho ?hcd ?hbind rfl ?k1 ?k2 ?k3 ?k4 ?h ?c1 ?c2 ?c3)
  walk_at "enter1"
  intro A L W hb' s Q E C F k
  refine st_asg F (Ev.int (i := 1)) (.inl (by kernel_rfl)) (fun _ h => nomatch h) fun s₁ a₁ F₁ => ?_
  refine st_for (nm := ["many"]) (fun i M ρ => M = [] ∧ ρ "ways" = some (.int ((ns.take i).foldl (fun a n => a * (3 - n)) 1))) (fun d ρ => upd ρ "many" d) F₁ (src_list C.hh (ev_loc F₁ (d := .list (ns.map .int)))) ⟨rfl, by kernel_rfl⟩
    (fun i d M ρ _ hJ => ⟨(by rw [hJ.1]; exact (fun _ h => nomatch h)), asg_loc (by kernel_rfl)⟩) ?_ ?_
  · rintro i d s M ρ Q E hdi ⟨rfl, hc⟩ F k
    rw [List.getElem?_map] at hdi
    obtain ⟨n, hni, rfl⟩ := Option.map_eq_some_iff.mp hdi
    have hi := upd_eq (ρ := ρ) (x := "many") (d := .int n)
    have hc2 := upd_ne (x := "many") (d := .int n) hc
    obtain ⟨n0, n3⟩ := hn n (List.mem_of_getElem? hni)
    refine st_aug F (.inl (by kernel_rfl)) hc2 (Ev.bin (Ev.int (i := 3)) (ev_loc F (hr := hi)) op_sub) (op_imul (IntMulOk.of_right (intBits_le_64 (by (first | lia | omega)) (by (first | lia | omega))))) (fun _ h => nomatch h) fun s'' adv F'' => ?_
    refine st_nil (k s'' [] _ adv F'' ⟨rfl, ?_⟩)
    rw [upd_eq, List.take_add_one, hni, List.foldl_append]
    rfl
  · rintro s' M' ρ' adv F' ⟨rfl, hc⟩
    rw [List.length_map, List.take_length] at hc
    exact st_ret F' (ev_loc F' (hr := hc)) fun v s'' adv' => k v s'' (a₁.trans (adv.trans adv'))
end
end Mine
end

section
open PySem PySem.W PySem.Calls PySem.Spec PyProof.Rows PyProof.Rows.LCg
set_option Elab.async false
set_option maxRecDepth 100000
set_option linter.unusedVariables false
namespace Mine

theorem fillit4 : (fun (_ : Params → Frag) => True) hd.heap_39 ∧ PySem.Challenge.rw_xp0030_01.prog = PySem.Challenge.rw_xp0030_01.prog := by
  k_fill
  exact ⟨trivial, rfl⟩
local macro_rules | `(tactic| walk_at "enter1") => `(tactic| (
  case ho => k_is
  case hcd => k_is
  case hbind => exact fun s => len1 fun a => BindsTo.of_eq (by kernel_rfl)
  case k1 => decide
  case k2 => decide
  case k3 => decide
  case k4 => decide
  case c1 => rfl
  case c2 => rfl
  case c3 => rfl))
local macro_rules | `(tactic| walk_at "enter2") => `(tactic| (
  case ho => k_is
  case hcd => k_is
  case hbind => exact fun s => len2 fun a b => BindsTo.of_eq (by kernel_rfl)
  case k1 => decide
  case k2 => decide
  case k3 => decide
  case k4 => decide
  case c1 => rfl
  case c2 => rfl
  case c3 => rfl))

section
variable {prog : Program} {w : World} {A : Around} {W : List Addr} {M : Mus} {hb h : Heap} {ρ : Ro} {env : Env} {K : Frag} {D U D' U' : Nat}
/-- a call of a def of the text that is a pure function -/
theorem cl {f : Str} {fp pos : Pos} {a : Addr} {e : Expr} {args : List Expr} {ds : List PyData} {d : PyData} (P : PS prog w K D U a ds d) (F : Frm hb env W M h ρ) (C : Cx K A D' U' hb)
    (x : Evs prog w A W h (backTo pos (starEach (e :: args) env)) ds)
    (hf : env.kindOf f = some .globalImplicit := by kernel_rfl) (hn : nsIn K mainGlobals f = some (some (.ref a)) := by k_is) (hk : keepIn K (.ref a) = true := by k_is) (hD : D ≤ D' := by decide) (hU : U ≤ U' := by decide)
    (hdb : (f == ("__debug__" : Str)) = false := by kernel_rfl) (he : starEach (e :: args) env = (false, eval e env) :: starEach args env := by kernel_rfl) (hp : ((backTo pos (starEach args env)).any fun x => x.1) = false := by kernel_rfl) :
    Ev prog w A W h (eval (.Call (.Name f fp) (e :: args) [] pos) env) d := ev_call F (C.mono le_rfl hD hU) hf hn hk P x hdb he hp
/-- a call of a built-in function -/
theorem bt {f : Str} {fp pos : Pos} {id : String} {e : Expr} {args : List Expr} {ds : List PyData} {d : PyData} (o : OpN prog w A W h (.builtin id) ds d) (F : Frm hb env W M h ρ) (C : Cx K A D' U' hb)
    (x : Evs prog w A W h (backTo pos (starEach (e :: args) env)) ds)
    (hf : env.kindOf f = some .globalImplicit := by kernel_rfl) (hn : nsIn K mainGlobals f = some none := by k_is) (hv : bootBuiltins f = some (.builtin id) := by boot_by_name)
    (hn' : f ≠ "__name__" := by decide +kernel) (hdb : (f == ("__debug__" : Str)) = false := by kernel_rfl) (he : starEach (e :: args) env = (false, eval e env) :: starEach args env := by kernel_rfl) (hp : ((backTo pos (starEach args env)).any fun x => x.1) = false := by kernel_rfl) :
    Ev prog w A W h (eval (.Call (.Name f fp) (e :: args) [] pos) env) d := ev_boot F C.wl hf hn hv x o hn' hdb he hp
theorem rg {f : Str} {fp pos : Pos} {e : Expr} {n : Nat} {target : Expr} (F : Frm hb env W M h ρ) (C : Cx K A D' U' hb) (hn : n ≤ 1000) (x : Ev prog w A W h (eval e env) (.int n))
    (hf : env.kindOf f = some .globalImplicit := by kernel_rfl) (hk : nsIn K mainGlobals f = some none := by k_is) (hv : bootBuiltins f = some (.type "range") := by boot_by_name)
    (hn' : f ≠ "__name__" := by decide +kernel) (hdb : (f == ("__debug__" : Str)) = false := by kernel_rfl) (he : backTo pos (starEach [e] env) = [(false, eval e env)] := by kernel_rfl) :
    Src prog w A W h target (eval (.Call (.Name f fp) [e] [] pos) env) (upTo' n) := src_range F C.wl C.hh hn hf hk hv x hn' hdb he
end

theorem acc_ne : ("accepted_values" : Str) ≠ "v" := by decide +kernel
noncomputable abbrev encP (p : Str × Str) : PyData := .tuple [.str p.1, .str p.2]
noncomputable abbrev shut (p : Str × Str) : Str × Str := if Txt.contains p.2 "[" then ("", "") else p

section
variable {prog : Program} {w : World}
theorem post_ps (ps : List (Str × Str)) (hz : ps.length ≤ 1000) : PS prog w (hd.heap_39 w.params) 1 50 28 [.list (ps.map encP)] (.list (ps.map fun p => encP (shut p))) := by
  k_dflt (refine' ps_def (D := 0) (U := 47) ["parsed_email_header_tuples"] ?ho ?hcd ?hbind rfl ?k1 ?k2 ?k3 ?k4 ?h ?c1 ?c2 ?c3)
  walk_at "enter1"
  intro A L W hb' s Q E C F k
  refine st_newList F (by kernel_rfl) fun s₁ l hl a₁ F₁ => ?_
  have lW : l ∉ W := fun hm => by obtain ⟨o, e⟩ := F.th l hm; rw [hl] at e; cases e
  refine st_for (nm := ["v"]) (fun i M ρ => M = [(("accepted_values" : Str), l, (ps.take i).map fun p => encP (shut p))]) (fun d ρ => upd ρ "v" d) F₁ (src_list C.hh (ev_loc F₁ (d := .list (ps.map encP)))) rfl
    (fun i d M ρ _ hJ => ⟨(by rw [hJ]; intro p hp q; rw [List.mem_singleton.mp hp] at q; exact acc_ne (List.mem_singleton.mp q)), asg_loc (by kernel_rfl)⟩) ?_ ?_
  · rintro i d s M ρ Q E hdi rfl F k
    rw [List.getElem?_map] at hdi
    obtain ⟨p, hpi, rfl⟩ := Option.map_eq_some_iff.mp hdi
    have hi := upd_eq (ρ := ρ) (x := "v") (d := encP p)
    have hlt : (ps.take i).length ≤ 1000 := by rw [List.length_take]; (first | lia | omega)
    have ht : (ps.take (i + 1)).map (fun p => encP (shut p)) = (ps.take i).map (fun p => encP (shut p)) ++ [encP (shut p)] := by
      rw [List.take_add_one, hpi, List.map_append]; rfl
    refine st_if (c := Txt.contains p.2 "[") F (EvB.cmp (W := l :: W) (b := .str p.2) (Ev.str (x := "[")) (Ev.sub (ev_loc F (hr := hi)) (Ev.int (i := ((1 : Nat) : Int))) (item_tuple (i := 1) rfl (by simp))) op_inS) ?_ ?_
    · intro e s' g F'
      refine st_asg F' (Ev.tup (ds := [.str "", .str ""]) F'.th (evs_cons .str (evs_cons .str evs_nil)) (by simp)) (.inl (by kernel_rfl)) (by intro p hp q; rw [List.mem_singleton.mp hp] at q; exact acc_ne q) fun s₂ a₂ F₂ => ?_
      refine st_nil (st_append F₂ (ev_loc F₂ (hr := upd_eq)) (by simpa using Nat.le_trans hlt (by (first | lia | omega))) fun s₃ a₃ F₃ => st_nil (k s₃ _ _ (g.adv.trans (a₂.trans a₃)) F₃ ?_))
      rw [ht]
      simp only [shut, e, if_true]
    · intro e s' g F'
      refine st_nil (st_append F' (ev_loc F' (hr := upd_eq)) (by simpa using Nat.le_trans hlt (by (first | lia | omega))) fun s₃ a₃ F₃ => st_nil (k s₃ _ _ (g.adv.trans a₃) F₃ ?_))
      rw [ht]
      simp only [shut, e, if_false, Bool.false_eq_true]
  · rintro s' M' ρ' adv F' rfl
    rw [List.length_map, List.take_length] at F'
    have F₂ := F'.let1 lW
    exact st_ret F₂ (ev_loc F₂ (hr := upd_eq)) fun v s'' adv' => k v s'' ((a₁.narrow hl adv).trans adv')
end
end Mine
end

section
open PySem PySem.W PySem.Calls PySem.Spec PyProof.Rows PyProof.Rows.LCg
set_option Elab.async false
set_option maxRecDepth 100000
set_option linter.unusedVariables false
namespace Mine

theorem fillit5 : (fun (_ : Params → Frag) => True) hd.heap_39 ∧ PySem.Challenge.rw_xp0030_01.prog = PySem.Challenge.rw_xp0030_01.prog := by
  k_fill
  exact ⟨trivial, rfl⟩
local macro_rules | `(tactic| walk_at "enter1") => `(tactic| (
  case ho => k_is
  case hcd => k_is
  case hbind => exact fun s => len1 fun a => BindsTo.of_eq (by kernel_rfl)
  case k1 => decide
  case k2 => decide
  case k3 => decide
  case k4 => decide
  case c1 => rfl
  case c2 => rfl
  case c3 => rfl))

/-! ## which colours are left -/
noncomputable def bitOf (b c : Nat) : Int := Builtin.bitAnd ((b : Int).fdiv (2 ^ ((c : Int)).toNat)) 1
noncomputable def pairOf (b c : Nat) : Str × Str := (Txt.mul "[" (c : Int), ("(" ++ Txt.mul "[" (bitOf b c)) ++ ")")
noncomputable def pairsOf (b : Nat) : List (Str × Str) := (List.range 3).map (pairOf b)
noncomputable def freeOf (b : Nat) : List Nat := (List.range 3).filter fun c => b / 2 ^ c % 2 == 0
noncomputable def stays (b : Nat) : PyData → Option PyData
  | .tuple [.int i, d] => if PyData.eqv d (encP (pairOf b i.toNat)) then some (.int i) else none
  | _ => none

theorem mulOk_small : ∀ n : Nat, n < 3 → MulOk "[" (n : Int)
  | 0, _ => ⟨by decide, fun h => absurd (by decide) h, fun h => absurd (by decide) h⟩
  | 1, _ => ⟨by decide, fun _ h => by revert h; decide +kernel, fun _ h => by revert h; decide +kernel⟩
  | 2, _ => ⟨by decide, fun _ _ => by decide +kernel, fun _ _ => by decide +kernel⟩
theorem bit_le : ∀ b < 8, ∀ c < 3, bitOf b c = 0 ∨ bitOf b c = 1 := by decide +kernel
theorem bit_ok (b c : Nat) (hb : b < 8) (hc : c < 3) : MulOk "[" (bitOf b c) := by
  rcases bit_le b hb c hc with h | h <;> rw [h]
  · exact mulOk_small 0 (by decide)
  · exact mulOk_small 1 (by decide)
theorem len_a (b c : Nat) (hb : b < 8) (hc : c < 3) : ("(" : Str).length + (Txt.mul "[" (bitOf b c)).length ≤ sizeLine := by
  rcases bit_le b hb c hc with h | h <;> rw [h] <;> decide +kernel
theorem len_b (b c : Nat) (hb : b < 8) (hc : c < 3) : (("(" : Str) ++ Txt.mul "[" (bitOf b c)).length + (")" : Str).length ≤ sizeLine := by
  rcases bit_le b hb c hc with h | h <;> rw [h] <;> decide +kernel
theorem lay_pair : ∀ b < 8, ∀ c < 3, (encP (pairOf b c)).canLay0 = true ∧ (encP (shut (pairOf b c))).canLay0 = true := by decide +kernel

theorem depth_enc (p : Str × Str) : (encP p).depth = 1 := rfl
noncomputable abbrev toldOf (b : Nat) : List (Str × Str) := (pairsOf b).map shut
noncomputable abbrev rows (b : Nat) : List PyData := ((toldOf b).map encP).mapIdx fun i d => .tuple [.int i, d]
theorem left_eq : ∀ b < 8, (rows b).filterMap (stays b) = (freeOf b).map fun c => .int (c : Nat) := by
  intro b hb
  match b, hb with
  | 0, _ => kernel_rfl
  | 1, _ => kernel_rfl
  | 2, _ => kernel_rfl
  | 3, _ => kernel_rfl
  | 4, _ => kernel_rfl
  | 5, _ => kernel_rfl
  | 6, _ => kernel_rfl
  | 7, _ => kernel_rfl
theorem lay_told : ∀ b < 8, PyData.canLayAll0 ((toldOf b).map encP) = true := by decide +kernel
theorem left_all : ∀ b < 8, (((freeOf b).length : Int) + (((toldOf b).map encP).countP (fun y => PyData.eqv y (.tuple [.str "", .str ""])) : Nat) == 3) = true := by decide +kernel

theorem mem_upTo {n : Nat} {d : PyData} (h : d ∈ upTo' n) : ∃ c : Nat, c < n ∧ d = .int c := by
  obtain ⟨c, hc, rfl⟩ := List.mem_map.mp h
  exact ⟨c, List.mem_range.mp hc, rfl⟩

section
variable {prog : Program} {w : World}
theorem left_ps (b : Nat) (hb : b < 8) : PS prog w (hd.heap_39 w.params) 3 100 278 [.int b] (.list ((freeOf b).map fun c => .int (c : Nat))) := by
  k_dflt (refine' ps_def (D := 2) (U := 97) ["bits"] ?ho ?hcd ?hbind rfl ?k1 ?k2 ?k3 ?k4 ?h ?c1 ?c2 ?c3)
  walk_at "enter1"
  intro A L W hb' s Q E C F k
  -- pairs
  refine st_asg (d := .list ((pairsOf b).map encP)) F ?_ (.inr (by kernel_rfl)) (fun _ h => nomatch h) fun s₁ a₁ F₁ => ?_
  · have e : (pairsOf b).map encP = (upTo' 3).filterMap (fun d => match d with | .int i => some (encP (pairOf b i.toNat)) | _ => none) := by
      rfl
    rw [e]
    refine ev_comp1 _ F (rg F C (by decide) (Ev.int (i := ((3 : Nat) : Int)))) (fun Cl cs d W' h' hd F' => ?_) (by decide)
    obtain ⟨c, hc, rfl⟩ := mem_upTo hd
    refine ⟨EvT.nil, fun y hy => ?_⟩
    cases hy
    exact Ev.tup F'.th (evs_cons (cl (imul_ps "[" _ (c : Int) (mulOk_small c hc) rfl) F' C (evs_cons .str (evs_cons (ev_loc F') evs_nil)))
      (evs_cons (Ev.bin (Ev.bin (Ev.str (x := "(")) (cl (imul_ps "[" _ (bitOf b c) (bit_ok b c hb hc) rfl) F' C (evs_cons .str (evs_cons (cl (iand_ps _ 1) F' C (evs_cons (cl (irshift_ps (b : Int) (c : Int) (by (first | lia | omega))) F' C (evs_cons (ev_cell F') (evs_cons (ev_loc F') evs_nil))) (evs_cons .int evs_nil))) evs_nil))) (op_addS (len_a b c hb hc))) .str (op_addS (len_b b c hb hc))) evs_nil)) (by simp)
  -- told
  refine st_asg (d := .list ((toldOf b).map encP)) F₁ ?_ (.inl (by kernel_rfl)) (fun _ h => nomatch h) fun s₂ a₂ F₂ => ?_
  · rw [show (toldOf b).map encP = (pairsOf b).map fun p => encP (shut p) from by simp [toldOf]]
    exact cl (post_ps (prog := prog) (w := w) (pairsOf b) (by simp [pairsOf])) F₁ C (evs_cons (ev_cell F₁) evs_nil)
  -- left
  refine st_comp2 [("colour", _), ("pair", _)] (stays b) C.hh F₂ (fun _ h => nomatch h)
    (src_enum F₂ C.wl C.hh (by kernel_rfl) (by k_is) (by boot_by_name) (ev_loc F₂ (d := .list ((toldOf b).map encP)))) (fun d hd => ?_) (fun Cl cs d W' h' hd F' => ?_) (by simp [toldOf, pairsOf]) (fun s₃ a₃ F₃ => ?_) rfl held2
  · obtain ⟨i, hi⟩ := List.mem_iff_getElem?.mp hd
    rw [List.getElem?_mapIdx] at hi
    obtain ⟨d₀, _, rfl⟩ := Option.map_eq_some_iff.mp hi
    exact ⟨_, rfl, rfl⟩
  · obtain ⟨c, hi⟩ := List.mem_iff_getElem?.mp hd
    rw [List.getElem?_mapIdx] at hi
    obtain ⟨d₀, hd₀, rfl⟩ := Option.map_eq_some_iff.mp hi
    rw [List.map_map, pairsOf, List.map_map, List.getElem?_map] at hd₀
    obtain ⟨c', hc', rfl⟩ := Option.map_eq_some_iff.mp hd₀
    have hc : c < 3 := by
      rcases Nat.lt_or_ge c 3 with q | q
      · exact q
      · rw [List.getElem?_eq_none (by simpa using q)] at hc'; cases hc'
    obtain rfl : c' = c := by
      rw [List.getElem?_range hc] at hc'
      exact (Option.some.inj hc').symm
    obtain ⟨l1, l2⟩ := lay_pair b hb c' hc
    have hs : (stays b (.tuple [.int ((c' : Nat) : Int), encP (shut (pairOf b c'))])).isSome = PyData.eqv (encP (shut (pairOf b c'))) (encP (pairOf b c')) := by
      unfold stays
      simp only [Int.toNat_natCast]
      split
      · rename_i h; rw [h]; rfl
      · rename_i h; exact (Bool.not_eq_true _ ▸ h).symm
    refine ⟨?_, fun y hy => ?_⟩
    · show EvT prog w A h' _ _ (stays b (.tuple [.int ((c' : Nat) : Int), encP (shut (pairOf b c'))])).isSome
      rw [hs]
      exact EvT.one (EvB.val (W := W') (cl (eq_ps (encP (shut (pairOf b c'))) (encP (pairOf b c')) l2 l1 (by rw [depth_enc]; exact Nat.le_trans (Nat.min_le_left ..) (by decide))) F' C
        (evs_cons (ev_loc F') (evs_cons (Ev.sub (ev_cell F' (d := .list ((pairsOf b).map encP))) (ev_loc F' (d := .int ((c' : Nat) : Int))) (item_list (i := c') (by simp [pairsOf, hc]) (by simp [pairsOf]))) evs_nil))))
    · have hy' : stays b (.tuple [.int ((c' : Nat) : Int), encP (shut (pairOf b c'))]) = some y := hy
      rw [show stays b (.tuple [.int ((c' : Nat) : Int), encP (shut (pairOf b c'))]) = if PyData.eqv (encP (shut (pairOf b c'))) (encP (pairOf b c')) then some (.int ((c' : Nat) : Int)) else none from by unfold stays; simp only [Int.toNat_natCast]] at hy'
      by_cases q : PyData.eqv (encP (shut (pairOf b c'))) (encP (pairOf b c')) = true
      · rw [if_pos q] at hy'
        cases hy'
        exact ev_loc F'
      · rw [if_neg q] at hy'; cases hy'
  -- the answer
  have hl : (rows b).filterMap (stays b) = (freeOf b).map fun c => .int (c : Nat) := left_eq b hb
  rw [hl] at F₃
  have hla : PyData.canLayAll0 ((toldOf b).map encP) = true := lay_told b hb
  refine st_ret F₃ (Ev.ite (c := (((freeOf b).length : Int) + (((toldOf b).map encP).countP (fun y => PyData.eqv y (.tuple [.str "", .str ""])) : Nat) == 3)) ?_ (fun _ => ev_loc F₃) (fun e => ?_)) fun v s' adv => k v s' (a₁.trans (a₂.trans (a₃.trans adv)))
  · refine EvB.cmp (W := W) (Ev.bin (a := .int ((freeOf b).length : Int)) (b := .int ((((toldOf b).map encP).countP (fun y => PyData.eqv y (.tuple [.str "", .str ""])) : Nat) : Int)) ?_ ?_ op_add) (Ev.int (i := 3)) op_eqI
    · rw [show ((freeOf b).length : Int) = ((((freeOf b).map fun c => PyData.int (c : Nat)).length : Nat) : Int) from by rw [List.length_map]]
      exact bt (op_lenL (by rw [List.length_map]; exact Nat.le_trans (List.length_filter_le ..) (by decide))) F₃ C (evs_cons (ev_loc F₃) evs_nil)
    · exact ev_count (tup := false) (ev_loc F₃) (Ev.tup F₃.th (evs_cons .str (evs_cons .str evs_nil)) (by simp)) hla (by decide +kernel) (by decide) (by have := C.un; (first | lia | omega))
  · rw [left_all b hb] at e; cases e
end
end Mine
end

section
open PySem PySem.W PySem.Calls PySem.Spec PyProof.Rows PyProof.Rows.LCg
set_option Elab.async false
set_option maxRecDepth 100000
set_option linter.unusedVariables false
namespace Mine

theorem fillit6 : (fun (_ : Params → Frag) => True) hd.heap_39 ∧ PySem.Challenge.rw_xp0030_01.prog = PySem.Challenge.rw_xp0030_01.prog := by
  k_fill
  exact ⟨trivial, rfl⟩
local macro_rules | `(tactic| walk_at "enter1") => `(tactic| (
  case ho => k_is
  case hcd => k_is
  case hbind => exact fun s => len1 fun a => BindsTo.of_eq (by kernel_rfl)
  case k1 => decide
  case k2 => decide
  case k3 => decide
  case k4 => decide
  case c1 => rfl
  case c2 => rfl
  case c3 => rfl))

/-! ## the paintings, plainly -/
noncomputable abbrev natsD (l : List Nat) : List PyData := l.map fun (x : Nat) => .int (x : Int)
noncomputable def usedOf (near : List Nat) : Nat := near.foldl (fun a x => a ||| 2 ^ x) 0
noncomputable def nearOf (ends : List Nat) (place : Nat) (cs : List Nat) : List Nat := ((List.range place).filter fun i => decide (place < ends.getD i 0)).map fun i => cs.getD i 0
noncomputable def newOf (near : List Nat) (p : List Nat × Nat) (c : Nat) : List Nat × Nat := (p.1 ++ [c], p.2 + near.countP fun x => decide (x < c))
noncomputable def stepOf (ends : List Nat) (place : Nat) (p : List Nat × Nat) : List (List Nat × Nat) := (freeOf (usedOf (nearOf ends place p.1))).map (newOf (nearOf ends place p.1) p)
noncomputable def painted (ends : List Nat) : Nat → List (List Nat × Nat)
  | 0 => [([], 0)]
  | n + 1 => (painted ends n).flatMap (stepOf ends n)
noncomputable abbrev enc (p : List Nat × Nat) : PyData := .tuple [.tuple (natsD p.1), .int (p.2 : Int)]

theorem free_lt {b c : Nat} (h : c ∈ freeOf b) : c < 3 := List.mem_range.mp (List.mem_filter.mp h).1
theorem free_len (b : Nat) : (freeOf b).length ≤ 3 := Nat.le_trans (List.length_filter_le ..) (by simp)
theorem painted_ok (ends : List Nat) : ∀ n, ∀ p ∈ painted ends n, p.1.length = n ∧ ∀ c ∈ p.1, c < 3
  | 0, p, hp => by
    rw [painted, List.mem_singleton] at hp
    subst hp; exact ⟨rfl, fun _ h => nomatch h⟩
  | n + 1, p, hp => by
    obtain ⟨q, hq, hp⟩ := List.mem_flatMap.mp hp
    obtain ⟨c, hc, rfl⟩ := List.mem_map.mp hp
    obtain ⟨h1, h2⟩ := painted_ok ends n q hq
    refine ⟨by simp [newOf, h1], fun x hx => ?_⟩
    rcases List.mem_append.mp hx with hx | hx
    · exact h2 x hx
    · rw [List.mem_singleton.mp hx]; exact free_lt hc
theorem flat_len {α β : Type} (f : α → List β) (k : Nat) (h : ∀ a, (f a).length ≤ k) : ∀ l : List α, (l.flatMap f).length ≤ l.length * k
  | [] => by simp
  | a :: l => by
    rw [List.flatMap_cons, List.length_append, List.length_cons, Nat.succ_mul]
    have := h a
    have := flat_len f k h l
    (first | lia | omega)
theorem painted_len (ends : List Nat) : ∀ n, (painted ends n).length ≤ 3 ^ n
  | 0 => by simp [painted]
  | n + 1 => by
    rw [painted, Nat.pow_succ]
    exact Nat.le_trans (flat_len _ 3 (fun p => by rw [stepOf, List.length_map]; exact free_len _) _) (Nat.mul_le_mul_right _ (painted_len ends n))
theorem near_lt {ends : List Nat} {place : Nat} {cs : List Nat} (hl : cs.length = place) (hc : ∀ c ∈ cs, c < 3) : ∀ x ∈ nearOf ends place cs, x < 3 := fun x hx => by
  obtain ⟨i, hi, rfl⟩ := List.mem_map.mp hx
  have hi' := List.mem_range.mp (List.mem_filter.mp hi).1
  have : cs.getD i 0 ∈ cs := by
    rw [List.getD_eq_getElem?_getD, List.getElem?_eq_getElem (by (first | lia | omega))]
    exact List.getElem_mem _
  exact hc _ this
theorem or_step : ∀ a : Nat, a < 8 → ∀ x : Nat, x < 3 → (a ||| 2 ^ x) < 8 ∧ Builtin.bitOr (a : Int) (1 * 2 ^ ((x : Nat) : Int).toNat) = ((a ||| 2 ^ x : Nat) : Int) := by decide +kernel
theorem used_lt : ∀ (l : List Nat) (a : Nat), a < 8 → (∀ x ∈ l, x < 3) → l.foldl (fun a x => a ||| 2 ^ x) a < 8
  | [], a, h, _ => h
  | x :: l, a, h, hl => used_lt l _ (or_step a h x (hl x (List.mem_cons_self ..))).1 fun y hy => hl y (List.mem_cons_of_mem _ hy)

noncomputable abbrev pickF (ends : List Nat) (place : Nat) (cs : List Nat) : PyData → Option PyData
  | .int i => if decide (place < ends.getD i.toNat 0) then some (.int ((cs.getD i.toNat 0 : Nat) : Int)) else none
  | _ => none
theorem pick_near (ends : List Nat) (place : Nat) (cs : List Nat) : (upTo' place).filterMap (pickF ends place cs) = natsD (nearOf ends place cs) := by
  unfold nearOf upTo' natsD
  generalize List.range place = l
  induction l with
  | nil => rfl
  | cons a l ih =>
    rw [List.map_cons, List.filterMap_cons, List.filter_cons, ih]
    simp only [pickF, Int.toNat_natCast]
    split <;> rename_i h
    · split at h
      · cases h
      · rename_i q; rw [if_neg q]
    · split at h
      · rename_i q
        cases h
        rw [if_pos q]; rfl
      · cases h
noncomputable abbrev ltF (c : Nat) : PyData → Option PyData
  | .int i => some (.bool (decide (i < (c : Int))))
  | _ => none
theorem lt_near (c : Nat) (near : List Nat) : (natsD near).filterMap (ltF c) = (near.map fun x => decide (x < c)).map .bool := by
  induction near with
  | nil => rfl
  | cons a l ih =>
    unfold natsD at ih ⊢
    rw [List.map_cons, List.filterMap_cons, ih]
    simp
theorem count_lt (c : Nat) (near : List Nat) : (near.map fun x => decide (x < c)).count true = near.countP fun x => decide (x < c) := by
  induction near with
  | nil => rfl
  | cons a l ih => rw [List.map_cons, List.count_cons, List.countP_cons, ih]; by_cases h : a < c <;> simp [h]
end Mine
end

section
open PySem PySem.W PySem.Calls PySem.Spec PyProof.Rows PyProof.Rows.LCg
set_option Elab.async false
set_option maxRecDepth 100000
set_option linter.unusedVariables false
namespace Mine

theorem fillit7 : (fun (_ : Params → Frag) => True) hd.heap_39 ∧ PySem.Challenge.rw_xp0030_01.prog = PySem.Challenge.rw_xp0030_01.prog := by
  k_fill
  exact ⟨trivial, rfl⟩
local macro_rules | `(tactic| walk_at "enter1") => `(tactic| (
  case ho => k_is
  case hcd => k_is
  case hbind => exact fun s => len1 fun a => BindsTo.of_eq (by kernel_rfl)
  case k1 => decide
  case k2 => decide
  case k3 => decide
  case k4 => decide
  case c1 => rfl
  case c2 => rfl
  case c3 => rfl))

noncomputable abbrev leftsF : PyData → Option PyData
  | .int i => some (.list (natsD (freeOf i.toNat)))
  | _ => none
noncomputable abbrev lefts : List PyData := (List.range 8).map fun b => .list (natsD (freeOf b))
theorem lefts_eq : (upTo' 8).filterMap leftsF = lefts := by rfl
theorem longer_ne1 : ∀ (l : Addr) (ds : List PyData), ∀ p ∈ ([(("longer" : Str), l, ds)] : Mus), p.1 ≠ "near" := fun l ds p hp q => by rw [List.mem_singleton.mp hp] at q; exact absurd q (by show ¬ (("longer" : Str) = "near"); decide +kernel)
theorem longer_ne2 : ∀ (l : Addr) (ds : List PyData), ∀ p ∈ ([(("longer" : Str), l, ds)] : Mus), p.1 ≠ "used" := fun l ds p hp q => by rw [List.mem_singleton.mp hp] at q; exact absurd q (by show ¬ (("longer" : Str) = "used"); decide +kernel)
theorem longer_ne3 : ∀ (l : Addr) (ds : List PyData), ∀ p ∈ ([(("longer" : Str), l, ds)] : Mus), p.1 ≠ "more" := fun l ds p hp q => by rw [List.mem_singleton.mp hp] at q; exact absurd q (by show ¬ (("longer" : Str) = "more"); decide +kernel)
theorem longer_nm (nm : List Str) (h : (nm.all fun x => !(("longer" : Str) == x)) = true := by decide +kernel) (l : Addr) (ds : List PyData) : ∀ p ∈ ([(("longer" : Str), l, ds)] : Mus), p.1 ∉ nm := fun p hp q => by
  rw [List.mem_singleton.mp hp] at q
  have := List.all_eq_true.mp h _ q
  simp at this
theorem getNat {l : List Nat} {i : Nat} (h : i < l.length) : l[i]? = some (l.getD i 0) := by
  rw [List.getD_eq_getElem?_getD, List.getElem?_eq_getElem h]; rfl
theorem getD_nats {l : List Nat} {i : Nat} (h : i < l.length) : (natsD l)[i]? = some (.int ((l.getD i 0 : Nat) : Int)) := by
  rw [List.getElem?_map, getNat h]; rfl

section
variable {prog : Program} {w : World}
set_option maxHeartbeats 1000000 in
theorem painted_ps (ends : List Nat) (he : ends.length ≤ 5) : PS prog w (hd.heap_39 w.params) 5 150 283 [.list (natsD ends)] (.list ((painted ends ends.length).map enc)) := by
  k_dflt (refine' ps_def (D := 4) (U := 147) ["ends"] ?ho ?hcd ?hbind rfl ?k1 ?k2 ?k3 ?k4 ?h ?c1 ?c2 ?c3)
  walk_at "enter1"
  intro A L W hb' s Q E C F k
  have hu : A.units + 20 < cLine := by have := C.un; (first | lia | omega)
  -- left
  refine st_comp1 leftsF F (fun _ h => nomatch h) (rg F C (by decide) (Ev.int (i := ((8 : Nat) : Int)))) (fun Cl cs d W' h' hdm F' => ?_) (by simp) (fun s₁ a₁ F₁ => ?_)
  · obtain ⟨b, hb, rfl⟩ := mem_upTo hdm
    refine ⟨EvT.nil, fun y hy => ?_⟩
    cases hy
    exact cl (left_ps b hb) F' C (evs_cons (ev_loc F') evs_nil)
  rw [lefts_eq] at F₁
  have H₁ : Has (Mine.upd (bindR ["ends"] [.list (natsD ends)] fun _ => none) "left" (.list lefts)) [("left", .list lefts), ("ends", .list (natsD ends))] := ⟨by kernel_rfl, by kernel_rfl, trivial⟩
  -- painted
  refine st_asg (d := .list ((painted ends 0).map enc)) F₁ ?_ (.inl (by kernel_rfl)) (fun _ h => nomatch h) fun s₂ a₂ F₂ => ?_
  · exact Ev.lst (ds := [enc ([], 0)]) F₁.th (evs_cons (Ev.tup F₁.th (evs_cons (Ev.tup F₁.th evs_nil (by simp)) (evs_cons .int evs_nil)) (by simp)) evs_nil) (by simp)
  have H₂ := H₁.upd "painted" (.list ((painted ends 0).map enc))
  -- for place
  refine st_for (nm := ["place"]) (fun i M ρ => M = [] ∧ Has ρ [("painted", .list ((painted ends i).map enc)), ("left", .list lefts), ("ends", .list (natsD ends))]) (fun d ρ => upd ρ "place" d) F₂
    (rg F₂ C (n := ends.length) (by (first | lia | omega)) (bt (op_lenN (ds := natsD ends) (by simp) (by (first | lia | omega))) F₂ C (evs_cons (ev_cell F₂) evs_nil))) ⟨rfl, H₂.cut _ (by kernel_rfl)⟩
    (fun i d M ρ _ hJ => ⟨(by rw [hJ.1]; exact (fun _ h => nomatch h)), asg_cell (by kernel_rfl) (mem_of_lookup (by kernel_rfl))⟩) ?_ ?_
  · rintro place d s M ρ Q E hdi ⟨rfl, H⟩ F k
    obtain ⟨hpl, rfl⟩ := upTo_get hdi
    have H := H.upd "place" (.int (place : Int))
    refine st_newList F (by kernel_rfl) fun s₁ l hl a₁ F₁ => ?_
    have H := H.off "longer"
    have lW : l ∉ W := fun hm => by obtain ⟨o, e⟩ := F.th l hm; rw [hl] at e; cases e
    refine st_for2 [("before", _), ("rises", _)] C.hh (fun i M ρ => M = [(("longer" : Str), l, (((painted ends place).take i).flatMap (stepOf ends place)).map enc)] ∧ Has ρ [("place", .int (place : Int)), ("left", .list lefts), ("ends", .list (natsD ends))])
      F₁ (src_list C.hh (ev_loc F₁ (hr := H.get (d := .list ((painted ends place).map enc))))) ⟨rfl, H.cut _ (by kernel_rfl)⟩ (fun d hd => ?_) rfl ?_ ?_ ?_ ?_
    · obtain ⟨p, _, rfl⟩ := List.mem_map.mp hd
      exact ⟨_, rfl, rfl⟩
    · intro x hx
      rcases List.mem_cons.mp hx with rfl | hx
      · exact .inr ⟨by kernel_rfl, mem_of_lookup (by kernel_rfl)⟩
      · rw [List.mem_singleton.mp hx]; exact .inl (by kernel_rfl)
    · rintro i M ρ ⟨rfl, _⟩
      exact longer_nm _ (by decide +kernel) _ _
    · rintro i d s M ρ Q E hdi ⟨rfl, H⟩ F k
      rw [List.getElem?_map] at hdi
      obtain ⟨p, hp, rfl⟩ := Option.map_eq_some_iff.mp hdi
      obtain ⟨hlen, h3⟩ := painted_ok ends place p (List.mem_of_getElem? hp)
      have hn3 := near_lt (ends := ends) hlen h3
      have hnl : (nearOf ends place p.1).length ≤ place := by
        rw [nearOf, List.length_map]; exact Nat.le_trans (List.length_filter_le ..) (by simp)
      generalize hnr : nearOf ends place p.1 = nr at hn3 hnl
      have H := Has.rowF F H
      -- near
      refine st_comp1 (pickF ends place p.1) F (longer_ne1 _ _) (rg F C (n := place) (by (first | lia | omega)) (ev_cell F (hr := H.get))) (fun Cl cs d W' h' hdm F' => ?_) (by simp; (first | lia | omega)) (fun s₂ a₂' F₂ => ?_)
      · obtain ⟨i, hi, rfl⟩ := mem_upTo hdm
        have Hc := Has.compF F' (H.cut [("before", .tuple (natsD p.1)), ("ends", .list (natsD ends)), ("place", .int (place : Int))] (by kernel_rfl))
        have e1 : decide ((place : Int) < ((ends.getD i 0 : Nat) : Int)) = decide (place < ends.getD i 0) := by simp only [Int.ofNat_lt]
        have e2 : (pickF ends place p.1 (.int (i : Int))).isSome = decide (place < ends.getD i 0) := by
          simp only [pickF, Int.toNat_natCast]
          by_cases q : place < ends.getD i 0
          · rw [if_pos (decide_eq_true q), decide_eq_true q]; rfl
          · rw [if_neg (by simpa using q), decide_eq_false q]; rfl
        refine ⟨?_, fun y hy => ?_⟩
        · rw [e2, ← e1]
          exact EvT.one (EvB.cmp (W := W') (Ev.sub (ev_cell F' (hr := Hc.get)) (ev_loc F' (hr := Hc.get)) (item_list (getD_nats (l := ends) (i := i) (by (first | lia | omega))) (by rw [List.length_map]; (first | lia | omega)))) (ev_cell F' (hr := Hc.get)) op_gt)
        · simp only [pickF, Int.toNat_natCast] at hy
          split at hy <;> cases hy
          exact Ev.sub (ev_cell F' (hr := Hc.get)) (ev_loc F' (hr := Hc.get)) (item_tuple (getD_nats (l := p.1) (i := i) (by (first | lia | omega))) (by rw [List.length_map]; (first | lia | omega)))
      rw [pick_near, hnr] at F₂
      have H := H.upd "near" (.list (natsD nr))
      -- used
      refine st_asg F₂ (Ev.int (i := ((0 : Nat) : Int))) (.inl (by kernel_rfl)) (longer_ne2 _ _) fun s₃ a₃ F₃ => ?_
      have H := H.upd "used" (.int ((0 : Nat) : Int))
      refine st_for (nm := ["one"]) (fun j M ρ => M = [(("longer" : Str), l, (((painted ends place).take i).flatMap (stepOf ends place)).map enc)] ∧ Has ρ [("used", .int (((nr.take j).foldl (fun a x => a ||| 2 ^ x) 0 : Nat) : Int)), ("near", .list (natsD nr)), ("before", .tuple (natsD p.1)), ("rises", .int (p.2 : Int)), ("place", .int (place : Int)), ("left", .list lefts), ("ends", .list (natsD ends))])
        (fun d ρ => upd ρ "one" d) F₃ (src_list C.hh (ev_loc F₃ (hr := H.get (d := .list (natsD nr))))) ⟨rfl, H.cut _ (by kernel_rfl)⟩ (fun j d M ρ _ hJ => ⟨(by rw [hJ.1]; exact longer_nm _ (by decide +kernel) _ _), asg_loc (by kernel_rfl)⟩) ?_ ?_
      · rintro j d s M ρ Q E hdj ⟨rfl, H⟩ F k
        rw [List.getElem?_map] at hdj
        obtain ⟨x, hx, rfl⟩ := Option.map_eq_some_iff.mp hdj
        have hx3 := hn3 x (List.mem_of_getElem? hx)
        have hu8 := used_lt (nr.take j) 0 (by decide) fun y hy => hn3 y (List.mem_of_mem_take hy)
        have ht : (nr.take (j + 1)).foldl (fun a x => a ||| 2 ^ x) 0 = (nr.take j).foldl (fun a x => a ||| 2 ^ x) 0 ||| 2 ^ x := by
          rw [List.take_add_one, hx, List.foldl_append]; rfl
        generalize (nr.take j).foldl (fun a x => a ||| 2 ^ x) 0 = u at H hu8 ht
        have H := H.upd "one" (.int (x : Int))
        refine st_asg F (cl (ior_ps (u : Int) (1 * 2 ^ ((x : Nat) : Int).toNat)) F C (evs_cons (ev_loc F (hr := H.get)) (evs_cons (cl (ilshift_ps 1 (x : Int) (by (first | lia | omega)) (by (first | lia | omega)) (by decide)) F C (evs_cons .int (evs_cons (ev_loc F (hr := H.get)) evs_nil))) evs_nil))) (.inl (by kernel_rfl)) (longer_ne2 _ _) fun s₄ a₄ F₄ => ?_
        have H := H.upd "used" (.int (Builtin.bitOr (u : Int) (1 * 2 ^ ((x : Nat) : Int).toNat)))
        refine st_nil (k s₄ _ _ a₄ F₄ ⟨rfl, ?_⟩)
        rw [ht, ← (or_step u hu8 x hx3).2]
        exact H.cut _ (by kernel_rfl)
      rintro s₄ M₄ ρ₄ a₄ F₄ ⟨rfl, H⟩
      rw [List.length_map, List.take_length] at H
      have hu8 := used_lt nr 0 (by decide) hn3
      have hst : stepOf ends place p = (freeOf (usedOf nr)).map (newOf nr p) := by unfold stepOf; rw [hnr]
      change Has ρ₄ (("used", .int ((usedOf nr : Nat) : Int)) :: _) at H
      change usedOf nr < 8 at hu8
      generalize usedOf nr = u at H hu8 hst
      -- colours
      refine st_for (nm := ["colour"]) (fun j M ρ => M = [(("longer" : Str), l, (((painted ends place).take i).flatMap (stepOf ends place)).map enc ++ (((freeOf u).take j).map (newOf nr p)).map enc)] ∧ Has ρ [("near", .list (natsD nr)), ("before", .tuple (natsD p.1)), ("rises", .int (p.2 : Int)), ("place", .int (place : Int)), ("left", .list lefts), ("ends", .list (natsD ends))])
        (fun d ρ => upd ρ "colour" d) F₄ (src_list C.hh (Ev.sub (ev_loc F₄ (hr := H.get (d := .list lefts))) (ev_loc F₄ (hr := H.get (d := .int ((u : Nat) : Int)))) (item_list (i := u) (d := .list (natsD (freeOf u))) (by simp [lefts, hu8]) (by simp [lefts])))) ⟨by simp, H.cut _ (by kernel_rfl)⟩
        (fun j d M ρ _ hJ => ⟨(by rw [hJ.1]; exact longer_nm _ (by decide +kernel) _ _), asg_cell (by kernel_rfl) (mem_of_lookup (by kernel_rfl))⟩) ?_ ?_
      · rintro j d s M ρ Q E hdj ⟨rfl, H⟩ F k
        rw [List.getElem?_map] at hdj
        obtain ⟨c, hc, rfl⟩ := Option.map_eq_some_iff.mp hdj
        have H := H.upd "colour" (.int (c : Int))
        refine st_asg F (cl (countOf_ps (nr.map fun x => decide (x < c))) F C (evs_cons (by
          rw [← lt_near]
          refine ev_comp1 (ltF c) F (src_list C.hh (ev_loc F (hr := H.get))) (fun Cl cs d W' h' hdm F' => ?_) (by rw [List.length_map]; (first | lia | omega))
          obtain ⟨x, hx, rfl⟩ := List.mem_map.mp hdm
          have Hc := Has.compF F' (H.cut [("colour", .int (c : Int))] (by kernel_rfl))
          refine ⟨EvT.nil, fun y hy => ?_⟩
          cases hy
          exact cl (lt_ps (x : Int) (c : Int)) F' C (evs_cons (ev_loc F' (hr := Hc.get)) (evs_cons (ev_cell F' (hr := Hc.get)) evs_nil))) (evs_cons .bool evs_nil))) (.inl (by kernel_rfl)) (longer_ne3 _ _) fun s₅ a₅ F₅ => ?_
        have H := H.upd "more" (.int (((nr.map fun x => decide (x < c)).count true : Nat) : Int))
        have hz : ((((painted ends place).take i).flatMap (stepOf ends place)).map enc ++ (((freeOf u).take j).map (newOf nr p)).map enc).length ≤ 1000000 := by
          have h1 := flat_len (stepOf ends place) 3 (fun p => by rw [stepOf, List.length_map]; exact free_len _) ((painted ends place).take i)
          have h2 : ((painted ends place).take i).length ≤ (painted ends place).length := by rw [List.length_take]; exact Nat.min_le_right _ _
          have h3 := painted_len ends place
          have h4 : 3 ^ place ≤ 3 ^ 5 := Nat.pow_le_pow_right (by decide) (by (first | lia | omega))
          have h5 : ((freeOf u).take j).length ≤ (freeOf u).length := by rw [List.length_take]; exact Nat.min_le_right _ _
          have h6 := free_len u
          have h7 : 3 ^ 5 = 243 := by decide
          rw [List.length_append, List.length_map, List.length_map, List.length_map]
          (first | lia | omega)
        refine st_append F₅ (Ev.tup F₅.th (evs_cons (cl (concat_ps (natsD p.1) [.int (c : Int)] (by simp; (first | lia | omega))) F₅ C (evs_cons (ev_cell F₅ (hr := H.get)) (evs_cons (Ev.tup F₅.th (evs_cons (ev_cell F₅ (hr := H.get)) evs_nil) (by simp)) evs_nil)))
          (evs_cons (cl (iadd_ps (p.2 : Int) (((nr.map fun x => decide (x < c)).count true : Nat) : Int)) F₅ C (evs_cons (ev_loc F₅ (hr := H.get)) (evs_cons (ev_loc F₅ (hr := H.get)) evs_nil))) evs_nil)) (by simp)) hz fun s₆ a₆ F₆ => ?_
        refine st_nil (k s₆ _ _ (a₅.trans a₆) F₆ ⟨?_, H.cut _ (by kernel_rfl)⟩)
        rw [List.take_add_one, hc]
        simp only [Option.toList_some, List.map_append, List.map_cons, List.map_nil, newOf, enc, natsD, count_lt, List.append_assoc, Int.natCast_add]
      rintro s₆ M₆ ρ₆ a₆ F₆ ⟨rfl, H⟩
      rw [List.length_map, List.take_length] at F₆
      refine st_nil (k s₆ _ _ (a₂'.trans (a₃.trans (a₄.trans a₆))) F₆ ⟨?_, H.cut _ (by kernel_rfl)⟩)
      rw [List.take_add_one, hp, List.flatMap_append, List.map_append, Option.toList_some, List.flatMap_cons, List.flatMap_nil, List.append_nil, hst]
    · rintro s' M' ρ' adv F' ⟨rfl, H⟩
      rw [List.length_map, List.take_length] at F'
      have F₂ := F'.let1 lW
      have H := H.upd "longer" (.list ((painted ends (place + 1)).map enc))
      refine st_asg F₂ (ev_loc F₂ (hr := H.get (d := .list ((painted ends (place + 1)).map enc)))) (.inl (by kernel_rfl)) (fun _ h => nomatch h) fun s₃ a₃ F₃ => ?_
      have H := H.upd "painted" (.list ((painted ends (place + 1)).map enc))
      exact st_nil (k s₃ [] _ ((a₁.narrow hl adv).trans a₃) F₃ ⟨rfl, H.cut _ (by kernel_rfl)⟩)
  · rintro s' M' ρ' adv F' ⟨rfl, H⟩
    rw [List.length_map, List.length_range] at H
    exact st_ret F' (ev_loc F' (hr := H.get)) fun v s'' adv' => k v s'' (a₁.trans (a₂.trans (adv.trans adv')))
end
end Mine
end

section
open PySem PySem.W PySem.Calls PySem.Spec PyProof.Rows PyProof.Rows.LCg
set_option Elab.async false
set_option maxRecDepth 100000
set_option maxHeartbeats 2000000
set_option linter.unusedVariables false
namespace Mine
theorem fillitc1 : (fun (_ : Params → Frag) => True) hd.heap_39 ∧ PySem.Challenge.rw_xp0030_01.prog = PySem.Challenge.rw_xp0030_01.prog := by
  k_fill
  exact ⟨trivial, rfl⟩
noncomputable abbrev accObj (dx : Addr) (vs : Array Value) (n : Nat) : Obj := { cls := .ref 185, dict := some dx, data := .seq vs n }

theorem slot_list_ga : Slot "list" "__getattribute__" "list.__getattribute__" := .of (owner := "list") (n := "__getattribute__") (by rw [typeLookup_type, builtinLookup_eq_fast]; kernel_rfl) (by decide +kernel) (by decide +kernel) (by decide +kernel)
    (by first | exact .inl (by decide +kernel) | exact .inr (by decide +kernel)) (by rw [isSubtype_type]; kernel_rfl)
theorem entry_list_ga : entryFor table "list.__getattribute__" = some Builtin.«object.__getattribute__» :=
  entryFor_alias (id' := "object.__getattribute__") (by kernel_rfl) (by first | rfl | decide +kernel) (by decide +kernel) (by kernel_rfl)
theorem args_list_ga (a b : Value) : argsOk "list.__getattribute__" ⟨[a, b], []⟩ := by unfold argsOk; kernel_rfl

section
variable {prog : Program} {w : World} {A : Around} {E : Value → Shared → Prop} {h : Heap} {g : Array GenState} {d : Drawn} {t : Nat} {os : OsState} {x dx : Addr} {vs : Array Value} {n : Nat} {m : Str → Option Value}

theorem looks_ns {M : Model} {a : Addr} {r : Option Value} (name : Str) (hn : h.Ns a m) (e : m name = r) : Looks M h (nsGet a name) r := fun A Q E s k q => by
  subst e
  intro Γ p _
  rw [Sem.wp_nsGet (hn := hn.keeps k)]
  exact q
theorem acc_entry {name : Str} {tk : Tok} {v : Value} {Q : Fin → Shared → Prop} (X : (hd.heap_39 w.params).In h) (hx : h.get? x = some (accObj dx vs n)) (hN : Looks (model prog w) h (nsGet dx name) (some v)) (hf : findIn (hd.heap_39 w.params) (.ref 185) name = some none) (hq : Q (.done (.ret v)) ⟨h, g, d, t, os⟩) :
    wpAny (model prog w) A (Builtin.«object.__getattribute__» ⟨[.ref x, .str name tk], []⟩) Q E ⟨h, g, d, t, os⟩ := by
  have L1 : Looks (model prog w) h (typeLookup (.ref 185) name) none := looks_findIn X hf
  have hT : Looks (model prog w) h (typeOf (.ref x)) (.ref 185) := (Looks.ld hx).andThen .now
  have hC := X 185 _ (by k_is)
  repeat (any_goals (first | assumption | with_reducible refine Looks.at (by assumption) ?_ | with_reducible refine wpAny_onRaise ?_ | wp_step))
theorem acc_getBy {name : Str} {v : Value} {ex : Bool} {Q : Value → Shared → Prop} (X : (hd.heap_39 w.params).In h) (hx : h.get? x = some (accObj dx vs n)) (hN : Looks (model prog w) h (nsGet dx name) (some v)) (hf : findIn (hd.heap_39 w.params) (.ref 185) name = some none) (hh : handedIn v = true) (hq : Q v ⟨h, g, d, t + 1, os⟩) :
    wpAny (model prog w) A (getAttr (.ref x) name ex) Q E ⟨h, g, d, t, os⟩ := by
  have L1 : Looks (model prog w) h (typeLookup (.ref 185) "__getattribute__") (some (.builtin "list.__getattribute__")) := looks_findIn X (by k_is)
  have L2 : Looks (model prog w) h (typeLookup (.ref 185) "__getattr__") none := looks_findIn X (by k_is)
  have L3 : Looks (model prog w) h (isSubtype (.ref 185) (.type "list")) true := looks_subIn X (by k_is)
  have hT : Looks (model prog w) h (typeOf (.ref x)) (.ref 185) := (Looks.ld hx).andThen .now
  have hI : Looks (model prog w) h (isInstance (.ref x) (.type "list")) true := hT.andThen L3
  have f3 := slot_list_ga.bind (.ref x)
  have key : ∀ tk R, R (.ok (.ret v)) ⟨h, g, d, t + 1, os⟩ → codeAny (model prog w) A (.call (.builtin "list.__getattribute__") ⟨[.ref x, .str name tk], []⟩) R ⟨h, g, d, t + 1, os⟩ := fun tk R hr => by
    refine codeAny_call_builtin slot_list_ga.plain entry_list_ga (@check_slot (model prog w) _ _ ⟨h, g, d, t + 1, os⟩ "list.__getattribute__" "list" "__getattribute__" (.ref x) [.str name tk] [] _ (by decide +kernel) (by decide +kernel) hI (args_list_ga _ _) ?_)
    exact acc_entry X hx hN hf hr
  repeat (any_goals (first | assumption | with_reducible refine Looks.at (by assumption) ?_ | with_reducible refine wpAny_onRaise ?_ | wp_step))
  rw [show (ex && onTheHeap (Value.builtin "list.__getattribute__")) = false from Bool.and_false _, if_neg (by decide)]
  repeat (any_goals (first | assumption | with_reducible refine Looks.at (by assumption) ?_ | with_reducible refine wpAny_onRaise ?_ | wp_step))
  refine key _ _ ?_
  show wpAny _ _ (handedOut v) _ _ _
  rw [handedOut_of hh]
  exact wpAny_pure hq

noncomputable abbrev wrObj (dz : Addr) : Obj := { cls := .ref 101, dict := some dz, data := .plain }
theorem entry_hooked : entryFor table "proto.getattr_hooked" = some Builtin.«proto.getattr_hooked» := entryFor_of_tree (by kernel_rfl)
theorem wr_getBy {dz : Addr} {name : Str} {v : Value} {ex : Bool} {Q : Value → Shared → Prop} (X : (hd.heap_39 w.params).In h) (hx : h.get? x = some (wrObj dz)) (hN : Looks (model prog w) h (nsGet dz name) (some v)) (hf : findIn (hd.heap_39 w.params) (.ref 101) name = some none) (hh : handedIn v = true) (hq : Q v ⟨h, g, d, t + 1, os⟩) :
    wpAny (model prog w) A (getAttr (.ref x) name ex) Q E ⟨h, g, d, t, os⟩ := by
  have L1 : Looks (model prog w) h (typeLookup (.ref 101) "__getattribute__") (some (.builtin "object.__getattribute__")) := looks_findIn X (by k_is)
  have L2 : Looks (model prog w) h (typeLookup (.ref 101) name) none := looks_findIn X hf
  have L3 : Looks (model prog w) h (typeLookup (.ref 101) "__getattr__") none := looks_findIn X (by k_is)
  have hT : Looks (model prog w) h (typeOf (.ref x)) (.ref 101) := (Looks.ld hx).andThen .now
  have hC := X 101 _ (by k_is)
  repeat (any_goals (first | assumption | with_reducible refine Looks.at (by assumption) ?_ | with_reducible refine wpAny_onRaise ?_ | wp_step))
  refine codeAny_builtin entry_hooked ?_
  repeat (any_goals (first | assumption | with_reducible refine Looks.at (by assumption) ?_ | with_reducible refine wpAny_onRaise ?_ | wp_step))
  show wpAny _ _ (handedOut v) _ _ _
  rw [handedOut_of hh]
  exact wpAny_pure hq
theorem acc_method {name : Str} {f : Addr} {pl : Sem Bool} {Q : Value × List Value → Shared → Prop} (X : (hd.heap_39 w.params).In h) (hx : h.get? x = some (accObj dx vs n)) (hN : Looks (model prog w) h (nsGet dx name) none) (hf : findIn (hd.heap_39 w.params) (.ref 185) name = some (some (.ref f))) (ht : typeIn (hd.heap_39 w.params) (.ref f) = some (.type "function"))
    (hq : Q (.ref f, [.ref x]) ⟨h, g, d, t, os⟩) : wpAny (model prog w) A (getMethod (.ref x) name pl) Q E ⟨h, g, d, t, os⟩ := by
  have L1 : Looks (model prog w) h (typeLookup (.ref 185) "__getattribute__") (some (.builtin "list.__getattribute__")) := looks_findIn X (by k_is)
  have L2 : Looks (model prog w) h (typeLookup (.ref 185) "__getattr__") none := looks_findIn X (by k_is)
  have L3 : Looks (model prog w) h (typeLookup (.ref 185) name) (some (.ref f)) := looks_findIn X hf
  have L4 : Looks (model prog w) h (typeOf (.ref f)) (.type "function") := looks_typeIn X ht
  have hT : Looks (model prog w) h (typeOf (.ref x)) (.ref 185) := (Looks.ld hx).andThen .now
  have hc : (Manifest.canonical "list.__getattribute__" != "object.__getattribute__") = false := by decide +kernel
  repeat (any_goals (first | assumption | with_reducible refine Looks.at (by assumption) ?_ | with_reducible refine wpAny_onRaise ?_ | wp_step))
theorem wr_method {dz : Addr} {name : Str} {f : Addr} {pl : Sem Bool} {Q : Value × List Value → Shared → Prop} (X : (hd.heap_39 w.params).In h) (hx : h.get? x = some (wrObj dz)) (hN : Looks (model prog w) h (nsGet dz name) none) (hf : findIn (hd.heap_39 w.params) (.ref 101) name = some (some (.ref f))) (ht : typeIn (hd.heap_39 w.params) (.ref f) = some (.type "function"))
    (hq : Q (.ref f, [.ref x]) ⟨h, g, d, t, os⟩) : wpAny (model prog w) A (getMethod (.ref x) name pl) Q E ⟨h, g, d, t, os⟩ := by
  have L1 : Looks (model prog w) h (typeLookup (.ref 101) "__getattribute__") (some (.builtin "object.__getattribute__")) := looks_findIn X (by k_is)
  have L2 : Looks (model prog w) h (typeLookup (.ref 101) "__getattr__") none := looks_findIn X (by k_is)
  have L3 : Looks (model prog w) h (typeLookup (.ref 101) name) (some (.ref f)) := looks_findIn X hf
  have L4 : Looks (model prog w) h (typeOf (.ref f)) (.type "function") := looks_typeIn X ht
  have hT : Looks (model prog w) h (typeOf (.ref x)) (.ref 101) := (Looks.ld hx).andThen .now
  have hc : (Manifest.canonical "object.__getattribute__" != "object.__getattribute__") = false := by decide +kernel
  repeat (any_goals (first | assumption | with_reducible refine Looks.at (by assumption) ?_ | with_reducible refine wpAny_onRaise ?_ | wp_step))
/-- the look-up of list's own append -/
theorem acc_builtin {name : Str} {id : String} {pl : Sem Bool} {Q : Value × List Value → Shared → Prop} (X : (hd.heap_39 w.params).In h) (hx : h.get? x = some (accObj dx vs n)) (hN : Looks (model prog w) h (nsGet dx name) none) (hf : findIn (hd.heap_39 w.params) (.ref 185) name = some (some (.builtin id))) (ht : typeIn (hd.heap_39 w.params) (.builtin id) = some (.type "method_descriptor"))
    (hq : Q (.builtin id, [.ref x]) ⟨h, g, d, t, os⟩) : wpAny (model prog w) A (getMethod (.ref x) name pl) Q E ⟨h, g, d, t, os⟩ := by
  have L1 : Looks (model prog w) h (typeLookup (.ref 185) "__getattribute__") (some (.builtin "list.__getattribute__")) := looks_findIn X (by k_is)
  have L2 : Looks (model prog w) h (typeLookup (.ref 185) "__getattr__") none := looks_findIn X (by k_is)
  have L3 : Looks (model prog w) h (typeLookup (.ref 185) name) (some (.builtin id)) := looks_findIn X hf
  have L4 : Looks (model prog w) h (typeOf (.builtin id)) (.type "method_descriptor") := looks_typeIn X ht
  have hT : Looks (model prog w) h (typeOf (.ref x)) (.ref 185) := (Looks.ld hx).andThen .now
  have hc : (Manifest.canonical "list.__getattribute__" != "object.__getattribute__") = false := by decide +kernel
  repeat (any_goals (first | assumption | with_reducible refine Looks.at (by assumption) ?_ | with_reducible refine wpAny_onRaise ?_ | wp_step))
end
end Mine
end

section
open PySem PySem.W PySem.Calls PySem.Spec PyProof.Rows PyProof.Rows.LCg
set_option Elab.async false
set_option maxRecDepth 100000
set_option maxHeartbeats 2000000
set_option linter.unusedVariables false
namespace Mine
theorem fillitc2 : (fun (_ : Params → Frag) => True) hd.heap_39 ∧ PySem.Challenge.rw_xp0030_01.prog = PySem.Challenge.rw_xp0030_01.prog := by
  k_fill
  exact ⟨trivial, rfl⟩
section
variable {prog : Program} {w : World} {A : Around} {E : Value → Shared → Prop} {h : Heap} {g : Array GenState} {d : Drawn} {t : Nat} {os : OsState} {x dx : Addr} {vs : Array Value} {n : Nat} {m : Str → Option Value}

theorem check_method {M : Model} {s : Shared} {i owner n : String} {self : Value} {rest : List Value} {kw : List (Str × Value)} {Q : Unit → Shared → Prop}
    (hk : builtinKind i = some .method) (hs : splitId i = some (owner, n)) (hi : Looks M s.heap (isInstance self (.type owner)) true) (ha : argsOk i ⟨self :: rest, kw⟩) (q : Q () s) :
    wpAny M A (checkBuiltinCall i ⟨self :: rest, kw⟩) Q E s := by
  simp only [checkBuiltinCall, hk, hs]
  refine wpAny_bind (hi.here ?_)
  simp only [Bool.not_true, Bool.false_eq_true, if_false]
  cases hsig : Manifest.signature? i with
  | none => exact wpAny_pure q
  | some sig =>
    simp only [argsOk, hsig] at ha
    have h2 : Bind.checkArgs i sig ⟨self :: rest, kw⟩ = pure () := ha
    show wpAny M A (Bind.checkArgs i sig ⟨self :: rest, kw⟩) Q E s
    rw [h2]; exact wpAny_pure q
theorem acc_is (X : (hd.heap_39 w.params).In h) (hx : h.get? x = some (accObj dx vs n)) : Looks (model prog w) h (isInstance (.ref x) (.type "list")) true := by
  have L3 : Looks (model prog w) h (isSubtype (.ref 185) (.type "list")) true := looks_subIn X (by k_is)
  have hT : Looks (model prog w) h (typeOf (.ref x)) (.ref 185) := (Looks.ld hx).andThen .now
  exact hT.andThen L3

theorem acc_map (f : Array Value → Array Value) : ∃ n', Obj.mapSeq f (accObj dx vs n) = accObj dx (f vs) n' := by
  unfold Obj.mapSeq
  exact ⟨_, rfl⟩
theorem acc_upd (f : Array Value → Array Value) (hx : h.get? x = some (accObj dx vs n)) : ∃ n', (h.update x (Obj.mapSeq f)).get? x = some (accObj dx (f vs) n') := by
  obtain ⟨n', e⟩ := acc_map (dx := dx) (vs := vs) (n := n) f
  exact ⟨n', by rw [Heap.get?_update_self _ hx (by rw [e]; rfl), e]⟩
theorem acc_append_call {v : Value} {Q : Value → Shared → Prop} (X : (hd.heap_39 w.params).In h) (hx : h.get? x = some (accObj dx vs n)) (hz : vs.size ≤ 1000)
    (hq : ∀ h' n', h'.get? x = some (accObj dx (vs.push v) n') → Heap.SameBut x h h' → Q .none ⟨h', g, d, t, os⟩) :
    wpAny (model prog w) A (PySem.call (.builtin "list.append") [.ref x, v]) Q E ⟨h, g, d, t, os⟩ := by
  refine wpAny_call (codeAny_call_builtin (by decide +kernel) entry_list_append (check_method (n := "append") (owner := "list") (by decide +kernel) (by decide +kernel) (acc_is X hx) (args_list_append _ _) ?_))
  show wpAny _ _ (updateSeq x (·.push v) >>= fun _ => ret .none) _ _ _
  refine wpAny_bind ?_
  refine wpAny_updateSeq (s := ⟨h, g, d, t, os⟩) hx rfl (wpAny_pure ?_) (by rw [sizeLine_eq]; (first | lia | omega)) (by rw [Array.size_push, sizeLine_eq]; (first | lia | omega))
  obtain ⟨n', e⟩ := acc_upd (·.push v) hx
  exact hq _ n' e (Heap.SameBut.update ..)
theorem acc_len_call {Q : Value → Shared → Prop} (X : (hd.heap_39 w.params).In h) (hx : h.get? x = some (accObj dx vs n)) (hz : vs.size ≤ 1000)
    (hq : Q (.int vs.size t) ⟨h, g, d, t + 1, os⟩) :
    wpAny (model prog w) A (PySem.call (.builtin "list.__len__") [.ref x]) Q E ⟨h, g, d, t, os⟩ := by
  refine wpAny_call (codeAny_call_builtin (by decide +kernel) entry_list_len (check_slot (n := "__len__") (owner := "list") (by decide +kernel) (by decide +kernel) (acc_is X hx) (args_list_len _) ?_))
  repeat (any_goals (first | assumption | with_reducible refine Looks.at (by assumption) ?_ | with_reducible refine wpAny_onRaise ?_ | wp_step))
theorem erase_last (vs : Array Value) (v : Value) : (vs.push v).eraseIdxIfInBounds vs.size = vs := by
  apply Array.toList_inj.mp
  simp [List.eraseIdx_append]
theorem acc_pop_call {v : Value} {Q : Value → Shared → Prop} (X : (hd.heap_39 w.params).In h) (hx : h.get? x = some (accObj dx (vs.push v) n)) (hz : vs.size ≤ 1000)
    (hq : ∀ h' n', h'.get? x = some (accObj dx vs n') → Heap.SameBut x h h' → Q v ⟨h', g, d, t, os⟩) :
    wpAny (model prog w) A (PySem.call (.builtin "list.pop") [.ref x]) Q E ⟨h, g, d, t, os⟩ := by
  refine wpAny_call (codeAny_call_builtin (by decide +kernel) PySem.F.entry_list_pop (check_method (n := "pop") (owner := "list") (by decide +kernel) (by decide +kernel) (acc_is X hx) (PySem.F.args_list_pop_1 _) ?_))
  have e1 : (vs.push v).isEmpty = false := by simp
  have e2 : (seqIndex? (-1) (vs.push v).size).bind (fun k => ((vs.push v)[k]?).map fun y => (k, y)) = some (vs.size, v) := by
    have : seqIndex? (-1) (vs.push v).size = some vs.size := by
      unfold seqIndex?
      simp
      (first | lia | omega)
    rw [this]; simp
  repeat (any_goals (first | assumption | with_reducible refine Looks.at (by assumption) ?_ | with_reducible refine wpAny_onRaise ?_ | wp_step))
  rw [e2]
  dsimp only
  refine wpAny_bind ?_
  show wpAny _ _ (updateSeq x (fun y => y.eraseIdxIfInBounds vs.size)) _ _ _
  refine wpAny_updateSeq (s := ⟨h, g, d, t, os⟩) hx rfl ?_ (by rw [Array.size_push, sizeLine_eq]; (first | lia | omega)) (by rw [erase_last, sizeLine_eq]; (first | lia | omega))
  obtain ⟨n', e⟩ := acc_upd (fun y => y.eraseIdxIfInBounds vs.size) hx
  rw [erase_last] at e
  exact wpAny_pure (hq _ n' e (Heap.SameBut.update ..))

noncomputable abbrev Back (Q : Value → Shared → Prop) (E : Value → Shared → Prop) (r : Result) (s' : Shared) : Prop := match r with | .ok (.ret v) => Q v s' | .ok _ => False | .error e => E e s'
theorem acc_getItem {i : Value} {Q : Value → Shared → Prop} (X : (hd.heap_39 w.params).In h) (hx : h.get? x = some (accObj dx vs n))
    (hc : codeAny (model prog w) A (.call (.builtin "list.__getitem__") ⟨[.ref x, i], []⟩) (Back Q E) ⟨h, g, d, t, os⟩) : wpAny (model prog w) A (getItem (.ref x) i) Q E ⟨h, g, d, t, os⟩ := by
  have L1 : Looks (model prog w) h (typeLookup (.ref 185) "__getitem__") (some (.builtin "list.__getitem__")) := looks_findIn X (by k_is)
  have hT : Looks (model prog w) h (typeOf (.ref x)) (.ref 185) := (Looks.ld hx).andThen .now
  have L5 : Looks (model prog w) h (isSubtype (.ref 185) (.type "collections.deque")) false := looks_subIn X (by k_is)
  have f3 := slot_list_getitem.bind (.ref x)
  repeat (any_goals (first | assumption | with_reducible refine Looks.at (by assumption) ?_ | with_reducible refine wpAny_onRaise ?_ | wp_step))
  refine codeAny_mono hc fun r s' z => ?_
  rcases r with e | (_ | _ | _ | v) <;> first | exact z | exact z.elim | exact wpAny_pure (wpAny_pure z)
theorem acc_gi {i : Value} {R : Result → Shared → Prop} (X : (hd.heap_39 w.params).In h) (hx : h.get? x = some (accObj dx vs n))
    (hb : wpAny (model prog w) A.in1 (Builtin.«list.__getitem__» ⟨[.ref x, i], []⟩) (fun fin s' => match fin with | .done f => R (.ok f) s' | .again c' => c'.quiet = true ∧ codeAny (model prog w) A c' R s') (fun e s' => R (.error e) s') ⟨h, g, d, t, os⟩) :
    codeAny (model prog w) A (.call (.builtin "list.__getitem__") ⟨[.ref x, i], []⟩) R ⟨h, g, d, t, os⟩ :=
  codeAny_call_builtin (by decide +kernel) entry_list_getitem (check_method (n := "__getitem__") (owner := "list") (by decide +kernel) (by decide +kernel) (acc_is X hx) (args_list_getitem _ _) hb)
theorem acc_getItem_int {k : Int} {v : Value} {tk : Tok} {Q : Value → Shared → Prop} (X : (hd.heap_39 w.params).In h) (hx : h.get? x = some (accObj dx vs n)) (h0 : 0 ≤ k) (hfit : k < 2 ^ 63) (hv : vs[k.toNat]? = some v)
    (hq : Q v ⟨h, g, d, t, os⟩) : wpAny (model prog w) A (getItem (.ref x) (.int k tk)) Q E ⟨h, g, d, t, os⟩ := by
  refine acc_getItem X hx (acc_gi X hx ?_)
  show wpAny _ _ (Builtin.List.listSubscript? (.int k tk) >>= _) _ _ _
  refine wpAny_bind (wpAny_listSubscript_int (fitsIndex_of h0 hfit) ?_)
  clear hfit
  obtain ⟨j, rfl⟩ := Int.eq_ofNat_of_zero_le h0
  have hx' : vs[j]? = some v := hv
  show wpAny _ _ ((seqItemAt x j >>= fun r => pure (r.map (j, ·))) >>= _) _ _ _
  refine wpAny_bind (wpAny_bind (wpAny_seqItemAt hx rfl (wpAny_pure ?_)))
  rw [hx']
  exact wpAny_pure hq

/-- what a slice of an accumulator's items needs to know of the slice -/
theorem slice_parts {M : Model} {sl : Addr} {vl vu : Value} {lo hi : Option Int} {s : Shared} {Q : Value × Value × Value → Shared → Prop} (hs : s.heap.IsSliceOf sl vl vu .none) (pl : IsPart vl lo) (pu : IsPart vu hi)
    (hq : Q (rawPart lo, rawPart hi, rawPart none) s) : wpAny M A (Builtin.List.listSliceParts (.ref sl)) Q E s := by
  obtain ⟨os, hos, hcs, hds⟩ := hs
  rw [listSliceParts_eq]
  refine wpAny_bind (wpAny_field hos hds (x := .none) rfl (wpAny_bind (wpAny_listPart .none ?_)))
  rw [if_neg (by exact Bool.false_ne_true)]
  refine wpAny_bind (wpAny_field hos hds (x := vl) rfl (wpAny_bind (wpAny_listPart pl ?_)))
  exact wpAny_bind (wpAny_field hos hds (x := vu) rfl (wpAny_bind (wpAny_listPart pu (wpAny_pure hq))))
theorem acc_getItem_slice {sl : Addr} {vl vu : Value} {lo hi : Option Int} {Q : Value → Shared → Prop} (X : (hd.heap_39 w.params).In h) (hx : h.get? x = some (accObj dx vs n)) (hz : vs.size ≤ 1000) (hs : h.IsSliceOf sl vl vu .none) (pl : IsPart vl lo) (pu : IsPart vu hi)
    (hq : Q (.ref h.objs.size) ⟨h.push { cls := .type "list", data := .seq (slicePick vs lo hi none) }, g, d, t, os⟩) : wpAny (model prog w) A (getItem (.ref x) (.ref sl)) Q E ⟨h, g, d, t, os⟩ := by
  have hTs : (⟨h, g, d, t, os⟩ : Shared).TypeIs (.ref sl) "slice" := let ⟨os, a, b, _⟩ := hs; ⟨os, a, b⟩
  refine acc_getItem X hx ?_
  refine codeAny_call_builtin (by decide +kernel) entry_list_getitem (check_method (n := "__getitem__") (owner := "list") (by decide +kernel) (by decide +kernel) (acc_is X hx) (args_list_getitem _ _) ?_)
  show wpAny _ _ (Builtin.List.listSubscript? (.ref sl) >>= _) _ _ _
  refine wpAny_bind ?_
  unfold Builtin.List.listSubscript?
  refine wpAny_bind (wpAny_specialOf hTs slice_no_index ?_)
  simp only [Option.isNone_none, if_true]
  refine wpAny_pure ?_
  show wpAny _ _ (typeOf (.ref sl) >>= _) _ _ _
  refine wpAny_bind (wpAny_typeOf hTs ?_)
  rw [if_neg (by decide)]
  refine wpAny_bind (slice_parts hs pl pu ?_)
  dsimp only
  refine wpAny_bind (m := Builtin.List.listItems (.ref x)) ?_
  unfold Builtin.List.listItems
  refine wpAny_bind (wpAny_seqItems hx rfl (wpAny_pure ?_))
  refine wpAny_bind (wpAny_of_eq (sliceIndices_raw lo hi none vs.size (by simp)) ?_)
  exact wpAny_bind (wpAny_newObj_type (wpAny_pure hq) (Nat.le_trans (slicePick_size_le vs lo hi none) (by rw [sizeLine_eq]; (first | lia | omega))))
end
end Mine
end

section
open PySem PySem.W PySem.Calls PySem.Spec PyProof.Rows PyProof.Rows.LCg
set_option Elab.async false
set_option maxRecDepth 100000
set_option maxHeartbeats 2000000
set_option linter.unusedVariables false
namespace Mine
theorem fillitc3 : (fun (_ : Params → Frag) => True) hd.heap_39 ∧ PySem.Challenge.rw_xp0030_01.prog = PySem.Challenge.rw_xp0030_01.prog := by
  k_fill
  exact ⟨trivial, rfl⟩
section
variable {prog : Program} {w : World} {A : Around} {E : Value → Shared → Prop} {h : Heap} {g : Array GenState} {d : Drawn} {t : Nat} {os : OsState} {x dx : Addr} {vs : Array Value} {n : Nat} {m : Str → Option Value}

theorem acc_setItem {i v : Value} {Q : Unit → Shared → Prop} (X : (hd.heap_39 w.params).In h) (hx : h.get? x = some (accObj dx vs n))
    (hc : codeAny (model prog w) A (.call (.builtin "list.__setitem__") ⟨[.ref x, i, v], []⟩) (Back (fun _ => Q ()) E) ⟨h, g, d, t, os⟩) : wpAny (model prog w) A (setItem (.ref x) i v) Q E ⟨h, g, d, t, os⟩ := by
  have L1 : Looks (model prog w) h (typeLookup (.ref 185) "__setitem__") (some (.builtin "list.__setitem__")) := looks_findIn X (by k_is)
  have hT : Looks (model prog w) h (typeOf (.ref x)) (.ref 185) := (Looks.ld hx).andThen .now
  have L5 : Looks (model prog w) h (isSubtype (.ref 185) (.type "collections.deque")) false := looks_subIn X (by k_is)
  have f3 := slot_list_setitem.bind (.ref x)
  repeat (any_goals (first | assumption | with_reducible refine Looks.at (by assumption) ?_ | with_reducible refine wpAny_onRaise ?_ | wp_step))
  refine codeAny_mono hc fun r s' z => ?_
  rcases r with e | (_ | _ | _ | v) <;> first | exact z | exact z.elim | exact wpAny_pure (wpAny_pure z)
theorem acc_si {i v : Value} {R : Result → Shared → Prop} (X : (hd.heap_39 w.params).In h) (hx : h.get? x = some (accObj dx vs n))
    (hb : wpAny (model prog w) A.in1 (Builtin.«list.__setitem__» ⟨[.ref x, i, v], []⟩) (fun fin s' => match fin with | .done f => R (.ok f) s' | .again c' => c'.quiet = true ∧ codeAny (model prog w) A c' R s') (fun e s' => R (.error e) s') ⟨h, g, d, t, os⟩) :
    codeAny (model prog w) A (.call (.builtin "list.__setitem__") ⟨[.ref x, i, v], []⟩) R ⟨h, g, d, t, os⟩ :=
  codeAny_call_builtin (by decide +kernel) entry_list_setitem (check_slot (n := "__setitem__") (owner := "list") (by decide +kernel) (by decide +kernel) (acc_is X hx) (args_list_setitem _ _ _) hb)

/-- self[lo:] = a list -/
theorem acc_set_slice {sl l : Addr} {vl : Value} {lo : Nat} {lo' : Option Int} {ws : Array Value} {Q : Unit → Shared → Prop} (X : (hd.heap_39 w.params).In h) (hx : h.get? x = some (accObj dx vs n)) (hz : vs.size ≤ 1000) (hs : h.IsSliceOf sl vl .none .none) (pl : IsPart vl lo')
    (hlo : sliceBounds lo' none none vs.size = ((lo : Int), (vs.size : Int), 1)) (hlv : lo ≤ vs.size) (hl : h.IsList l ws) (hlx : l ≠ x) (hz2 : ws.size ≤ 1000)
    (hq : ∀ h' n', h'.get? x = some (accObj dx (vs.extract 0 lo ++ ws) n') → Heap.SameBut x h h' → Q () ⟨h', g, d, t, os⟩) : wpAny (model prog w) A (setItem (.ref x) (.ref sl) (.ref l)) Q E ⟨h, g, d, t, os⟩ := by
  have hTs : (⟨h, g, d, t, os⟩ : Shared).TypeIs (.ref sl) "slice" := let ⟨os, a, b, _⟩ := hs; ⟨os, a, b⟩
  have hTl : (⟨h, g, d, t, os⟩ : Shared).TypeIs (.ref l) "list" := hl.typeIs
  obtain ⟨ol, hol, cl, nl, dl⟩ := id hl
  refine acc_setItem X hx (acc_si X hx ?_)
  show wpAny _ _ (Builtin.List.listSubscript? (.ref sl) >>= _) _ _ _
  refine wpAny_bind ?_
  unfold Builtin.List.listSubscript?
  refine wpAny_bind (wpAny_specialOf hTs slice_no_index ?_)
  simp only [Option.isNone_none, if_true]
  refine wpAny_pure ?_
  show wpAny _ _ (typeOf (.ref sl) >>= _) _ _ _
  refine wpAny_bind (wpAny_typeOf hTs ?_)
  rw [if_neg (by decide)]
  refine wpAny_bind (slice_parts hs pl .none ?_)
  dsimp only
  have hsr : Builtin.List.listSameRef (.ref x) (.ref l) = false := by
    unfold Builtin.List.listSameRef
    simp [Ne.symm hlx]
  rw [hsr, if_neg Bool.false_ne_true]
  refine wpAny_bind ?_
  unfold Builtin.List.listAllItems
  refine wpAny_bind (wpAny_typeOf hTl ?_)
  rw [if_pos (by decide)]
  refine wpAny_bind ?_
  unfold Builtin.List.listItems
  refine wpAny_seqItems hol dl (wpAny_pure ?_)
  refine wpAny_bind (wpAny_bind (wpAny_seqItems hx rfl (wpAny_pure ?_)))
  refine wpAny_bind (wpAny_of_eq (sliceIndices_raw lo' none none vs.size (by simp)) ?_)
  rw [hlo]
  dsimp only
  rw [if_pos (by decide)]
  refine wpAny_bind (wpAny_rule ?_)
  have htl : Builtin.List.listTooLong (vs.size + ws.size) = false := by
    unfold Builtin.List.listTooLong
    rw [sizeLine_eq]
    simp; (first | lia | omega)
  rw [htl, if_neg Bool.false_ne_true]
  have e0 : ((lo : Int)).toNat = lo := by (first | lia | omega)
  have e1 : (max (lo : Int) (vs.size : Int)).toNat = vs.size := by (first | lia | omega)
  have e2 : vs.extract 0 ((lo : Int)).toNat ++ ws ++ vs.extract (max (lo : Int) (vs.size : Int)).toNat = vs.extract 0 lo ++ ws := by
    rw [e0, e1]
    simp
  refine wpAny_bind ?_
  show wpAny _ _ (updateSeq x (fun xs => xs.extract 0 ((lo : Int)).toNat ++ ws ++ xs.extract (max (lo : Int) (vs.size : Int)).toNat)) _ _ _
  obtain ⟨n', e⟩ := acc_upd (fun xs => xs.extract 0 ((lo : Int)).toNat ++ ws ++ xs.extract (max (lo : Int) (vs.size : Int)).toNat) hx
  rw [e2] at e
  refine wpAny_updateSeq (s := ⟨h, g, d, t, os⟩) hx rfl ?_ (by rw [sizeLine_eq]; (first | lia | omega)) (by rw [e2, Array.size_append, Array.size_extract, sizeLine_eq]; (first | lia | omega))
  refine wpAny_bind ?_
  refine wpAny_letGo ?_
  exact wpAny_pure (hq _ n' e (Heap.SameBut.update ..))
end
end Mine
end

section
open PySem PySem.W PySem.Calls PySem.Spec PyProof.Rows PyProof.Rows.LCg
set_option Elab.async false
set_option maxRecDepth 100000
set_option maxHeartbeats 2000000
set_option linter.unusedVariables false
namespace Mine
theorem fillitc4 : (fun (_ : Params → Frag) => True) hd.heap_39 ∧ PySem.Challenge.rw_xp0030_01.prog = PySem.Challenge.rw_xp0030_01.prog := by
  k_fill
  exact ⟨trivial, rfl⟩
section
variable {prog : Program} {w : World} {A : Around} {E : Value → Shared → Prop} {h : Heap} {g : Array GenState} {d : Drawn} {t : Nat} {os : OsState} {x dx : Addr} {vs : Array Value} {n : Nat} {m : Str → Option Value}

theorem looks_dict {M : Model} {a : Addr} {o : Obj} {name : Str} {r : Option Value} (hD : h.get? a = some o) (e : lookIn name o = some r) : Looks M h (nsGet a name) r := fun A Q E s k q => by
  refine wpAny_bind (wpAny_loadPart (k _ _ hD) ?_)
  rw [nsLook_of e]
  exact wpAny_pure q
theorem putL_len (name : Str) (hsh : Int) (key v : Value) : ∀ es : List DictEntry, (putL name hsh key v es).length ≤ es.length + 1
  | [] => by simp [putL]
  | e :: r => by
    unfold putL
    split
    · simp
    · simp only [List.length_cons]
      have := putL_len name hsh key v r
      (first | lia | omega)
theorem refuse_list (x : Addr) : refuseLoop (.ref x) "__setattr__" [.type "list", .type "object"] = pure () := by
  unfold refuseLoop
  kernel_rfl
theorem acc_osa {name : Str} {tk : Tok} {v : Value} {es : List DictEntry} {k : Nat} {R : Result → Shared → Prop} (X : (hd.heap_39 w.params).In h) (hx : h.get? x = some (accObj dx vs n)) (hD : h.get? dx = some (dictOf es k)) (hl : (getL name es).isSome = true) (hz : es.length ≤ 1000) (hf : findIn (hd.heap_39 w.params) (.ref 185) name = some none)
    (hq : ∀ h', h'.get? dx = some (dictOf (putL name (PyData.keyHash w.params name) (.str name t) v es) (putN name es k)) → Heap.SameBut dx h h' → R (.ok (.ret .none)) ⟨h', g, d, t + 1, os⟩) :
    codeAny (model prog w) A (.call (.builtin "object.__setattr__") ⟨[.ref x, .str name tk, v], []⟩) R ⟨h, g, d, t, os⟩ := by
  have SF := PySem.F.store_object
  have L2 : Looks (model prog w) h (typeLookup (.ref 185) name) none := looks_findIn X hf
  have L3 : Looks (model prog w) h (isSubtype (.ref 185) (.type "object")) true := looks_subIn X (by k_is)
  have hT : Looks (model prog w) h (typeOf (.ref x)) (.ref 185) := (Looks.ld hx).andThen .now
  have hI : Looks (model prog w) h (isInstance (.ref x) (.type "object")) true := hT.andThen L3
  have hC := X 185 _ (by k_is)
  have hM : Looks (model prog w) h (mroOf (.ref 185)) [.ref 185, .type "list", .type "object"] := ((looks_clsIn X (by k_is)).andThen .now)
  refine codeAny_call_builtin SF.slot.plain SF.entry (@check_slot (model prog w) _ _ ⟨h, g, d, t, os⟩ "object.__setattr__" "object" "__setattr__" (.ref x) [.str name tk, v] [] _ SF.kind SF.split hI (SF.args (.ref x) (.str name tk) v) ?_)
  rw [osa_eq, refuse_eq]
  refine wpAny_bind (wpAny_bind (hT.here (wpAny_bind (hM.here ?_))))
  rw [refuseLoop_ref, refuse_list]
  refine wpAny_pure (wpAny_bind (hT.here (wpAny_bind (L2.here ?_))))
  repeat (any_goals (first | assumption | with_reducible refine Looks.at (by assumption) ?_ | with_reducible refine wpAny_onRaise ?_ | (with_reducible show wpAny _ _ PySem.ask _ _ _; fail) | wp_step))
  refine wpAny_askSetting (wpAny_pure (wpAny_bind (wpAny_mkText (wpAny_bind (wpAny_loadPart (s := ⟨h, g, d, t + 1, os⟩) hD ?_)))))
  dsimp only
  have c : (!es.toArray.any (·.key.isStr name) && es.toArray.any (·.refKey)) = false := by
    rw [← Array.any_toList, ← Array.any_toList]
    unfold getL at hl
    split at hl
    · rename_i en he
      show (!es.any _ && _) = false
      rw [List.any_eq_true.mpr ⟨en, List.mem_of_find?_eq_some he, List.find?_some he⟩]; rfl
    · split at hl
      · cases hl
      · rename_i z
        rw [Bool.not_eq_true] at z
        show (_ && es.any _) = false
        rw [z, Bool.and_false]
  rw [aRefKeyMayBeTheName_at, c]
  rw [if_neg Bool.false_ne_true]
  refine wpAny_updatePart (s := ⟨h, g, d, t + 1, os⟩) hD ?_
  have e1 : Obj.putName name (PyData.keyHash w.params name) (.str name t) v (dictOf es k) = dictOf (putL name (PyData.keyHash w.params name) (.str name t) v es) (putN name es k) := putName_dict ..
  have hlen : (putL name (PyData.keyHash w.params name) (.str name t) v es).length ≤ es.length + 1 := putL_len _ _ _ _ _
  have e2 : (h.update dx (Obj.putName name (PyData.keyHash w.params name) (.str name t) v)).get? dx = some (dictOf (putL name (PyData.keyHash w.params name) (.str name t) v es) (putN name es k)) := by
    rw [Heap.get?_update_self _ hD (by rw [e1]; rfl), e1]
  refine wpAny_bind (wpAny_lookBehind e2 (pastItsLine_dict (by rw [List.size_toArray, sizeLine_eq]; (first | lia | omega))) ?_)
  exact wpAny_pure (hq _ e2 (Heap.SameBut.update ..))
theorem acc_setAttr {name : Str} {v : Value} {es : List DictEntry} {k : Nat} {Q : Unit → Shared → Prop} (X : (hd.heap_39 w.params).In h) (hx : h.get? x = some (accObj dx vs n)) (hD : h.get? dx = some (dictOf es k)) (hl : (getL name es).isSome = true) (hz : es.length ≤ 1000) (hf : findIn (hd.heap_39 w.params) (.ref 185) name = some none)
    (hq : ∀ h', h'.get? dx = some (dictOf (putL name (PyData.keyHash w.params name) (.str name (t + 1)) v es) (putN name es k)) → Heap.SameBut dx h h' → Q () ⟨h', g, d, t + 2, os⟩) :
    wpAny (model prog w) A (setAttr (.ref x) name v) Q E ⟨h, g, d, t, os⟩ := by
  have L1 : Looks (model prog w) h (typeLookup (.ref 185) "__setattr__") (some (.builtin "object.__setattr__")) := looks_findIn X (by k_is)
  have hT : Looks (model prog w) h (typeOf (.ref x)) (.ref 185) := (Looks.ld hx).andThen .now
  have f3 := PySem.F.store_object.slot.bind (.ref x)
  repeat (any_goals (first | assumption | with_reducible refine Looks.at (by assumption) ?_ | with_reducible refine wpAny_onRaise ?_ | wp_step))
  refine acc_osa X hx hD hl hz hf fun h' e sb => ?_
  exact wpAny_pure (wpAny_pure (hq h' e sb))

theorem refuse_obj (x : Addr) : refuseLoop (.ref x) "__setattr__" [.type "object"] = pure () := by
  unfold refuseLoop
  kernel_rfl
theorem wr_osa {dz : Addr} {name : Str} {tk : Tok} {v : Value} {es : List DictEntry} {k : Nat} {R : Result → Shared → Prop} (X : (hd.heap_39 w.params).In h) (hx : h.get? x = some (wrObj dz)) (hD : h.get? dz = some (dictOf es k)) (hl : (getL name es).isSome = true) (hz : es.length ≤ 1000) (hf : findIn (hd.heap_39 w.params) (.ref 101) name = some none)
    (hq : ∀ h', h'.get? dz = some (dictOf (putL name (PyData.keyHash w.params name) (.str name t) v es) (putN name es k)) → Heap.SameBut dz h h' → R (.ok (.ret .none)) ⟨h', g, d, t + 1, os⟩) :
    codeAny (model prog w) A (.call (.builtin "object.__setattr__") ⟨[.ref x, .str name tk, v], []⟩) R ⟨h, g, d, t, os⟩ := by
  have SF := PySem.F.store_object
  have L2 : Looks (model prog w) h (typeLookup (.ref 101) name) none := looks_findIn X hf
  have L3 : Looks (model prog w) h (isSubtype (.ref 101) (.type "object")) true := looks_subIn X (by k_is)
  have hT : Looks (model prog w) h (typeOf (.ref x)) (.ref 101) := (Looks.ld hx).andThen .now
  have hI : Looks (model prog w) h (isInstance (.ref x) (.type "object")) true := hT.andThen L3
  have hC := X 101 _ (by k_is)
  have hM : Looks (model prog w) h (mroOf (.ref 101)) [.ref 101, .type "object"] := ((looks_clsIn X (by k_is)).andThen .now)
  refine codeAny_call_builtin SF.slot.plain SF.entry (@check_slot (model prog w) _ _ ⟨h, g, d, t, os⟩ "object.__setattr__" "object" "__setattr__" (.ref x) [.str name tk, v] [] _ SF.kind SF.split hI (SF.args (.ref x) (.str name tk) v) ?_)
  rw [osa_eq, refuse_eq]
  refine wpAny_bind (wpAny_bind (hT.here (wpAny_bind (hM.here ?_))))
  rw [refuseLoop_ref, refuse_obj]
  refine wpAny_pure (wpAny_bind (hT.here (wpAny_bind (L2.here ?_))))
  repeat (any_goals (first | assumption | with_reducible refine Looks.at (by assumption) ?_ | with_reducible refine wpAny_onRaise ?_ | (with_reducible show wpAny _ _ PySem.ask _ _ _; fail) | wp_step))
  refine wpAny_askSetting (wpAny_pure (wpAny_bind (wpAny_mkText (wpAny_bind (wpAny_loadPart (s := ⟨h, g, d, t + 1, os⟩) hD ?_)))))
  dsimp only
  have c : (!es.toArray.any (·.key.isStr name) && es.toArray.any (·.refKey)) = false := by
    rw [← Array.any_toList, ← Array.any_toList]
    unfold getL at hl
    split at hl
    · rename_i en he
      show (!es.any _ && _) = false
      rw [List.any_eq_true.mpr ⟨en, List.mem_of_find?_eq_some he, List.find?_some he⟩]; rfl
    · split at hl
      · cases hl
      · rename_i z
        rw [Bool.not_eq_true] at z
        show (_ && es.any _) = false
        rw [z, Bool.and_false]
  rw [aRefKeyMayBeTheName_at, c]
  rw [if_neg Bool.false_ne_true]
  refine wpAny_updatePart (s := ⟨h, g, d, t + 1, os⟩) hD ?_
  have e1 : Obj.putName name (PyData.keyHash w.params name) (.str name t) v (dictOf es k) = dictOf (putL name (PyData.keyHash w.params name) (.str name t) v es) (putN name es k) := putName_dict ..
  have hlen : (putL name (PyData.keyHash w.params name) (.str name t) v es).length ≤ es.length + 1 := putL_len _ _ _ _ _
  have e2 : (h.update dz (Obj.putName name (PyData.keyHash w.params name) (.str name t) v)).get? dz = some (dictOf (putL name (PyData.keyHash w.params name) (.str name t) v es) (putN name es k)) := by
    rw [Heap.get?_update_self _ hD (by rw [e1]; rfl), e1]
  refine wpAny_bind (wpAny_lookBehind e2 (pastItsLine_dict (by rw [List.size_toArray, sizeLine_eq]; (first | lia | omega))) ?_)
  exact wpAny_pure (hq _ e2 (Heap.SameBut.update ..))
theorem wr_setAttr {dz : Addr} {name : Str} {v : Value} {es : List DictEntry} {k : Nat} {Q : Unit → Shared → Prop} (X : (hd.heap_39 w.params).In h) (hx : h.get? x = some (wrObj dz)) (hD : h.get? dz = some (dictOf es k)) (hl : (getL name es).isSome = true) (hz : es.length ≤ 1000) (hf : findIn (hd.heap_39 w.params) (.ref 101) name = some none)
    (hq : ∀ h', h'.get? dz = some (dictOf (putL name (PyData.keyHash w.params name) (.str name (t + 1)) v es) (putN name es k)) → Heap.SameBut dz h h' → Q () ⟨h', g, d, t + 2, os⟩) :
    wpAny (model prog w) A (setAttr (.ref x) name v) Q E ⟨h, g, d, t, os⟩ := by
  have L1 : Looks (model prog w) h (typeLookup (.ref 101) "__setattr__") (some (.builtin "object.__setattr__")) := looks_findIn X (by k_is)
  have hT : Looks (model prog w) h (typeOf (.ref x)) (.ref 101) := (Looks.ld hx).andThen .now
  have f3 := PySem.F.store_object.slot.bind (.ref x)
  repeat (any_goals (first | assumption | with_reducible refine Looks.at (by assumption) ?_ | with_reducible refine wpAny_onRaise ?_ | wp_step))
  refine wr_osa X hx hD hl hz hf fun h' e sb => ?_
  exact wpAny_pure (wpAny_pure (hq h' e sb))
end
end Mine
end

section
open PySem PySem.W PySem.Calls PySem.Spec PyProof.Rows PyProof.Rows.LCg
set_option Elab.async false
set_option maxRecDepth 100000
set_option maxHeartbeats 2000000
set_option linter.unusedVariables false
namespace Mine
theorem fillitc5 : (fun (_ : Params → Frag) => True) hd.heap_39 ∧ PySem.Challenge.rw_xp0030_01.prog = PySem.Challenge.rw_xp0030_01.prog := by
  k_fill
  exact ⟨trivial, rfl⟩
section
variable {prog : Program} {w : World} {A : Around} {E : Value → Shared → Prop} {h : Heap} {g : Array GenState} {d : Drawn} {t : Nat} {os : OsState} {x dx : Addr} {vs : Array Value} {n : Nat}
noncomputable abbrev itObj (x : Addr) (i : Nat) : Obj := { cls := .type "list_iterator", data := .fields #[.ref x, .int i 0] }
theorem acc_pyIter {Q : Value → Shared → Prop} (X : (hd.heap_39 w.params).In h) (hx : h.get? x = some (accObj dx vs n))
    (hq : Q (.ref h.objs.size) ⟨h.push (itObj x 0), g, d, t, os⟩) : wpAny (model prog w) A (pyIter (.ref x)) Q E ⟨h, g, d, t, os⟩ := by
  have L1 : Looks (model prog w) h (typeLookup (.ref 185) "__iter__") (some (.builtin "list.__iter__")) := looks_findIn X (by k_is)
  have hT : Looks (model prog w) h (typeOf (.ref x)) (.ref 185) := (Looks.ld hx).andThen .now
  have f3 := slot_list_iter.bind (.ref x)
  repeat (any_goals (first | assumption | with_reducible refine Looks.at (by assumption) ?_ | with_reducible refine wpAny_onRaise ?_ | wp_step))
  refine wpAny_askSetting ?_
  rw [f3]
  refine wpAny_mono (Q := fun a s' => a = some (Value.builtin "list.__iter__", [Value.ref x]) ∧ s' = ⟨h, g, d, t, os⟩) ?_ (fun a s' z => ?_) fun _ _ z => z
  · split
    · exact wpAny_bind (wpAny_pure (wpAny_pure ⟨rfl, rfl⟩))
    · exact wpAny_tryCatch (wpAny_bind (wpAny_pure (wpAny_pure ⟨rfl, rfl⟩)))
  · obtain ⟨rfl, rfl⟩ := z
    repeat (any_goals (first | assumption | with_reducible refine Looks.at (by assumption) ?_ | with_reducible refine wpAny_onRaise ?_ | wp_step))
    refine codeAny_call_builtin (by decide +kernel) entry_list_iter (check_slot (n := "__iter__") (owner := "list") (by decide +kernel) (by decide +kernel) (acc_is X hx) (args_list_iter _) ?_)
    have hT2 : (⟨h.push (itObj x 0), g, d, t, os⟩ : Shared).TypeIs (.ref h.objs.size) "list_iterator" := ⟨_, Heap.get?_push_size _ rfl, rfl⟩
    have f9 := slot_listiter_next.lookup
    repeat (any_goals (first | assumption | with_reducible refine Looks.at (by assumption) ?_ | with_reducible refine wpAny_onRaise ?_ | wp_step))
theorem acc_next {I : Addr} {i : Nat} {v : Value} {Q : Option Value → Shared → Prop} (hit : h.IsListIter I x i) (hx : h.get? x = some (accObj dx vs n)) (hv : vs[i]? = some v)
    (hQ : ∀ h', h'.IsListIter I x (i + 1) → Heap.SameBut I h h' → Q (some v) ⟨h', g, d, t, os⟩) : wpAny (model prog w) A (pyNext (.ref I)) Q E ⟨h, g, d, t, os⟩ := by
  obtain ⟨o, ho, hc, hd⟩ := id hit
  have hit' : (⟨h, g, d, t, os⟩ : Shared).heap.IsListIter I x i := hit
  unfold pyNext
  refine wpAny_bind (wpAny_attempt (wpAny_callSpecial?_slot (name := Str.ofString "__next__") hit'.typeIs slot_listiter_next
    (wpAny_call_entry slot_listiter_next hit'.typeIs entry_listiter_next ?_ (args_listiter_next _))))
  show wpAny _ _ (field (.ref I) 0 >>= _) _ _ _
  refine wpAny_bind (wpAny_field ho hd (x := .ref x) rfl ?_)
  show wpAny _ _ (if (Value.ref x == Value.none) = true then _ else _) _ _ _
  rw [if_neg (show ¬ ((Value.ref x == Value.none) = true) from Bool.false_ne_true)]
  show wpAny _ _ (field (.ref I) 1 >>= _) _ _ _
  refine wpAny_bind (wpAny_field ho hd (x := .int i 0) rfl ?_)
  show wpAny _ _ (seqItems? (.ref x) >>= _) _ _ _
  refine wpAny_bind (wpAny_seqItems hx rfl ?_)
  simp only [Int.toNat_natCast, hv]
  refine wpAny_bind (wpAny_setField ho hd (by simp) (wpAny_pure ⟨v, rfl, wpAny_pure (hQ _ ?_ (Heap.SameBut.update ..))⟩))
  exact ⟨_, Heap.get?_update_self _ ho (Obj.isFreed_of_fields (Obj.data_mapFields hd _)), (Obj.cls_mapFields ..).trans hc, by
    rw [Obj.data_mapFields hd]; simp [rawInt]⟩
theorem acc_next_end {I : Addr} {i : Nat} {Q : Option Value → Shared → Prop} (hh : A.handled = none) (hit : h.IsListIter I x i) (hx : h.get? x = some (accObj dx vs n)) (hv : vs[i]? = none)
    (hQ : ∀ h', Heap.ExtBut I h h' → Q none ⟨h', g, d, t, os⟩) : wpAny (model prog w) A (pyNext (.ref I)) Q E ⟨h, g, d, t, os⟩ := by
  obtain ⟨o, ho, hc, hd⟩ := id hit
  have hit' : (⟨h, g, d, t, os⟩ : Shared).heap.IsListIter I x i := hit
  unfold pyNext
  refine wpAny_bind (wpAny_attempt (wpAny_callSpecial?_slot (name := Str.ofString "__next__") hit'.typeIs slot_listiter_next
    (wpAny_call_entry slot_listiter_next hit'.typeIs entry_listiter_next ?_ (args_listiter_next _))))
  show wpAny _ _ (field (.ref I) 0 >>= _) _ _ _
  refine wpAny_bind (wpAny_field ho hd (x := .ref x) rfl ?_)
  show wpAny _ _ (if (Value.ref x == Value.none) = true then _ else _) _ _ _
  rw [if_neg (show ¬ ((Value.ref x == Value.none) = true) from Bool.false_ne_true)]
  show wpAny _ _ (field (.ref I) 1 >>= _) _ _ _
  refine wpAny_bind (wpAny_field ho hd (x := .int i 0) rfl ?_)
  show wpAny _ _ (seqItems? (.ref x) >>= _) _ _ _
  refine wpAny_bind (wpAny_seqItems hx rfl ?_)
  simp only [Int.toNat_natCast, hv]
  refine wpAny_bind (wpAny_rule (wpAny_bind (wpAny_setField ho hd (by simp) ?_)))
  show wpAny _ _ (newExc (.type "StopIteration") [] >>= _) _ _ _
  refine wpAny_bind ?_
  simp only [newExc, newTuple]
  refine wpAny_bind (wpAny_newObj_type ?_ (by size_fits))
  refine wpAny_bind (m := firstArgMember _ _) (wpAny_of_eq (a := Value.none) (by first | rfl | (simp only [firstArgMember]; rfl)) ?_)
  refine wpAny_newObj_type ?_ (by size_fits)
  simp only [raiseNew]
  refine wpAny_bind (wpAny_handled ?_)
  rw [show A.in1.handled = none from hh]
  refine wpAny_bind (wpAny_pure (wpAny_throw ?_))
  refine wpAny_bind (wpAny_isInstance (T := "StopIteration") (b := true) ⟨_, Heap.get?_push_size _ rfl, rfl⟩ isSubtype_stop ?_)
  exact wpAny_pure (hQ _ (((Heap.SameBut.update ..).extBut.push _).push _))
theorem acc_walks (hh : A.handled = none) (I : Addr) (hne : x ≠ I) :
    Walks prog w A I [I, x] [I] vs.size (fun i v => vs[i]? = some v) (fun i h => h.IsListIter I x i ∧ ∃ n, h.get? x = some (accObj dx vs n)) where
  sub := fun b hb => by simp at hb; simp [hb]
  frame := fun _ _ _ st hk => ⟨st.1.at fun o e => hk I (by simp) o e, let ⟨n, e⟩ := st.2; ⟨n, hk x (by simp) _ e⟩⟩
  item := fun i s Q E hi st hQ => by
    obtain ⟨n, e⟩ := st.2
    obtain ⟨hp, g, d, t, os⟩ := s
    refine acc_next (v := vs[i]) st.1 e (by simp [hi]) fun h' hit' hs' => ?_
    exact hQ _ h' t (by simp [hi]) ⟨hit', n, (hs'.2 x hne).trans e⟩ fun b o hb e => (hs'.2 b fun h => hb (by simp [h])).trans e
  done := fun s Q E st hQ => by
    obtain ⟨n, e⟩ := st.2
    obtain ⟨hp, g, d, t, os⟩ := s
    exact acc_next_end hh st.1 e (by simp) fun h' he' => hQ h' t fun b o hb e => he' b o (fun h => hb (by simp [h])) e
  self := fun _ _ _ _ st hQ => wpAny_pyIter_listiter st.1 hQ
end
end Mine
end

section
set_option Elab.async false
namespace S1
open PySem PyProof PyProof.Rows

section
variable {σ : Type} {M : Model} {A : Around} {E : Value → Shared → Prop} {s : Shared}
theorem wpS_loop {β : Type} {a b : Nat} {f : Nat → β → StateT σ Sem (ForInStep β)} (I : Nat → β → σ → Prop) {Q : β → σ → Prop}
    (hstep : ∀ i c st, i < b → I i c st → ∀ K : ForInStep β → σ → Prop, (∀ c st, Q c st → K (.done c) st) → (∀ c st, I (i + 1) c st → K (.yield c) st) → wpS M A E s (f i c) K st)
    (hend : ∀ c st, I (max a b) c st → Q c st) {c : β} {st : σ} (h : I a c st) : wpS M A E s (forIn [a:b] c f) Q st :=
  wpS_forRange I (fun i c st _ h1 h2 => hstep i c st h1 h2 _ (fun _ _ h => h) (fun _ _ h => h)) hend h
theorem wpS_if {α : Type} {c : Prop} {_ : Decidable c} {p q : StateT σ Sem α} {Q : α → σ → Prop} {st : σ} (h1 : c → wpS M A E s p Q st) (h2 : ¬ c → wpS M A E s q Q st) :
    wpS M A E s (if c then p else q) Q st := by
  by_cases h : c
  · rw [if_pos h]; exact h1 h
  · rw [if_neg h]; exact h2 h
theorem wpS_ifE {α : Type} {n m : Nat} {p q : StateT σ Sem α} {Q : α → σ → Prop} {st : σ} (h1 : n = m → wpS M A E s p Q st) (h2 : ¬ n = m → wpS M A E s q Q st) :
    wpS M A E s (if (n == m) = true then p else q) Q st :=
  wpS_if (fun h => h1 (beq_iff_eq.mp h)) (fun h => h2 fun e => h (beq_iff_eq.mpr e))
theorem wpS_ifS {α : Type} {c : Prop} {_ : Decidable c} {p F : StateT σ Sem α} {Q : α → σ → Prop} {st : σ} (J : σ → Prop)
    (h0 : ∀ st, J st → wpS M A E s F Q st) (h1 : c → (∀ st, J st → wpS M A E s F Q st) → wpS M A E s p Q st) (h2 : ¬ c → J st) :
    wpS M A E s (if c then p else F) Q st := wpS_if (fun h => h1 h h0) (fun h => h0 _ (h2 h))
/-- a later piece of the code, walked once: F is found where the first call of `J` meets it -/
theorem wpS_later {α γ δ : Type} {F : γ → δ → StateT σ Sem α} {m : StateT σ Sem α} {Q : α → σ → Prop} {st : σ} (J : γ → δ → Prop)
    (h1 : (∀ g d, J g d → wpS M A E s (F g d) Q st) → wpS M A E s m Q st) (h0 : ∀ g d, J g d → wpS M A E s (F g d) Q st) : wpS M A E s m Q st := h1 h0
theorem wpS_ifJ {α γ : Type} {c : γ → Prop} {_ : ∀ g, Decidable (c g)} {p F : γ → StateT σ Sem α} {Q : α → σ → Prop} {st : σ}
    (h0 : ∀ g, wpS M A E s (F g) Q st) (h1 : (∀ g, wpS M A E s (F g) Q st) → ∀ g, wpS M A E s (p g) Q st) :
    ∀ g, wpS M A E s (if c g then p g else F g) Q st := fun g => wpS_if (fun _ => h1 h0 g) (fun _ => h0 g)
theorem wpS_ifB {α β : Type} {c : Prop} {_ : Decidable c} {m1 m2 : StateT σ Sem β} {F : β → StateT σ Sem α} {Q : α → σ → Prop} {st : σ} (J : β → σ → Prop)
    (h1 : c → wpS M A E s m1 J st) (h2 : ¬ c → wpS M A E s m2 J st) (h0 : ∀ r st, J r st → wpS M A E s (F r) Q st) :
    wpS M A E s (if c then m1 >>= F else m2 >>= F) Q st := wpS_if (fun h => wpS_bind (wpS_mono (h1 h) h0)) (fun h => wpS_bind (wpS_mono (h2 h) h0))
theorem wpS_ifG {α γ : Type} {x : γ} {c : γ → Prop} {_ : ∀ g, Decidable (c g)} {p F : γ → StateT σ Sem α} {Q : α → σ → Prop} {st : σ} (J : γ → σ → Prop)
    (h0 : ∀ g st, J g st → wpS M A E s (F g) Q st) (h1 : c x → (∀ g st, J g st → wpS M A E s (F g) Q st) → wpS M A E s (p x) Q st) (h2 : ¬ c x → J x st) :
    ∀ g, x = g → wpS M A E s (if c g then p g else F g) Q st := by
  rintro _ rfl; exact wpS_if (fun h => h1 h h0) (fun h => h0 _ _ (h2 h))
theorem wpS_ifJ2 {α γ δ : Type} {c : Prop} {_ : Decidable c} {x : γ} {y : δ} {p F : γ → δ → StateT σ Sem α} {Q : α → σ → Prop} {st : σ} (J : γ → δ → Prop)
    (h0 : ∀ g d, J g d → wpS M A E s (F g d) Q st) (h1 : c → (∀ g d, J g d → wpS M A E s (F g d) Q st) → wpS M A E s (p x y) Q st) (h2 : ¬ c → J x y) :
    ∀ g, x = g → ∀ d, y = d → wpS M A E s (if c then p g d else F g d) Q st := by
  rintro _ rfl _ rfl; exact wpS_if (fun h => h1 h h0) (fun h => h0 _ _ (h2 h))
end
end S1
end

section
set_option Elab.async false
namespace S1
open PySem PyProof PyProof.Rows

noncomputable def gallop' : Bool → Keyed → Array Keyed → Nat → Nat → Nat → StateT SortSt Sem (Option Nat) := sortPriv% PySem.Builtin.gallop

/-- comparing two keyed items of the family P tells the order of their ranks -/
noncomputable def LtOk (M : Model) (A : Around) (E : Value → Shared → Prop) (s : Shared) (kd : SortKind) (R : Keyed → Int) (P : Keyed → Prop) : Prop :=
  ∀ x y st (Q : Option Bool → SortSt → Prop), P x → P y → kindOf st = kd → Q (some (decide (R x < R y))) st → wpS M A E s (lt' x y) Q st

/-- the rank at a place -/
noncomputable def rk (R : Keyed → Int) (arr : Array Keyed) (i : Nat) : Int := (arr[i]?.map R).getD 0

/-- does the item at this place lie ahead of the place sought -/
noncomputable def ahead (left : Bool) (R : Keyed → Int) (key : Keyed) (arr : Array Keyed) (i : Nat) : Bool :=
  if left then decide (rk R arr i < R key) else !decide (R key < rk R arr i)

theorem rk_at {R : Keyed → Int} {arr : Array Keyed} {i : Nat} (hi : i < arr.size) : rk R arr i = R arr[i] := by
  unfold rk; rw [getElem?_pos arr i hi]; rfl

variable {M : Model} {A : Around} {E : Value → Shared → Prop} {s : Shared} {kd : SortKind} {R : Keyed → Int} {P : Keyed → Prop}

theorem wpS_elem {arr : Array Keyed} {i : Nat} {Q : Keyed → SortSt → Prop} {st : SortSt} (hi : i < arr.size) (h : Q arr[i] st) :
    wpS M A E s (elem' arr i) Q st := by
  rw [elem'_eq, getElem?_pos arr i hi]
  exact wpS_pure h

inductive GalA (cut : Nat → Bool) (n hint : Nat) (st : SortSt) (x : Nat) : Option (Option Nat) × Nat × Nat → SortSt → Prop
  | mk {l o} : l < o → hint + l < n → x ≤ o → cut (hint + l) = true → GalA cut n hint st x (none, l, o) st
inductive GalB (cut : Nat → Bool) (hint : Nat) (st : SortSt) (x : Nat) : Option (Option Nat) × Nat × Nat → SortSt → Prop
  | mk {l o} : l < o → l ≤ hint → x ≤ o → cut (hint - l) = false → GalB cut hint st x (none, l, o) st
inductive GalS (cut : Nat → Bool) (n : Nat) (st : SortSt) (x : Nat) : Option (Option Nat) × Nat × Nat → SortSt → Prop
  | mk {l o} : l ≤ o → o ≤ n → x + o ≤ n + l → (∀ i, i < l → cut i = true) → (∀ i, o ≤ i → i < n → cut i = false) → GalS cut n st x (none, l, o) st

theorem mins {o n h : Nat} (hn : h ≤ n) : ∃ p, min o (n - h) = p ∧ p ≤ o ∧ h + p ≤ n ∧ (p = o ∨ h + p = n) := by
  refine ⟨_, rfl, Nat.min_le_left _ _, by lia, by lia⟩
theorem wpS_gallop (hL : LtOk M A E s kd R P) {left : Bool} {key : Keyed} {arr : Array Keyed} {base n hint : Nat} {st : SortSt} {Q : Option Nat → SortSt → Prop}
    (hk : kindOf st = kd) (hP : P key) (hA : ∀ i, (hi : i < arr.size) → P arr[i]) (hb : base + n ≤ arr.size) (hh : hint < n)
    (hs : ∀ i j, i ≤ j → j < n → rk R arr (base + i) ≤ rk R arr (base + j))
    (h : ∀ k, k ≤ n → (∀ i, i < n → (i < k ↔ ahead left R key arr (base + i) = true)) → Q (some k) st) :
    wpS M A E s (gallop' left key arr base n hint) Q st := by
  obtain ⟨cut, hcut⟩ : ∃ cut : Nat → Bool, cut = fun i => ahead left R key arr (base + i) := ⟨_, rfl⟩
  have hm : ∀ i j, i ≤ j → j < n → cut j = true → cut i = true := by
    intro i j hij hj h1
    have h2 := hs i j hij hj
    subst hcut
    unfold ahead at h1 ⊢
    cases left <;> simp at h1 ⊢ <;> lia
  have hB : ∀ i (Q' : Option Bool → SortSt → Prop), i < n → Q' (some (cut i)) st →
      wpS M A E s (do let x ← elem' arr (base + i); if left then lt' x key else return (← lt' key x).map (!·)) Q' st := by
    intro i Q' hi h1
    have hi' : base + i < arr.size := by lia
    refine wpS_bind (wpS_elem hi' ?_)
    subst hcut
    simp only [ahead, rk_at hi'] at h1
    cases left with
    | true => simp only [if_true] at h1 ⊢; exact hL _ _ _ _ (hA _ hi') hP hk h1
    | false =>
      simp only [Bool.false_eq_true, if_false] at h1 ⊢
      exact wpS_bind (hL _ _ _ _ hP (hA _ hi') hk (wpS_pure h1))
  have hfin : ∀ k, k ≤ n → (∀ i, i < k → cut i = true) → (∀ i, k ≤ i → i < n → cut i = false) → Q (some k) st := by
    intro k hkn h1 h2
    refine h k hkn fun i hi => ⟨fun h3 => ?_, fun h3 => ?_⟩
    · have := h1 i h3; subst hcut; exact this
    · apply Classical.byContradiction; intro h4
      have := h2 i (by lia) hi; subst hcut; simp [h3] at this
  clear hs h
  refine wpS_bind ?_
  refine hB hint _ hh ?_
  dsimp +instances only
  apply wpS_later (fun lo hi => lo ≤ hi ∧ hi ≤ n ∧ (∀ i, i < lo → cut i = true) ∧ (∀ i, hi ≤ i → i < n → cut i = false))
  · intro J
    refine wpS_if (fun hc0 => ?_) fun hc0 => ?_
    · refine wpS_bind (wpS_mono (wpS_loop (fun x => GalA cut n hint st (x + 1))
        (Q := fun c st'' => GalA cut n hint st 0 c st'' ∧ (n - hint ≤ c.2.2 ∨ (hint + c.2.2 < n ∧ cut (hint + c.2.2) = false))) ?step ?fin (.mk (by lia) (by lia) (by lia) (by simpa using hc0))) ?post)
      case fin =>
        intro _ _ hI; refine hI.casesOn ?_; intro l o h1 h2 h3 h4
        exact ⟨.mk h1 h2 (by lia) h4, .inl (by dsimp only; lia)⟩
      case step =>
        intro x _ _ hx hI; refine hI.casesOn ?_; clear hI; intro l o h1 h2 h3 h4 K hD hY
        dsimp +instances only
        refine wpS_if (fun hge => wpS_pure (hD _ _ ⟨.mk h1 h2 (by lia) h4, .inl hge⟩)) fun hge => ?_
        refine wpS_bind (hB (hint + o) _ (by lia) ?_)
        cases hc : cut (hint + o) with
        | true =>
          simp only [Bool.not_true, Bool.false_eq_true, if_false]
          exact wpS_pure (hY _ _ (.mk (by lia) (by lia) (by lia) hc))
        | false =>
          simp only [Bool.not_false, if_true]
          exact wpS_pure (hD _ _ ⟨.mk h1 h2 (by lia) h4, .inr ⟨by dsimp only; lia, hc⟩⟩)
      case post =>
        intro _ _ ⟨hI, h4⟩; revert h4; refine hI.casesOn ?_; clear hI; intro l o h1 h2 _ h3 h4
        dsimp +instances only at h4 ⊢
        obtain ⟨p, hp, p1, p2, p3⟩ : ∃ p, min o (n - hint) = p ∧ p ≤ o ∧ hint + p ≤ n ∧ (p = o ∨ hint + p = n) := mins (by lia)
        rw [hp]
        have g1 : hint + l + 1 ≤ hint + p := by lia
        have g2 : hint + p ≤ n := p2
        have g3 : ∀ i, i < hint + l + 1 → cut i = true := fun i hi => hm i (hint + l) (by lia) h2 h3
        have g4 : ∀ i, hint + p ≤ i → i < n → cut i = false := by
          intro i h5 h6
          cases hc : cut i with
          | false => rfl
          | true =>
            rcases h4 with h7 | ⟨h7, h8⟩
            · exfalso; lia
            · have := hm (hint + o) i (by lia) h6 hc; rw [h8] at this; cases this
        generalize hint + l + 1 = lo at g1 g3 ⊢
        generalize hint + p = hi at g1 g2 g4 ⊢
        exact J lo hi ⟨g1, g2, g3, g4⟩
    · refine wpS_bind (wpS_mono (wpS_loop (fun x => GalB cut hint st (x + 1))
        (Q := fun c st'' => GalB cut hint st 0 c st'' ∧ (hint + 1 ≤ c.2.2 ∨ (c.2.2 ≤ hint ∧ cut (hint - c.2.2) = true))) ?step ?fin (.mk (by lia) (by lia) (by lia) (by simpa using hc0))) ?post)
      case fin =>
        intro _ _ hI; refine hI.casesOn ?_; intro l o h1 h2 h3 h4
        exact ⟨.mk h1 h2 (by lia) h4, .inl (by dsimp only; lia)⟩
      case step =>
        intro x _ _ hx hI; refine hI.casesOn ?_; clear hI; intro l o h1 h2 h3 h4 K hD hY
        dsimp +instances only
        refine wpS_if (fun hge => wpS_pure (hD _ _ ⟨.mk h1 h2 (by lia) h4, .inl hge⟩)) fun hge => ?_
        refine wpS_bind (hB (hint - o) _ (by lia) ?_)
        cases hc : cut (hint - o) with
        | false =>
          simp only [Bool.false_eq_true, if_false]
          exact wpS_pure (hY _ _ (.mk (by lia) (by lia) (by lia) hc))
        | true =>
          simp only [if_true]
          exact wpS_pure (hD _ _ ⟨.mk h1 h2 (by lia) h4, .inr ⟨by dsimp only; lia, hc⟩⟩)
      case post =>
        intro _ _ ⟨hI, h4⟩; revert h4; refine hI.casesOn ?_; clear hI; intro l o h1 h2 _ h3 h4
        dsimp +instances only at h4 ⊢
        obtain ⟨p, hp, g1, g3⟩ : ∃ p, hint + 1 - min o (hint + 1) = p ∧ p ≤ hint - l ∧ ∀ i, i < p → cut i = true := by
          rcases h4 with h7 | ⟨h7, h8⟩
          · exact ⟨0, by rw [Nat.min_eq_right h7, Nat.sub_self], Nat.zero_le _, fun i h => absurd h (Nat.not_lt_zero _)⟩
          · exact ⟨hint - o + 1, by rw [Nat.min_eq_left (by lia)]; lia, by lia, fun i h5 => hm i (hint - o) (Nat.le_of_lt_succ h5) (by lia) h8⟩
        rw [hp]
        have g2 : hint - l ≤ n := by lia
        have g4 : ∀ i, hint - l ≤ i → i < n → cut i = false := by
          intro i h5 h6
          cases hc : cut i with
          | false => rfl
          | true => have := hm (hint - l) i h5 h6 hc; rw [h3] at this; cases this
        generalize hint - l = hi at g1 g2 g4 ⊢
        exact J p hi ⟨g1, g2, g3, g4⟩
  rintro lo hi ⟨g1, g2, g3, g4⟩
  refine wpS_bind (wpS_mono (wpS_loop (GalS cut n st) (Q := fun c st' => GalS cut n st n c st' ∧ c.2.1 = c.2.2) ?istep ?ifin (.mk g1 g2 (by lia) g3 g4)) ?ipost)
  case ifin =>
    intro _ _ hI; refine hI.casesOn ?_; intro l o e1 e2 e3 e4 e5
    exact ⟨.mk e1 e2 (by lia) e4 e5, by dsimp only; lia⟩
  case istep =>
    intro x _ _ hx hI; refine hI.casesOn ?_; clear hI; intro l o e1 e2 e3 e4 e5 K hD hY
    dsimp +instances only
    refine wpS_if (fun hge => wpS_pure (hD _ _ ⟨.mk e1 e2 (by lia) e4 e5, by dsimp only; lia⟩)) fun hge => ?_
    obtain ⟨m, em, h1⟩ : ∃ m, (o - l) / 2 = m ∧ l + m < o := ⟨_, rfl, by lia⟩
    rw [em]
    refine wpS_bind (hB (l + m) _ (by lia) ?_)
    cases hc : cut (l + m) with
    | true =>
      simp only [if_true]
      exact wpS_pure (hY _ _ (.mk (by lia) (by lia) (by lia) (fun i hi => hm i _ (by lia) (by lia) hc) e5))
    | false =>
      simp only [Bool.false_eq_true, if_false]
      refine wpS_pure (hY _ _ (.mk (by lia) (by lia) (by lia) e4 (fun i h5 h6 => ?_)))
      cases hc' : cut i with
      | false => rfl
      | true => have := hm _ i h5 h6 hc'; rw [hc] at this; cases this
  intro _ _ ⟨hI, e6⟩; revert e6; refine hI.casesOn ?_; clear hI; intro l o e1 e2 _ e4 e5 e6
  dsimp +instances only at e6 ⊢
  subst e6
  exact wpS_pure (hfin _ e2 e4 e5)
end S1
end

section
set_option Elab.async false
namespace S1
open PySem PyProof PyProof.Rows

/-- the sort's state: the items in some order, nothing failed, these runs pending -/
structure SB (kd : SortKind) (a₀ : Array Keyed) (pd : Array (Nat × Nat × Nat)) (st : SortSt) : Prop where
  perm : (arrOf st).Perm a₀
  kind : kindOf st = kd
  failed : failedOf st = none
  pend : pendingOf st = pd

noncomputable def Seg (R : Keyed → Int) (xs : Array Keyed) (lo hi : Nat) : Prop := ∀ i j, lo ≤ i → i ≤ j → j < hi → rk R xs i ≤ rk R xs j
noncomputable def Same (xs ys : Array Keyed) (lo hi : Nat) : Prop := ∀ i, (i < lo ∨ hi ≤ i) → xs[i]? = ys[i]?

theorem Same.refl (xs : Array Keyed) (lo hi : Nat) : Same xs xs lo hi := fun _ _ => rfl
theorem Same.trans {xs ys zs : Array Keyed} {lo hi : Nat} (h1 : Same xs ys lo hi) (h2 : Same ys zs lo hi) : Same xs zs lo hi :=
  fun i h => (h1 i h).trans (h2 i h)
theorem Same.wide {xs ys : Array Keyed} {lo hi lo' hi' : Nat} (h1 : Same xs ys lo hi) (h2 : lo' ≤ lo) (h3 : hi ≤ hi') : Same xs ys lo' hi' :=
  fun i h => h1 i (by lia)
theorem Same.seg {R : Keyed → Int} {xs ys : Array Keyed} {lo hi a b : Nat} (h : Same xs ys lo hi) (hd : b ≤ lo ∨ hi ≤ a) (hs : Seg R ys a b) : Seg R xs a b := by
  intro i j h1 h2 h3
  have := hs i j h1 h2 h3
  unfold rk at this ⊢
  rw [h i (by lia), h j (by lia)]
  exact this

variable {kd : SortKind} {R : Keyed → Int} {P : Keyed → Prop} {a₀ : Array Keyed} {pd : Array (Nat × Nat × Nat)}

theorem SB.size {st : SortSt} (h : SB kd a₀ pd st) : (arrOf st).size = a₀.size := h.perm.size_eq
theorem SB.setArr {st : SortSt} (h : SB kd a₀ pd st) {xs : Array Keyed} (hp : xs.Perm (arrOf st)) : SB kd a₀ pd (PyProof.Rows.setArr st xs) :=
  ⟨hp.trans h.perm, h.kind, h.failed, h.pend⟩
theorem SB.all {st : SortSt} (h : SB kd a₀ pd st) (h0 : ∀ x, x ∈ a₀.toList → P x) : ∀ i, (hi : i < (arrOf st).size) → P (arrOf st)[i] := by
  intro i hi
  exact h0 _ ((Array.perm_iff_toList_perm.mp h.perm).mem_iff.mp (by simp))

theorem rk_congr {xs ys : Array Keyed} {i j : Nat} (h : xs[i]? = ys[j]?) : rk R xs i = rk R ys j := by unfold rk; rw [h]
theorem rk_bubble {xs : Array Keyed} {src d : Nat} (hs : src < xs.size) (hd : d ≤ src) (k : Nat) :
    rk R (bubble xs src d) k = if k = src - d then rk R xs src else if src - d < k ∧ k ≤ src then rk R xs (k - 1) else rk R xs k := by
  have e := getElem?_bubble hs d hd k
  by_cases h1 : k = src - d
  · rw [if_pos h1] at e ⊢; exact rk_congr e
  · rw [if_neg h1] at e ⊢
    by_cases h2 : src - d < k ∧ k ≤ src
    · rw [if_pos h2] at e ⊢; exact rk_congr e
    · rw [if_neg h2] at e ⊢; exact rk_congr e
theorem rk_mirror {xs : Array Keyed} {i j : Nat} (hj : j ≤ xs.size) (k : Nat) :
    rk R (mirror xs i j ((j - i) / 2)) k = if i ≤ k ∧ k < j then rk R xs (i + j - 1 - k) else rk R xs k := by
  have e := getElem?_mirror_all (i := i) hj k
  by_cases h1 : i ≤ k ∧ k < j
  · rw [if_pos h1] at e ⊢; exact rk_congr e
  · rw [if_neg h1] at e ⊢; exact rk_congr e
theorem same_bubble {xs : Array Keyed} {src d lo hi : Nat} (hs : src < xs.size) (hd : d ≤ src) (h1 : lo ≤ src - d) (h2 : src < hi) : Same (bubble xs src d) xs lo hi := by
  intro k hk
  rw [getElem?_bubble hs d hd k, if_neg (by lia), if_neg (by lia)]
theorem same_mirror {xs : Array Keyed} {i j lo hi : Nat} (hj : j ≤ xs.size) (h1 : lo ≤ i) (h2 : j ≤ hi) : Same (mirror xs i j ((j - i) / 2)) xs lo hi := by
  intro k hk
  rw [getElem?_mirror_all hj k, if_neg (by lia)]

variable {M : Model} {A : Around} {E : Value → Shared → Prop} {s : Shared}

theorem wpS_ltR (hL : LtOk M A E s kd R P) (h0 : ∀ x, x ∈ a₀.toList → P x) {st : SortSt} {i j : Nat} {Q : Option Bool → SortSt → Prop} (hB : SB kd a₀ pd st)
    (hi : i < a₀.size) (hj : j < a₀.size) (h : Q (some (decide (rk R (arrOf st) i < rk R (arrOf st) j))) st) : wpS M A E s (ltAt' i j) Q st := by
  have hi' : i < (arrOf st).size := by rw [hB.size]; exact hi
  have hj' : j < (arrOf st).size := by rw [hB.size]; exact hj
  rw [rk_at hi', rk_at hj'] at h
  rw [ltAt'_eq]
  refine wpS_bind (wpS_get ?_)
  refine wpS_bind (wpS_elem hi' (wpS_bind (wpS_elem hj' ?_)))
  exact hL _ _ _ _ (hB.all h0 _ hi') (hB.all h0 _ hj') hB.kind h

theorem Seg.bubbled {xs : Array Keyed} {lo p e : Nat} (hs : Seg R xs lo e) (hks : e < xs.size) (hl : lo ≤ p) (hp : p ≤ e) (hlo : ∀ i, lo ≤ i → i < p → rk R xs i ≤ rk R xs e)
    (hhi : ∀ i, p ≤ i → i < e → rk R xs e < rk R xs i) : Seg R (bubble xs e (e - p)) lo (e + 1) := by
  intro i j h1 h2 h3
  rw [rk_bubble hks (Nat.sub_le _ _), rk_bubble hks (Nat.sub_le _ _), Nat.sub_sub_self hp]
  have h3' := Nat.le_of_lt_succ h3
  clear h3 hks
  by_cases a1 : i = p
  · rw [if_pos a1]
    by_cases b1 : j = p
    · rw [if_pos b1]; exact Int.le_refl _
    · have b2 : p < j := by lia
      rw [if_neg b1, if_pos ⟨b2, h3'⟩]
      exact Int.le_of_lt (hhi _ (Nat.le_sub_one_of_lt b2) (by lia))
  · rw [if_neg a1]
    by_cases a2 : p < i
    · have b2 := Nat.lt_of_lt_of_le a2 h2
      rw [if_pos ⟨a2, Nat.le_trans h2 h3'⟩, if_neg (Nat.ne_of_gt b2), if_pos ⟨b2, h3'⟩]
      exact hs _ _ (by lia) (Nat.sub_le_sub_right h2 1) (by lia)
    · rw [if_neg (fun h => a2 h.1)]
      have a3 : i < p := by lia
      by_cases b1 : j = p
      · rw [if_pos b1]; exact hlo i h1 a3
      · rw [if_neg b1]
        by_cases b2 : p < j
        · rw [if_pos ⟨b2, h3'⟩]
          exact hs _ _ h1 (Nat.le_trans (Nat.le_of_lt_succ (Nat.lt_succ_of_lt a3)) (Nat.le_sub_one_of_lt b2)) (by lia)
        · rw [if_neg (fun h => b2 h.1)]
          exact hs _ _ h1 h2 (by lia)

inductive BinI (R : Keyed → Int) (st : SortSt) (lo k x : Nat) : Option Bool × Nat × Nat → SortSt → Prop
  | mk {l r} : l ≤ r → r ≤ k → x + r ≤ k + l → (∀ i, i < l → rk R (arrOf st) (lo + i) ≤ rk R (arrOf st) (lo + k)) →
      (∀ i, r ≤ i → i < k → rk R (arrOf st) (lo + k) < rk R (arrOf st) (lo + i)) → BinI R st lo k x (none, l, r) st
inductive BinO (kd : SortKind) (R : Keyed → Int) (a₀ : Array Keyed) (pd : Array (Nat × Nat × Nat)) (st : SortSt) (lo n k : Nat) : Option Bool × Unit → SortSt → Prop
  | mk {u st'} : SB kd a₀ pd st' → Seg R (arrOf st') lo (lo + min k n) → Same (arrOf st') (arrOf st) lo (lo + n) → BinO kd R a₀ pd st lo n k (none, u) st'

theorem wpS_binary (hL : LtOk M A E s kd R P) (h0 : ∀ x, x ∈ a₀.toList → P x) {st : SortSt} {lo n ok : Nat} {Q : Bool → SortSt → Prop} (hn : lo + n ≤ a₀.size) (hok : ok ≤ n)
    (hB : SB kd a₀ pd st) (hs : Seg R (arrOf st) lo (lo + ok))
    (h : ∀ st', SB kd a₀ pd st' → Seg R (arrOf st') lo (lo + n) → Same (arrOf st') (arrOf st) lo (lo + n) → Q true st') : wpS M A E s (binarySort' lo n ok) Q st := by
  refine wpS_bind (wpS_mono (wpS_loop (BinO kd R a₀ pd st lo n) (Q := BinO kd R a₀ pd st lo n n) ?step ?fin ?init) ?post)
  case post =>
    intro _ _ hI; refine hI.casesOn ?_; intro _ st' hB' hs' hF
    rw [Nat.min_self] at hs'
    exact wpS_pure (h _ hB' hs' hF)
  case init =>
    refine .mk hB (fun i j hl hij hj => ?_) (Same.refl _ _ _)
    by_cases h1 : ok = 0
    · have : i = j := by lia
      subst this; exact Int.le_refl _
    · exact hs i j hl hij (by lia)
  case fin =>
    intro _ _ hI; refine hI.casesOn ?_; intro _ st' hB' hs' hF
    refine .mk hB' ?_ hF
    rwa [Nat.min_self, ← Nat.min_eq_right (Nat.le_max_right (max ok 1) n)]
  intro k _ _ hkn hI; refine hI.casesOn ?_; clear hI; intro _ st' hB' hs' hF K hD hY
  rw [Nat.min_eq_left (Nat.le_of_lt hkn)] at hs'
  have hk : lo + k < a₀.size := Nat.lt_of_lt_of_le (Nat.add_lt_add_left hkn lo) hn
  refine wpS_bind (wpS_mono (wpS_loop (BinI R st' lo k) (Q := fun c st'' => BinI R st' lo k k c st'' ∧ c.2.1 = c.2.2) ?istep ?ifin
    (.mk (Nat.zero_le _) (Nat.le_refl _) (by lia) (fun i hi => absurd hi (Nat.not_lt_zero _)) (fun i h1 h2 => absurd h2 (Nat.not_lt_of_le h1)))) ?ipost)
  case ifin =>
    intro _ _ hI; refine hI.casesOn ?_; intro l r hlr hrk hm hlo hhi
    exact ⟨.mk hlr hrk (by lia) hlo hhi, by dsimp only; lia⟩
  case istep =>
    intro x _ _ hxk hI; refine hI.casesOn ?_; clear hI; intro l r hlr hrk hm hlo hhi K hD hY
    dsimp +instances only
    refine wpS_if (fun hge => wpS_pure (hD _ _ ⟨.mk hlr hrk (by lia) hlo hhi, Nat.le_antisymm hlr hge⟩)) fun hge => ?_
    obtain ⟨m, em, g1, g2⟩ : ∃ m, (l + r) / 2 = m ∧ l ≤ m ∧ m < r := ⟨_, rfl, by lia, by lia⟩
    rw [em]
    clear em
    refine wpS_bind (wpS_ltR hL h0 hB' hk (by lia) ?_)
    by_cases hless : rk R (arrOf st') (lo + k) < rk R (arrOf st') (lo + m)
    · simp only [hless, decide_true, if_true]
      refine wpS_pure (hY _ _ (.mk g1 (by lia) (by lia) hlo fun i h1 h2 => ?_))
      exact Int.lt_of_lt_of_le hless (hs' _ _ (Nat.le_add_right _ _) (Nat.add_le_add_left h1 lo) (Nat.add_lt_add_left h2 lo))
    · simp only [hless, decide_false, Bool.false_eq_true, if_false]
      refine wpS_pure (hY _ _ (.mk g2 hrk (by lia) (fun i h1 => ?_) hhi))
      exact Int.le_trans (hs' (lo + i) (lo + m) (Nat.le_add_right _ _) (Nat.add_le_add_left (Nat.le_of_lt_succ h1) lo) (by lia)) (Int.not_lt.mp hless)
  intro _ _ ⟨hI, e6⟩; revert e6; refine hI.casesOn ?_; clear hI; intro l r hlk hrk _ hlo hhi e6
  dsimp +instances only at e6 ⊢
  subst e6
  have hks : lo + k < (arrOf st').size := by rw [hB'.size]; exact hk
  refine wpS_bind (wpS_modify (wpS_pure (hY _ _ (.mk (hB'.setArr (bubble_perm _ (lo + k) (lo + k - (lo + l)))) ?_ ((same_bubble hks (by lia) (by lia) (by lia)).trans hF)))))
  rw [Nat.min_eq_left hkn]
  refine Seg.bubbled hs' hks (Nat.le_add_right _ _) (Nat.add_le_add_left hrk lo) (fun i h1 h2 => ?_) (fun i h1 h2 => ?_)
  · have := hlo (i - lo) (by lia)
    rwa [Nat.add_sub_cancel' h1] at this
  · have h3 : lo ≤ i := Nat.le_trans (Nat.le_add_right _ _) h1
    have := hhi (i - lo) (by lia) (by lia)
    rwa [Nat.add_sub_cancel' h3] at this
end S1
end

section
set_option Elab.async false
namespace S1
open PySem PyProof PyProof.Rows
variable {kd : SortKind} {R : Keyed → Int} {P : Keyed → Prop} {a₀ : Array Keyed} {pd : Array (Nat × Nat × Nat)}
variable {prog : Program} {w : World} {A : Around} {E : Value → Shared → Prop} {s : Shared}

noncomputable def Down (R : Keyed → Int) (xs : Array Keyed) (lo hi : Nat) : Prop := ∀ i j, lo ≤ i → i ≤ j → j < hi → rk R xs j ≤ rk R xs i

theorem wpS_reverseR {M : Model} {st : SortSt} {i j : Nat} {Q : Unit → SortSt → Prop} (h : Q () (setArr st (mirror (arrOf st) i j ((j - i) / 2)))) :
    wpS M A E s (reverseSlice' i j) Q st := by
  rw [reverseSlice'_eq]; exact wpS_modify h

theorem rk_mirror_equal {xs : Array Keyed} {i j : Nat} (hj : j ≤ xs.size) (heq : ∀ k, i ≤ k → k < j → rk R xs k = rk R xs (j - 1)) (k : Nat) :
    rk R (mirror xs i j ((j - i) / 2)) k = rk R xs k := by
  rw [rk_mirror hj]
  split
  · rw [heq _ (by lia) (by lia), heq k (by lia) (by lia)]
  · rfl

theorem Seg.snoc {xs : Array Keyed} {lo x : Nat} (h : Seg R xs lo (lo + x)) (h1 : 1 ≤ x) (h2 : rk R xs (lo + x - 1) ≤ rk R xs (lo + x)) : Seg R xs lo (lo + (x + 1)) := by
  intro i j g1 g2 g3
  by_cases hj : j < lo + x
  · exact h i j g1 g2 hj
  · have : j = lo + x := by lia
    subst this
    by_cases hi : i = lo + x
    · subst hi; exact Int.le_refl _
    · exact Int.le_trans (h i (lo + x - 1) g1 (by lia) (by lia)) h2
theorem Down.snoc {xs : Array Keyed} {lo x : Nat} (h : Down R xs lo (lo + x)) (h1 : 1 ≤ x) (h2 : rk R xs (lo + x) ≤ rk R xs (lo + x - 1)) : Down R xs lo (lo + (x + 1)) := by
  intro i j g1 g2 g3
  by_cases hj : j < lo + x
  · exact h i j g1 g2 hj
  · have : j = lo + x := by lia
    subst this
    by_cases hi : i = lo + x
    · subst hi; exact Int.le_refl _
    · exact Int.le_trans h2 (h i (lo + x - 1) g1 (by lia) (by lia))
theorem Down.eqv {xs ys : Array Keyed} {lo hi : Nat} (h : Down R xs lo hi) (e : ∀ k, rk R ys k = rk R xs k) : Down R ys lo hi := by
  intro i j g1 g2 g3
  rw [e, e]
  exact h i j g1 g2 g3

theorem wpS_ruleR {t : String} {σ : Type} {st : σ} {Q : Unit → σ → Prop} (h : Q () st) : wpS (model prog w) A E s (liftM (rule t) : StateT σ Sem Unit) Q st :=
  wpS_lift (wpAny_rule ⟨rfl, h⟩)

inductive RunI (R : Keyed → Int) (st : SortSt) (lo nrem x : Nat) : Option (Option Nat) × Nat → SortSt → Prop
  | mk : 1 ≤ x → x ≤ nrem → Seg R (arrOf st) lo (lo + x) → RunI R st lo nrem x (none, x) st
inductive RunQ (R : Keyed → Int) (st : SortSt) (lo nrem : Nat) : Option (Option Nat) × Nat → SortSt → Prop
  | mk {n} : 1 ≤ n → n ≤ nrem → Seg R (arrOf st) lo (lo + n) → (n = nrem ∨ rk R (arrOf st) (lo + n) < rk R (arrOf st) (lo + n - 1)) → RunQ R st lo nrem (none, n) st
/-- the falling run of m items, its last q + 1 alike -/
inductive RunD (kd : SortKind) (a₀ : Array Keyed) (pd : Array (Nat × Nat × Nat)) (R : Keyed → Int) (st : SortSt) (lo nrem : Nat) (m : Nat) : Option (Option Nat) × Nat × Nat → SortSt → Prop
  | mk {q st2} : SB kd a₀ pd st2 → Same (arrOf st2) (arrOf st) lo (lo + nrem) → Down R (arrOf st2) lo (lo + m) → q + 1 ≤ m → m ≤ nrem →
      (∀ i, lo + m - (q + 1) ≤ i → i < lo + m → rk R (arrOf st2) i = rk R (arrOf st2) (lo + m - 1)) → RunD kd a₀ pd R st lo nrem m (none, m, q) st2
inductive RunT (R : Keyed → Int) (st : SortSt) (lo nrem : Nat) : Option (Option Nat) × Nat → SortSt → Prop
  | mk {n} : 1 ≤ n → n ≤ nrem → Seg R (arrOf st) lo (lo + n) → RunT R st lo nrem (none, n) st

theorem Seg.one {xs : Array Keyed} {lo : Nat} : Seg R xs lo (lo + 1) := by
  intro i j g1 g2 g3
  have : i = j := by lia
  subst this; exact Int.le_refl _
theorem Down.toSeg {xs : Array Keyed} {lo m : Nat} (h : Down R xs lo (lo + m)) (hsz : lo + m ≤ xs.size) : Seg R (mirror xs lo (lo + m) ((lo + m - lo) / 2)) lo (lo + m) := by
  intro i j g1 g2 g3
  rw [rk_mirror hsz, rk_mirror hsz, if_pos (by lia), if_pos (by lia)]
  exact h _ _ (by lia) (by lia) (by lia)
theorem Down.one {xs : Array Keyed} {lo n : Nat} (hn : n = 1) (h : rk R xs (lo + n) < rk R xs (lo + n - 1)) : Down R xs lo (lo + (n + 1)) := by
  intro i j g1 g2 g3
  by_cases hij : i = j
  · subst hij; exact Int.le_refl _
  · have e1 : lo + n - 1 = i := by lia
    have e2 : lo + n = j := by lia
    rw [e1, e2] at h
    exact Int.le_of_lt h
theorem Down.flat {xs : Array Keyed} {lo n : Nat} (hs : Seg R xs lo (lo + n)) (hr : ¬ rk R xs lo < rk R xs (lo + n - 1)) (h : rk R xs (lo + n) < rk R xs (lo + n - 1)) (hn : n > 1) (hsz : lo + n ≤ xs.size) :
    Down R (mirror xs lo (lo + n) ((lo + n - lo) / 2)) lo (lo + (n + 1)) := by
  have heq : ∀ k, lo ≤ k → k < lo + n → rk R xs k = rk R xs (lo + n - 1) := by
    intro k g1 g2
    have e1 := hs lo k (by lia) g1 g2
    have e2 := hs k (lo + n - 1) g1 (by lia) (by lia)
    lia
  intro i j g1 g2 g3
  rw [rk_mirror_equal hsz heq, rk_mirror_equal hsz heq]
  by_cases hj : j < lo + n
  · rw [heq j (by lia) hj, heq i (by lia) (by lia)]; exact Int.le_refl _
  · have : j = lo + n := by lia
    subst this
    by_cases hi : i = lo + n
    · subst hi; exact Int.le_refl _
    · rw [heq i (by lia) (by lia)]; exact Int.le_of_lt h

theorem wpS_run (hL : LtOk (model prog w) A E s kd R P) (h0 : ∀ x, x ∈ a₀.toList → P x) {st : SortSt} {lo nrem : Nat} {Q : Option Nat → SortSt → Prop} (hn : lo + nrem ≤ a₀.size) (h1 : 1 ≤ nrem)
    (hB : SB kd a₀ pd st)
    (h : ∀ m st', 1 ≤ m → m ≤ nrem → SB kd a₀ pd st' → Seg R (arrOf st') lo (lo + m) → Same (arrOf st') (arrOf st) lo (lo + nrem) → Q (some m) st') :
    wpS (model prog w) A E s (countRun' lo nrem) Q st := by
  refine wpS_bind (wpS_mono (wpS_loop (RunI R st lo nrem) (Q := RunQ R st lo nrem) ?step ?fin (.mk (Nat.le_refl _) h1 .one)) ?post)
  case fin =>
    intro _ _ hI; refine hI.casesOn ?_; intro _ hx hs'
    refine .mk (by lia) hx hs' (.inl (by lia))
  case step =>
    intro x _ _ hxn hI; refine hI.casesOn ?_; clear hI; intro hax hx hs' K hD hY
    dsimp +instances only
    refine wpS_bind (wpS_ltR hL h0 hB (by lia) (by lia) ?_)
    by_cases hless : rk R (arrOf st) (lo + x) < rk R (arrOf st) (lo + x - 1)
    · simp only [hless, decide_true, if_true]
      exact wpS_pure (hD _ _ (.mk hax hx hs' (.inr hless)))
    · simp only [hless, decide_false, Bool.false_eq_true, if_false]
      exact wpS_pure (hY _ _ (.mk (by lia) (by lia) (hs'.snoc hax (Int.not_lt.mp hless))))
  intro _ _ hI; refine hI.casesOn ?_; clear hI; intro n hn1 hnn hs hlast
  dsimp +instances only
  refine wpS_ifE (fun hall => wpS_pure (h _ _ hn1 hnn hB hs (Same.refl _ _ _))) fun hall => ?_
  have hlast' : rk R (arrOf st) (lo + n) < rk R (arrOf st) (lo + n - 1) := hlast.resolve_left hall
  have hsz : lo + n ≤ (arrOf st).size := by rw [hB.size]; lia
  clear hlast
  refine wpS_ifS (fun st1 => SB kd a₀ pd st1 ∧ Same (arrOf st1) (arrOf st) lo (lo + nrem) ∧ Down R (arrOf st1) lo (lo + (n + 1))) ?rest ?pos ?neg
  case neg => exact fun hn2 => ⟨hB, Same.refl _ _ _, .one (by lia) hlast'⟩
  case pos =>
    intro hn2 J
    refine wpS_bind (wpS_ltR hL h0 hB (by lia) (by lia) ?_)
    by_cases hrose : rk R (arrOf st) lo < rk R (arrOf st) (lo + n - 1)
    · simp only [hrose, decide_true, if_true]
      exact wpS_pure (h _ _ hn1 hnn hB hs (Same.refl _ _ _))
    · simp only [hrose, decide_false, Bool.false_eq_true, if_false]
      exact wpS_bind (wpS_reverseR (J _ ⟨hB.setArr (mirror_perm _ _ _ _), same_mirror hsz (by lia) (by lia), .flat hs hrose hlast' hn2 hsz⟩))
  rintro st1 ⟨hB1, hF1, hN1⟩
  refine wpS_bind (wpS_ruleR ?_)
  refine wpS_bind (wpS_mono (wpS_loop (RunD kd a₀ pd R st lo nrem) (Q := fun c st2 => ∃ m, RunD kd a₀ pd R st lo nrem m c st2) ?dstep (fun _ _ h => ⟨_, h⟩)
      (.mk hB1 hF1 hN1 (by lia) (by lia) (fun i g1 g2 => by congr 1; lia))) ?dpost)
  case dstep =>
    clear hB1 hF1 hN1
    intro x _ _ hxn hI; refine hI.casesOn ?_; clear hI; intro q st2 hB2 hF2 hN2 hq hx hE K hD hY
    have hsz2 : lo + x ≤ (arrOf st2).size := by rw [hB2.size]; lia
    dsimp +instances only
    refine wpS_bind (wpS_ltR hL h0 hB2 (by lia) (by lia) ?_)
    by_cases hless : rk R (arrOf st2) (lo + x) < rk R (arrOf st2) (lo + x - 1)
    · simp only [hless, decide_true, if_true]
      have hN3 := hN2.snoc (by lia) (Int.le_of_lt hless)
      refine wpS_if (fun hq0 => ?_) fun hq0 => ?_
      · exact wpS_bind (wpS_reverseR (wpS_pure (hY _ _ (.mk (hB2.setArr (mirror_perm _ _ _ _)) ((same_mirror hsz2 (by lia) (by lia)).trans hF2)
          (hN3.eqv (rk_mirror_equal hsz2 hE)) (by lia) (by lia) (fun i g1 g2 => by congr 1; lia)))))
      · exact wpS_pure (hY _ _ (.mk hB2 hF2 hN3 (by lia) (by lia) (fun i g1 g2 => by congr 1; lia)))
    · simp only [hless, decide_false, Bool.false_eq_true, if_false]
      refine wpS_bind (wpS_ltR hL h0 hB2 (by lia) (by lia) ?_)
      by_cases hmore : rk R (arrOf st2) (lo + x - 1) < rk R (arrOf st2) (lo + x)
      · simp only [hmore, decide_true, if_true]
        exact wpS_pure (hD _ _ ⟨x, .mk hB2 hF2 hN2 hq hx hE⟩)
      · simp only [hmore, decide_false, Bool.false_eq_true, if_false]
        refine wpS_pure (hY _ _ (.mk hB2 hF2 (hN2.snoc (by lia) (by lia)) (by lia) (by lia) (fun i g1 g2 => ?_)))
        rw [show lo + (x + 1) - 1 = lo + x by lia]
        by_cases hi : i = lo + x
        · rw [hi]
        · rw [hE i (by lia) (by lia)]; lia
  clear hB1 hF1 hN1 st1 hlast' hsz hs hn1 hnn hall n
  intro _ _ ⟨m, hI⟩; refine hI.casesOn ?_; clear hI; intro q st2 hB2 hF2 hN2 hq hm hE
  have hsz2 : lo + m ≤ (arrOf st2).size := by rw [hB2.size]; lia
  dsimp +instances only
  refine wpS_ifS (fun st3 => SB kd a₀ pd st3 ∧ Same (arrOf st3) (arrOf st) lo (lo + nrem) ∧ Down R (arrOf st3) lo (lo + m)) ?rest2 ?pos2 ?neg2
  case neg2 => exact fun _ => ⟨hB2, hF2, hN2⟩
  case pos2 =>
    intro hq0 J
    exact wpS_bind (wpS_reverseR (J _ ⟨hB2.setArr (mirror_perm _ _ _ _), (same_mirror hsz2 (by lia) (by lia)).trans hF2, hN2.eqv (rk_mirror_equal hsz2 hE)⟩))
  clear hB2 hF2 hN2 hE hsz2 st2
  rintro st3 ⟨hB3, hF3, hN3⟩
  have hsz3 : lo + m ≤ (arrOf st3).size := by rw [hB3.size]; lia
  refine wpS_bind (wpS_reverseR ?_)
  have hS4 : Seg R (arrOf (setArr st3 (mirror (arrOf st3) lo (lo + m) ((lo + m - lo) / 2)))) lo (lo + m) := hN3.toSeg hsz3
  have hB4 : SB kd a₀ pd (setArr st3 (mirror (arrOf st3) lo (lo + m) ((lo + m - lo) / 2))) := hB3.setArr (mirror_perm _ _ _ _)
  have hF4 : Same (arrOf (setArr st3 (mirror (arrOf st3) lo (lo + m) ((lo + m - lo) / 2)))) (arrOf st) lo (lo + nrem) := (same_mirror hsz3 (by lia) (by lia)).trans hF3
  generalize setArr st3 (mirror (arrOf st3) lo (lo + m) ((lo + m - lo) / 2)) = st4 at hS4 hB4 hF4 ⊢
  clear hB3 hF3 hN3 hsz3 st3
  refine wpS_bind (wpS_mono (wpS_loop (RunI R st4 lo nrem) (Q := RunT R st4 lo nrem) ?tstep ?tfin (.mk (by lia) (by lia) hS4)) ?tpost)
  case tfin =>
    intro _ _ hI; refine hI.casesOn ?_; intro _ e1 e2
    exact .mk (by lia) e1 e2
  case tstep =>
    intro x _ _ hxn hI; refine hI.casesOn ?_; clear hI; intro hax e1 e2 K hD hY
    dsimp +instances only
    refine wpS_bind (wpS_ltR hL h0 hB4 (by lia) (by lia) ?_)
    by_cases hless : rk R (arrOf st4) (lo + x) < rk R (arrOf st4) (lo + x - 1)
    · simp only [hless, decide_true, if_true]
      exact wpS_pure (hD _ _ (.mk hax e1 e2))
    · simp only [hless, decide_false, Bool.false_eq_true, if_false]
      exact wpS_pure (hY _ _ (.mk (by lia) (by lia) (e2.snoc hax (Int.not_lt.mp hless))))
  intro _ _ hI; refine hI.casesOn ?_; intro _ e1 e2 e3
  exact wpS_pure (h _ _ e1 e2 hB4 e3 hF4)
end S1
end

section
set_option Elab.async false
namespace S1
open PySem PyProof PyProof.Rows
variable {R : Keyed → Int}

noncomputable def Up (R : Keyed → Int) (l : List Keyed) : Prop := l.Pairwise (fun u v => R u ≤ R v)

/-- merging forward: o is done, x and y are left -/
structure Fwd (R : Keyed → Int) (L o x y : List Keyed) : Prop where
  perm : (o ++ x ++ y).Perm L
  up : Up R o
  le : ∀ u, u ∈ o → ∀ v, v ∈ x ++ y → R u ≤ R v
  ux : Up R x
  uy : Up R y

theorem Fwd.takeX {L o p x y : List Keyed} (h : Fwd R L o (p ++ x) y) (hp : ∀ u, u ∈ p → ∀ v, v ∈ y → R u ≤ R v) : Fwd R L (o ++ p) x y := by
  have hx := List.pairwise_append.mp h.ux
  refine ⟨by have := h.perm; simpa using this, List.pairwise_append.mpr ⟨h.up, hx.1, fun u hu v hv => h.le u hu v (by simp [hv])⟩, ?_, hx.2.1, h.uy⟩
  intro u hu v hv
  rcases List.mem_append.mp hu with hu | hu
  · refine h.le u hu v ?_
    simp only [List.mem_append] at hv ⊢
    first | (rcases hv with hv | hv <;> simp [hv]) | (rcases hu with hu | hu <;> simp [hu])
  · rcases List.mem_append.mp hv with hv | hv
    · exact hx.2.2 u hu v hv
    · exact hp u hu v hv

theorem Fwd.takeY {L o p x y : List Keyed} (h : Fwd R L o x (p ++ y)) (hp : ∀ u, u ∈ p → ∀ v, v ∈ x → R u ≤ R v) : Fwd R L (o ++ p) x y := by
  have hy := List.pairwise_append.mp h.uy
  refine ⟨?_, List.pairwise_append.mpr ⟨h.up, hy.1, fun u hu v hv => h.le u hu v (by simp [hv])⟩, ?_, h.ux, hy.2.1⟩
  · refine List.Perm.trans ?_ h.perm
    rw [List.append_assoc, List.append_assoc, List.append_assoc]
    refine List.Perm.append_left o ?_
    rw [← List.append_assoc, ← List.append_assoc]
    exact List.Perm.append_right y List.perm_append_comm
  · intro u hu v hv
    rcases List.mem_append.mp hu with hu | hu
    · refine h.le u hu v ?_
      simp only [List.mem_append] at hv ⊢
      first | (rcases hv with hv | hv <;> simp [hv]) | (rcases hu with hu | hu <;> simp [hu])
    · rcases List.mem_append.mp hv with hv | hv
      · exact hp u hu v hv
      · exact hy.2.2 u hu v hv

theorem Fwd.endX {L o x : List Keyed} (h : Fwd R L o x []) : (o ++ x).Perm L ∧ Up R (o ++ x) := by
  refine ⟨by simpa using h.perm, List.pairwise_append.mpr ⟨h.up, h.ux, fun u hu v hv => h.le u hu v (by simp [hv])⟩⟩
theorem Fwd.endY {L o y : List Keyed} (h : Fwd R L o [] y) : (o ++ y).Perm L ∧ Up R (o ++ y) := by
  refine ⟨by simpa using h.perm, List.pairwise_append.mpr ⟨h.up, h.uy, fun u hu v hv => h.le u hu v (by simp [hv])⟩⟩
theorem Fwd.endXY {L o x y : List Keyed} (h : Fwd R L o x y) (hp : ∀ u, u ∈ y → ∀ v, v ∈ x → R u ≤ R v) : (o ++ y ++ x).Perm L ∧ Up R (o ++ y ++ x) := by
  have h1 : Fwd R L o x (y ++ []) := by simpa using h
  have h2 := h1.takeY hp
  exact h2.endX

/-- merging backward: x and y are left, o is done -/
structure Bwd (R : Keyed → Int) (L x y o : List Keyed) : Prop where
  perm : (x ++ y ++ o).Perm L
  up : Up R o
  le : ∀ u, u ∈ x ++ y → ∀ v, v ∈ o → R u ≤ R v
  ux : Up R x
  uy : Up R y

theorem Bwd.takeY {L x y p o : List Keyed} (h : Bwd R L x (y ++ p) o) (hp : ∀ u, u ∈ x → ∀ v, v ∈ p → R u ≤ R v) : Bwd R L x y (p ++ o) := by
  have hy := List.pairwise_append.mp h.uy
  refine ⟨by have := h.perm; simpa using this, List.pairwise_append.mpr ⟨hy.2.1, h.up, fun u hu v hv => h.le u (by simp [hu]) v hv⟩, ?_, h.ux, hy.1⟩
  intro u hu v hv
  rcases List.mem_append.mp hv with hv | hv
  · rcases List.mem_append.mp hu with hu | hu
    · exact hp u hu v hv
    · exact hy.2.2 u hu v hv
  · refine h.le u ?_ v hv
    simp only [List.mem_append] at hu ⊢
    first | (rcases hv with hv | hv <;> simp [hv]) | (rcases hu with hu | hu <;> simp [hu])

theorem Bwd.takeX {L x y p o : List Keyed} (h : Bwd R L (x ++ p) y o) (hp : ∀ u, u ∈ y → ∀ v, v ∈ p → R u ≤ R v) : Bwd R L x y (p ++ o) := by
  have hx := List.pairwise_append.mp h.ux
  refine ⟨?_, List.pairwise_append.mpr ⟨hx.2.1, h.up, fun u hu v hv => h.le u (by simp [hu]) v hv⟩, ?_, hx.1, h.uy⟩
  · refine List.Perm.trans ?_ h.perm
    rw [List.append_assoc, List.append_assoc, List.append_assoc]
    refine List.Perm.append_left x ?_
    rw [← List.append_assoc, ← List.append_assoc]
    exact List.Perm.append_right o List.perm_append_comm
  · intro u hu v hv
    rcases List.mem_append.mp hv with hv | hv
    · rcases List.mem_append.mp hu with hu | hu
      · exact hx.2.2 u hu v hv
      · exact hp u hu v hv
    · refine h.le u ?_ v hv
      simp only [List.mem_append] at hu ⊢
      first | (rcases hv with hv | hv <;> simp [hv]) | (rcases hu with hu | hu <;> simp [hu])

theorem Bwd.endX {L x o : List Keyed} (h : Bwd R L x [] o) : (x ++ o).Perm L ∧ Up R (x ++ o) := by
  refine ⟨by simpa using h.perm, List.pairwise_append.mpr ⟨h.ux, h.up, fun u hu v hv => h.le u (by simp [hu]) v hv⟩⟩
theorem Bwd.endY {L y o : List Keyed} (h : Bwd R L [] y o) : (y ++ o).Perm L ∧ Up R (y ++ o) := by
  refine ⟨by simpa using h.perm, List.pairwise_append.mpr ⟨h.uy, h.up, fun u hu v hv => h.le u (by simp [hu]) v hv⟩⟩
theorem Bwd.endXY {L x y o : List Keyed} (h : Bwd R L x y o) (hp : ∀ u, u ∈ y → ∀ v, v ∈ x → R u ≤ R v) : (y ++ x ++ o).Perm L ∧ Up R (y ++ x ++ o) := by
  have h1 : Bwd R L ([] ++ x) y o := by simpa using h
  have h2 := (h1.takeX hp).endY
  simpa using h2
end S1
end

section
set_option Elab.async false
namespace S1
open PySem PyProof PyProof.Rows
variable {R : Keyed → Int}

theorem toList_ext (a : Array Keyed) (i j : Nat) : (a.extract i j).toList = (a.toList.drop i).take (j - i) := by
  simp [List.extract]

theorem drop_split (l : List Keyed) (i k : Nat) : l.drop i = (l.drop i).take k ++ l.drop (i + k) := by
  rw [← List.drop_drop, List.take_append_drop]

theorem mem_piece {a : Array Keyed} {i k : Nat} {u : Keyed} (h : u ∈ (a.toList.drop i).take k) : ∃ j, j < k ∧ i + j < a.size ∧ R u = rk R a (i + j) := by
  obtain ⟨j, hj, rfl⟩ := List.mem_iff_getElem.mp h
  simp only [List.length_take, List.length_drop, Array.length_toList] at hj
  have hij : i + j < a.size := by lia
  refine ⟨j, by lia, hij, ?_⟩
  rw [rk_at hij]
  simp

theorem mem_rest {a : Array Keyed} {i : Nat} {u : Keyed} (h : u ∈ a.toList.drop i) : ∃ j, i ≤ j ∧ j < a.size ∧ R u = rk R a j := by
  have h' : u ∈ (a.toList.drop i).take (a.size - i) := by rw [List.take_of_length_le (by simp)]; exact h
  obtain ⟨j, hj, hij, e⟩ := mem_piece (R := R) h'
  exact ⟨i + j, by lia, hij, e⟩

theorem mem_front {a : Array Keyed} {n : Nat} {u : Keyed} (h : u ∈ a.toList.take n) : ∃ j, j < n ∧ j < a.size ∧ R u = rk R a j := by
  have h' : u ∈ (a.toList.drop 0).take n := by rw [List.drop_zero]; exact h
  obtain ⟨j, hj, hij, e⟩ := mem_piece (R := R) h'
  exact ⟨0 + j, by lia, hij, e⟩

theorem push_ext {b out : Array Keyed} {i : Nat} (hi : i < b.size) : out.push b[i] = out ++ b.extract i (i + 1) := by
  apply Array.toList_inj.mp
  rw [Array.toList_push, Array.toList_append, toList_ext, show i + 1 - i = 1 by lia]
  congr 1
  rw [List.drop_eq_getElem_cons (by simpa using hi)]
  simp

/-- what is asked of a merge's answer -/
noncomputable def Res (R : Keyed → Int) (a b out : Array Keyed) : Prop := out.toList.Perm (a.toList ++ b.toList) ∧ Up R out.toList

noncomputable def Lo (R : Keyed → Int) (a b out : Array Keyed) (ia ib : Nat) : Prop :=
  Fwd R (a.toList ++ b.toList) out.toList (a.toList.drop ia) (b.toList.drop ib)

variable {a b out : Array Keyed} {ia ib : Nat}

theorem Lo.ak (h : Lo R a b out ia ib) (hb : Seg R b 0 b.size) (k : Nat) (hk : ∀ i, i < k → ia + i < a.size → rk R a (ia + i) ≤ rk R b ib) (hib : ib < b.size) :
    Lo R a b (out ++ a.extract ia (ia + k)) (ia + k) ib := by
  unfold Lo at h ⊢
  rw [drop_split _ ia k] at h
  rw [Array.toList_append, toList_ext, show ia + k - ia = k by lia]
  refine h.takeX fun u hu v hv => ?_
  obtain ⟨j, h1, h2, e1⟩ := mem_piece (R := R) hu
  obtain ⟨l, h3, h4, e2⟩ := mem_rest (R := R) hv
  rw [e1, e2]
  exact Int.le_trans (hk j h1 h2) (hb ib l (by lia) h3 h4)

theorem Lo.bk (h : Lo R a b out ia ib) (ha : Seg R a 0 a.size) (k : Nat) (hk : ∀ i, i < k → ib + i < b.size → rk R b (ib + i) ≤ rk R a ia) (hia : ia < a.size) :
    Lo R a b (out ++ b.extract ib (ib + k)) ia (ib + k) := by
  unfold Lo at h ⊢
  rw [drop_split b.toList ib k] at h
  rw [Array.toList_append, toList_ext, show ib + k - ib = k by lia]
  refine h.takeY fun u hu v hv => ?_
  obtain ⟨j, h1, h2, e1⟩ := mem_piece (R := R) hu
  obtain ⟨l, h3, h4, e2⟩ := mem_rest (R := R) hv
  rw [e1, e2]
  exact Int.le_trans (hk j h1 h2) (ha ia l (by lia) h3 h4)

theorem Lo.a1 (h : Lo R a b out ia ib) (hb : Seg R b 0 b.size) (hia : ia < a.size) (hib : ib < b.size) (hk : rk R a ia ≤ rk R b ib) :
    Lo R a b (out.push a[ia]) (ia + 1) ib := by
  rw [push_ext hia]
  refine h.ak hb 1 (fun i h1 h2 => ?_) hib
  rw [show ia + i = ia by lia]; exact hk

theorem Lo.b1 (h : Lo R a b out ia ib) (ha : Seg R a 0 a.size) (hia : ia < a.size) (hib : ib < b.size) (hk : rk R b ib ≤ rk R a ia) :
    Lo R a b (out.push b[ib]) ia (ib + 1) := by
  rw [push_ext hib]
  refine h.bk ha 1 (fun i h1 h2 => ?_) hia
  rw [show ib + i = ib by lia]; exact hk

theorem ext_all (a : Array Keyed) (i : Nat) : (a.extract i a.size).toList = a.toList.drop i := by
  rw [toList_ext, List.take_of_length_le (by simp)]

theorem Lo.done (h : Lo R a b out ia ib) (hib : ib = b.size) : Res R a b (out ++ a.extract ia a.size ++ b.extract ib b.size) := by
  unfold Lo at h
  unfold Res
  rw [Array.toList_append, Array.toList_append, ext_all, ext_all]
  have e : b.toList.drop ib = [] := by simp [hib]
  rw [e] at h ⊢
  simpa using h.endX

theorem Lo.doneA (h : Lo R a b out ia ib) (hia : ia = a.size) : Res R a b (out ++ a.extract ia a.size ++ b.extract ib b.size) := by
  unfold Lo at h
  unfold Res
  rw [Array.toList_append, Array.toList_append, ext_all, ext_all]
  have e : a.toList.drop ia = [] := by simp [hia]
  rw [e] at h ⊢
  simpa using h.endY

theorem Lo.lastA (h : Lo R a b out ia ib) (hia : ia + 1 = a.size) (hl : ∀ j, j < b.size → rk R b j ≤ rk R a (a.size - 1)) :
    Res R a b (out ++ b.extract ib b.size ++ a.extract ia a.size) := by
  unfold Lo at h
  unfold Res
  rw [Array.toList_append, Array.toList_append, ext_all, ext_all]
  refine h.endXY fun u hu v hv => ?_
  obtain ⟨j, h1, h2, e1⟩ := mem_rest (R := R) hu
  obtain ⟨l, h3, h4, e2⟩ := mem_rest (R := R) hv
  rw [e1, e2, show l = a.size - 1 by lia]
  exact hl j h2

theorem up_of_seg (h : Seg R a 0 a.size) : Up R a.toList := by
  rw [Up, List.pairwise_iff_getElem]
  intro i j hi hj hij
  have hi' : i < a.size := by simpa using hi
  have hj' : j < a.size := by simpa using hj
  have := h i j (Nat.zero_le _) (Nat.le_of_lt hij) hj'
  rw [rk_at hi', rk_at hj'] at this
  simpa using this

theorem Lo.start (ha : Seg R a 0 a.size) (hb : Seg R b 0 b.size) : Lo R a b #[] 0 0 :=
  ⟨by simp, List.Pairwise.nil, fun u hu => by simp at hu, by simpa using up_of_seg ha, by simpa using up_of_seg hb⟩
end S1
end

section
set_option Elab.async false
set_option maxHeartbeats 2000000
namespace S1
open PySem PyProof PyProof.Rows
variable {kd : SortKind} {R : Keyed → Int} {P : Keyed → Prop}
variable {prog : Program} {w : World} {A : Around} {E : Value → Shared → Prop} {s : Shared}
noncomputable def mergeLo' : Array Keyed → Array Keyed → StateT SortSt Sem (Array Keyed) := sortPriv% PySem.Builtin.mergeLo
noncomputable def setMinGallop' : Nat → StateT SortSt Sem Unit := sortPriv% PySem.Builtin.setMinGallop

/-- the same but for the gallop's threshold -/
noncomputable def Alike (kd : SortKind) (st st' : SortSt) : Prop := kindOf st' = kd ∧ arrOf st' = arrOf st ∧ pendingOf st' = pendingOf st ∧ failedOf st' = failedOf st

theorem wpS_setGallop {M : Model} {st st0 : SortSt} {g : Nat} {Q : Unit → SortSt → Prop} (hS : Alike kd st0 st) (h : ∀ st', Alike kd st0 st' → Q () st') : wpS M A E s (setMinGallop' g) Q st :=
  wpS_modify (h _ hS)

inductive LoO (kd : SortKind) (st : SortSt) (R : Keyed → Int) (a b : Array Keyed) (x : Nat) : Option (Array Keyed) × Array Keyed × Nat × Nat × Nat → SortSt → Prop
  | mk {out ia ib g st'} : Alike kd st st' → Lo R a b out ia ib → ia + 1 < a.size → ib < b.size → x ≤ ia + ib → LoO kd st R a b x (none, out, ia, ib, g) st'
inductive LoQ (kd : SortKind) (st : SortSt) (R : Keyed → Int) (a b : Array Keyed) : Option (Array Keyed) × Array Keyed × Nat × Nat × Nat → SortSt → Prop
  | mk {res rest st'} : Alike kd st st' → Res R a b res → LoQ kd st R a b (some res, rest) st'
inductive LoW (R : Keyed → Int) (a b : Array Keyed) (x : Nat) (st : SortSt) (y : Nat) : Option (Array Keyed) × Array Keyed × Nat × Nat × Nat × Nat → SortSt → Prop
  | mk {out ia ib ac bc} : Lo R a b out ia ib → ia + 1 < a.size → ib < b.size → x ≤ ia + ib → y ≤ ia + ib → LoW R a b x st y (none, out, ia, ib, ac, bc) st
inductive LoV (R : Keyed → Int) (a b : Array Keyed) (x : Nat) (st : SortSt) : Option (Array Keyed) × Array Keyed × Nat × Nat × Nat × Nat → SortSt → Prop
  | res {res rest} : Res R a b res → LoV R a b x st (some res, rest) st
  | go {out ia ib ac bc} : Lo R a b out ia ib → ia + 1 < a.size → ib < b.size → x ≤ ia + ib → LoV R a b x st (none, out, ia, ib, ac, bc) st
inductive LoG (kd : SortKind) (st : SortSt) (R : Keyed → Int) (a b : Array Keyed) (x y : Nat) : Option (Array Keyed) × Array Keyed × Nat × Nat × Nat × Nat × Nat → SortSt → Prop
  | mk {out ia ib g ac bc st'} : Alike kd st st' → Lo R a b out ia ib → ia + 1 < a.size → ib < b.size → x + (if y = 0 then 0 else 1) ≤ ia + ib → y ≤ ia + ib → LoG kd st R a b x y (none, out, ia, ib, g, ac, bc) st'
inductive LoH (kd : SortKind) (st : SortSt) (R : Keyed → Int) (a b : Array Keyed) (x : Nat) : Option (Array Keyed) × Array Keyed × Nat × Nat × Nat × Nat × Nat → SortSt → Prop
  | res {res rest st'} : Alike kd st st' → Res R a b res → LoH kd st R a b x (some res, rest) st'
  | go {out ia ib g ac bc st'} : Alike kd st st' → Lo R a b out ia ib → ia + 1 < a.size → ib < b.size → x + 1 ≤ ia + ib → LoH kd st R a b x (none, out, ia, ib, g, ac, bc) st'

theorem wpS_mergeLo (hL : LtOk (model prog w) A E s kd R P) {a b : Array Keyed} {st : SortSt} {Q : Array Keyed → SortSt → Prop} (hk : kindOf st = kd)
    (hA : ∀ i, (hi : i < a.size) → P a[i]) (hB : ∀ i, (hi : i < b.size) → P b[i]) (hsa : Seg R a 0 a.size) (hsb : Seg R b 0 b.size)
    (ha : 0 < a.size) (hb : 0 < b.size) (h0 : rk R b 0 ≤ rk R a 0) (hl : ∀ j, j < b.size → rk R b j ≤ rk R a (a.size - 1))
    (h : ∀ out st', Alike kd st st' → Res R a b out → Q out st') : wpS (model prog w) A E s (mergeLo' a b) Q st := by
  have hS0 : Alike kd st st := ⟨hk, rfl, rfl, rfl⟩
  refine wpS_bind (wpS_ruleR ?_)
  dsimp +instances only
  refine wpS_bind (wpS_elem hb ?_)
  have L0 : Lo R a b #[b[0]] 0 1 := by
    have := (Lo.start hsa hsb).b1 hsa ha hb h0
    simpa using this
  refine wpS_ifE (fun hb1 => wpS_pure (h _ st hS0 (L0.done hb1))) fun hb1 => ?_
  refine wpS_ifE (fun ha1 => wpS_pure (h _ st hS0 (L0.lastA ha1 hl))) fun ha1 => ?_
  refine wpS_bind (wpS_get ?_)
  refine wpS_bind (wpS_mono (wpS_loop (LoO kd st R a b) (Q := LoQ kd st R a b) ?step ?fin (.mk hS0 L0 (by lia) (by lia) (by lia))) ?post)
  case fin =>
    intro _ _ hI; refine hI.casesOn ?_; intros
    exfalso; lia
  case post =>
    intro _ _ hI; refine hI.casesOn ?_; intro _ _ _ hS hR
    exact wpS_pure (h _ _ hS hR)
  clear L0 hS0 h
  intro x _ _ hx hI; refine hI.casesOn ?_; clear hI; intro out ia ib g st1 hS1 L1 hia hib hpr K hD hY
  dsimp +instances only
  refine wpS_bind (wpS_mono (wpS_loop (LoW R a b x st1) (Q := LoV R a b x st1) ?istep ?ifin (.mk L1 hia hib hpr (by lia))) ?ipost)
  case ifin =>
    intro _ _ hI; refine hI.casesOn ?_; intros
    exfalso; lia
  case istep =>
    clear L1 hia hib hpr hD hY
    intro y _ _ hy hI; refine hI.casesOn ?_; clear hI; intro out ia ib ac bc L1 hia hib hpr hpy K hD hY
    dsimp +instances only
    refine wpS_bind (wpS_elem hib (wpS_bind (wpS_elem (by lia) (wpS_bind (hL _ _ _ _ (hB _ hib) (hA _ (by lia)) hS1.1 ?_)))))
    rw [← rk_at (R := R) hib, ← rk_at (R := R) (show ia < a.size by lia)]
    by_cases hw : rk R b ib < rk R a ia
    · simp only [hw, decide_true, if_true]
      have L2 := L1.b1 hsa (by lia) hib (Int.le_of_lt hw)
      refine wpS_bind (wpS_elem hib ?_)
      refine wpS_ifE (fun he => wpS_pure (hD _ _ (.res (L2.done he)))) fun he => ?_
      refine wpS_if (fun _ => wpS_pure (hD _ _ (.go L2 (by lia) (by lia) (by lia)))) fun _ => ?_
      exact wpS_pure (hY _ _ (.mk L2 (by lia) (by lia) (by lia) (by lia)))
    · simp only [hw, decide_false, Bool.false_eq_true, if_false]
      have L2 := L1.a1 hsb (by lia) hib (Int.not_lt.mp hw)
      refine wpS_bind (wpS_elem (by lia) ?_)
      refine wpS_ifE (fun he => wpS_pure (hD _ _ (.res (L2.lastA he hl)))) fun he => ?_
      refine wpS_if (fun _ => wpS_pure (hD _ _ (.go L2 (by lia) (by lia) (by lia)))) fun _ => ?_
      exact wpS_pure (hY _ _ (.mk L2 (by lia) (by lia) (by lia) (by lia)))
  clear L1 hia hib hpr
  intro _ _ hI; refine hI.casesOn ?_ ?_; exact fun hR => wpS_pure (hD _ _ (.mk hS1 hR))
  clear hI out ia ib; intro out ia ib ac bc L1 hia hib hpr
  dsimp +instances only
  refine wpS_bind (wpS_ruleR ?_)
  refine wpS_bind (wpS_mono (wpS_loop (LoG kd st R a b x) (Q := LoH kd st R a b x) ?gstep ?gfin (.mk hS1 L1 hia hib (by simpa using hpr) (by lia))) ?gpost)
  case gfin =>
    intro _ _ hI; refine hI.casesOn ?_; intros
    exfalso; lia
  case gpost =>
    clear L1 hia hib hpr
    intro _ _ hI; refine hI.casesOn ?_ ?_; exact fun hS2 hR => wpS_pure (hD _ _ (.mk hS2 hR))
    clear hI; intro out ia ib g ac bc st2 hS2 L1 hia hib hpr
    dsimp +instances only
    refine wpS_bind (wpS_setGallop hS2 fun st3 hS3 => ?_)
    exact wpS_pure (hY _ _ (.mk hS3 L1 hia hib hpr))
  clear L1 hia hib hpr hD hY
  intro y _ _ hy hI; refine hI.casesOn ?_; clear hI; intro out ia ib g ac bc st2 hS2 L0 hia hib2 hpr0 hpy K hD hY
  have hpr : x ≤ ia + ib := by lia
  clear hpr0
  dsimp +instances only
  generalize g = g1
  revert g1
  refine wpS_ifJ ?_ ?_
  case refine_2 => exact fun J g => J _
  intro g
  refine wpS_bind (wpS_setGallop hS2 fun st4 hS4 => ?_)
  refine wpS_bind (wpS_elem hib2 ?_)
  refine wpS_bind (wpS_gallop hL hS4.1 (hB _ hib2) hA (by lia) (by lia) (fun i j g1 g2 => hsa _ _ (by lia) (by lia) (by lia)) fun k hk hcut => ?_)
  have hlow : ∀ i, i < k → ia + i < a.size → rk R a (ia + i) ≤ rk R b ib := by
    intro i g1 g2
    have := (hcut i (by lia)).mp g1
    simp only [ahead, Bool.false_eq_true, if_false, Bool.not_eq_true', decide_eq_false_iff_not] at this
    rw [rk_at hib2]
    lia
  have hhigh : ia + k < a.size → rk R b ib ≤ rk R a (ia + k) := by
    intro g1
    have := mt (hcut k (by lia)).mpr (Nat.lt_irrefl k)
    simp only [ahead, Bool.false_eq_true, if_false, Bool.not_eq_true', decide_eq_false_iff_not] at this
    rw [rk_at hib2]
    lia
  clear hcut
  dsimp +instances only
  generalize hn0 : ia = n0
  generalize ho0 : out = o0
  revert n0 o0
  refine wpS_ifJ2 (fun i out => Lo R a b out i ib ∧ i + 1 < a.size ∧ ia ≤ i ∧ rk R b ib ≤ rk R a i) ?rest ?pos ?neg
  case neg =>
    intro hkp
    have e : k = 0 := by lia
    rw [e] at hhigh
    exact ⟨L0, hia, Nat.le_refl _, hhigh (by lia)⟩
  case pos =>
    intro hkp J
    have L1 := L0.ak hsb k hlow hib2
    refine wpS_ifE (fun hae => wpS_pure (hD _ _ (.res hS4 (L1.lastA hae hl)))) fun hae => ?_
    refine wpS_ifE (fun hae2 => wpS_pure (hD _ _ (.res hS4 (L1.doneA hae2)))) fun hae2 => ?_
    exact J _ _ ⟨L1, by lia, by lia, hhigh (by lia)⟩
  clear hlow hhigh hk
  rintro ja out ⟨L1, hja, h1, hle⟩
  have hpr' : x ≤ ja + ib := by lia
  have hpy' : y ≤ ja + ib := by lia
  clear L0 hia hpr hpy h1
  refine wpS_bind (wpS_elem hib2 ?_)
  have L2 := L1.b1 hsa (by lia) hib2 hle
  refine wpS_ifE (fun hbe => wpS_pure (hD _ _ (.res hS4 (L2.done hbe)))) fun hbe => ?_
  refine wpS_bind (wpS_elem (by lia) ?_)
  generalize out.push b[ib] = out at L2 ⊢
  generalize hn : ib + 1 = jb at L2 hbe ⊢
  refine wpS_bind (wpS_gallop hL hS4.1 (hA _ (by lia)) hB (by lia) (by lia) (fun i j g1 g2 => hsb _ _ (by lia) (by lia) (by lia)) fun k2 hk2 hcut2 => ?_)
  have hlow2 : ∀ i, i < k2 → jb + i < b.size → rk R b (jb + i) ≤ rk R a ja := by
    intro i g1 g2
    have := (hcut2 i (by lia)).mp g1
    simp only [ahead, if_true, decide_eq_true_eq] at this
    rw [rk_at (show ja < a.size by lia)]
    exact Int.le_of_lt this
  have hhigh2 : jb + k2 < b.size → rk R a ja ≤ rk R b (jb + k2) := by
    intro g1
    have := mt (hcut2 k2 (by lia)).mpr (Nat.lt_irrefl k2)
    simp only [ahead, if_true, decide_eq_true_eq] at this
    rw [rk_at (show ja < a.size by lia)]
    lia
  clear hcut2
  dsimp +instances only
  generalize hn0 : jb = n0
  generalize ho0 : out = o0
  revert n0 o0
  refine wpS_ifJ2 (fun i out => Lo R a b out ja i ∧ i < b.size ∧ jb ≤ i ∧ rk R a ja ≤ rk R b i) ?rest2 ?pos ?neg
  case neg =>
    intro hkp
    have e : k2 = 0 := by lia
    rw [e] at hhigh2
    exact ⟨L2, by lia, Nat.le_refl _, hhigh2 (by lia)⟩
  case pos =>
    intro hkp J
    have L3 := L2.bk hsa k2 hlow2 (by lia)
    refine wpS_ifE (fun hbe2 => wpS_pure (hD _ _ (.res hS4 (L3.done hbe2)))) fun hbe2 => ?_
    exact J _ _ ⟨L3, by lia, by lia, hhigh2 (by lia)⟩
  clear hlow2 hhigh2 hk2
  rintro jb' out ⟨L3, h3, h4, hle3⟩
  refine wpS_bind (wpS_elem (by lia) ?_)
  have L4 := L3.a1 hsb (by lia) (by lia) hle3
  refine wpS_ifE (fun he => wpS_pure (hD _ _ (.res hS4 (L4.lastA he hl)))) fun he => ?_
  refine wpS_if (fun _ => wpS_pure (hD _ _ (.go hS4 L4 (by lia) (by lia) (by lia)))) fun _ => ?_
  exact wpS_pure (hY _ _ (.mk hS4 L4 (by lia) (by lia) (by rw [if_neg (Nat.succ_ne_zero _)]; lia) (by lia)))
end S1
end

section
set_option Elab.async false
namespace S1
open PySem PyProof PyProof.Rows
variable {R : Keyed → Int}

theorem take_split (l : List Keyed) {k n : Nat} (h : k ≤ n) : l.take n = l.take k ++ (l.drop k).take (n - k) := by
  rw [← List.take_add, show k + (n - k) = n by lia]

theorem push_rev {b out : Array Keyed} {i : Nat} (hi : i < b.size) : out.push b[i] = out ++ (b.extract i (i + 1)).reverse := by
  apply Array.toList_inj.mp
  rw [Array.toList_push, Array.toList_append, Array.toList_reverse, toList_ext, show i + 1 - i = 1 by lia]
  congr 1
  rw [List.drop_eq_getElem_cons (by simpa using hi)]
  simp

noncomputable def Hi (R : Keyed → Int) (a b out : Array Keyed) (na nb : Nat) : Prop :=
  Bwd R (a.toList ++ b.toList) (a.toList.take na) (b.toList.take nb) out.toList.reverse

variable {a b out : Array Keyed} {na nb : Nat}

theorem rev_app (out p : Array Keyed) : (out ++ p.reverse).toList.reverse = p.toList ++ out.toList.reverse := by simp

theorem Hi.ak (h : Hi R a b out na nb) (hb : Seg R b 0 b.size) (k : Nat) (hkn : k ≤ na) (hk : ∀ i, k ≤ i → i < na → i < a.size → rk R b (nb - 1) ≤ rk R a i) (hnb : nb ≤ b.size) :
    Hi R a b (out ++ (a.extract k na).reverse) k nb := by
  unfold Hi at h ⊢
  rw [take_split _ hkn] at h
  rw [rev_app, toList_ext]
  refine h.takeX fun u hu v hv => ?_
  obtain ⟨j, h1, h2, e1⟩ := mem_front (R := R) hu
  obtain ⟨l, h3, h4, e2⟩ := mem_piece (R := R) hv
  rw [e1, e2]
  exact Int.le_trans (hb j (nb - 1) (by lia) (by lia) (by lia)) (hk (k + l) (by lia) (by lia) h4)

theorem Hi.bk (h : Hi R a b out na nb) (ha : Seg R a 0 a.size) (k : Nat) (hkn : k ≤ nb) (hk : ∀ i, k ≤ i → i < nb → i < b.size → rk R a (na - 1) ≤ rk R b i) (hna : na ≤ a.size) :
    Hi R a b (out ++ (b.extract k nb).reverse) na k := by
  unfold Hi at h ⊢
  rw [take_split b.toList hkn] at h
  rw [rev_app, toList_ext]
  refine h.takeY fun u hu v hv => ?_
  obtain ⟨j, h1, h2, e1⟩ := mem_front (R := R) hu
  obtain ⟨l, h3, h4, e2⟩ := mem_piece (R := R) hv
  rw [e1, e2]
  exact Int.le_trans (ha j (na - 1) (by lia) (by lia) (by lia)) (hk (k + l) (by lia) (by lia) h4)

theorem Hi.a1 (h : Hi R a b out na nb) (hb : Seg R b 0 b.size) (h1 : 1 ≤ na) (hna : na - 1 < a.size) (hnb : nb ≤ b.size) (hk : rk R b (nb - 1) ≤ rk R a (na - 1)) :
    Hi R a b (out.push a[na - 1]) (na - 1) nb := by
  rw [push_rev hna, show na - 1 + 1 = na by lia]
  refine h.ak hb (na - 1) (by lia) (fun i g1 g2 g3 => ?_) hnb
  rw [show i = na - 1 by lia]; exact hk

theorem Hi.b1 (h : Hi R a b out na nb) (ha : Seg R a 0 a.size) (h1 : 1 ≤ nb) (hnb : nb - 1 < b.size) (hna : na ≤ a.size) (hk : rk R a (na - 1) ≤ rk R b (nb - 1)) :
    Hi R a b (out.push b[nb - 1]) na (nb - 1) := by
  rw [push_rev hnb, show nb - 1 + 1 = nb by lia]
  refine h.bk ha (nb - 1) (by lia) (fun i g1 g2 g3 => ?_) hna
  rw [show i = nb - 1 by lia]; exact hk

theorem ext_front (a : Array Keyed) (i : Nat) : (a.extract 0 i).toList = a.toList.take i := by
  rw [toList_ext, List.drop_zero, Nat.sub_zero]

theorem Hi.done (h : Hi R a b out na nb) (hna : na = 0) : Res R a b (a.extract 0 na ++ b.extract 0 nb ++ out.reverse) := by
  unfold Hi at h
  unfold Res
  rw [Array.toList_append, Array.toList_append, ext_front, ext_front, Array.toList_reverse]
  have e : a.toList.take na = [] := by simp [hna]
  rw [e] at h ⊢
  simpa using h.endY

theorem Hi.doneB (h : Hi R a b out na nb) (hnb : nb = 0) : Res R a b (a.extract 0 na ++ b.extract 0 nb ++ out.reverse) := by
  unfold Hi at h
  unfold Res
  rw [Array.toList_append, Array.toList_append, ext_front, ext_front, Array.toList_reverse]
  have e : b.toList.take nb = [] := by simp [hnb]
  rw [e] at h ⊢
  simpa using h.endX

theorem Hi.firstB (h : Hi R a b out na nb) (hnb : nb = 1) (hl : ∀ j, j < a.size → rk R b 0 ≤ rk R a j) :
    Res R a b (b.extract 0 nb ++ a.extract 0 na ++ out.reverse) := by
  unfold Hi at h
  unfold Res
  rw [Array.toList_append, Array.toList_append, ext_front, ext_front, Array.toList_reverse]
  refine h.endXY fun u hu v hv => ?_
  obtain ⟨j, h1, h2, e1⟩ := mem_front (R := R) hu
  obtain ⟨l, h3, h4, e2⟩ := mem_front (R := R) hv
  rw [e1, e2, show j = 0 by lia]
  exact hl l h4

theorem Hi.start (ha : Seg R a 0 a.size) (hb : Seg R b 0 b.size) : Hi R a b #[] a.size b.size := by
  refine ⟨?_, List.Pairwise.nil, fun u hu v hv => by simp at hv, ?_, ?_⟩
  · rw [List.take_of_length_le (by simp), List.take_of_length_le (by simp)]; simp
  · rw [List.take_of_length_le (by simp)]; exact up_of_seg ha
  · rw [List.take_of_length_le (by simp)]; exact up_of_seg hb
end S1
end

section
set_option Elab.async false
set_option maxHeartbeats 2000000
namespace S1
open PySem PyProof PyProof.Rows
variable {kd : SortKind} {R : Keyed → Int} {P : Keyed → Prop}
variable {prog : Program} {w : World} {A : Around} {E : Value → Shared → Prop} {s : Shared}
noncomputable def mergeHi' : Array Keyed → Array Keyed → StateT SortSt Sem (Array Keyed) := sortPriv% PySem.Builtin.mergeHi

inductive HiO (kd : SortKind) (st : SortSt) (R : Keyed → Int) (a b : Array Keyed) (x : Nat) : Option (Array Keyed) × Nat × Nat × Array Keyed × Nat → SortSt → Prop
  | mk {out na nb g st'} : Alike kd st st' → Hi R a b out na nb → 1 ≤ na → na < a.size → 2 ≤ nb → nb ≤ b.size → x + na + nb ≤ a.size + b.size → HiO kd st R a b x (none, na, nb, out, g) st'
inductive HiQ (kd : SortKind) (st : SortSt) (R : Keyed → Int) (a b : Array Keyed) : Option (Array Keyed) × Nat × Nat × Array Keyed × Nat → SortSt → Prop
  | mk {res rest st'} : Alike kd st st' → Res R a b res → HiQ kd st R a b (some res, rest) st'
inductive HiW (R : Keyed → Int) (a b : Array Keyed) (x : Nat) (st : SortSt) (y : Nat) : Option (Array Keyed) × Nat × Nat × Array Keyed × Nat × Nat → SortSt → Prop
  | mk {out na nb ac bc} : Hi R a b out na nb → 1 ≤ na → na < a.size → 2 ≤ nb → nb ≤ b.size → x + na + nb ≤ a.size + b.size → y + na + nb ≤ a.size + b.size → HiW R a b x st y (none, na, nb, out, ac, bc) st
inductive HiV (R : Keyed → Int) (a b : Array Keyed) (x : Nat) (st : SortSt) : Option (Array Keyed) × Nat × Nat × Array Keyed × Nat × Nat → SortSt → Prop
  | res {res rest} : Res R a b res → HiV R a b x st (some res, rest) st
  | go {out na nb ac bc} : Hi R a b out na nb → 1 ≤ na → na < a.size → 2 ≤ nb → nb ≤ b.size → x + na + nb ≤ a.size + b.size → HiV R a b x st (none, na, nb, out, ac, bc) st
inductive HiG (kd : SortKind) (st : SortSt) (R : Keyed → Int) (a b : Array Keyed) (x y : Nat) : Option (Array Keyed) × Nat × Nat × Array Keyed × Nat × Nat × Nat → SortSt → Prop
  | mk {out na nb g ac bc st'} : Alike kd st st' → Hi R a b out na nb → 1 ≤ na → na < a.size → 2 ≤ nb → nb ≤ b.size → x + (if y = 0 then 0 else 1) + na + nb ≤ a.size + b.size → y + na + nb ≤ a.size + b.size → HiG kd st R a b x y (none, na, nb, out, g, ac, bc) st'
inductive HiH (kd : SortKind) (st : SortSt) (R : Keyed → Int) (a b : Array Keyed) (x : Nat) : Option (Array Keyed) × Nat × Nat × Array Keyed × Nat × Nat × Nat → SortSt → Prop
  | res {res rest st'} : Alike kd st st' → Res R a b res → HiH kd st R a b x (some res, rest) st'
  | go {out na nb g ac bc st'} : Alike kd st st' → Hi R a b out na nb → 1 ≤ na → na < a.size → 2 ≤ nb → nb ≤ b.size → x + 1 + na + nb ≤ a.size + b.size → HiH kd st R a b x (none, na, nb, out, g, ac, bc) st'

theorem wpS_mergeHi (hL : LtOk (model prog w) A E s kd R P) {a b : Array Keyed} {st : SortSt} {Q : Array Keyed → SortSt → Prop} (hk : kindOf st = kd)
    (hA : ∀ i, (hi : i < a.size) → P a[i]) (hB : ∀ i, (hi : i < b.size) → P b[i]) (hsa : Seg R a 0 a.size) (hsb : Seg R b 0 b.size)
    (ha : 0 < a.size) (hb : 0 < b.size) (h0 : rk R b (b.size - 1) ≤ rk R a (a.size - 1)) (hl : ∀ j, j < a.size → rk R b 0 ≤ rk R a j)
    (h : ∀ out st', Alike kd st st' → Res R a b out → Q out st') : wpS (model prog w) A E s (mergeHi' a b) Q st := by
  have hS0 : Alike kd st st := ⟨hk, rfl, rfl, rfl⟩
  refine wpS_bind (wpS_ruleR ?_)
  dsimp +instances only
  have hlast : a.size - 1 < a.size := by lia
  refine wpS_bind (wpS_elem hlast ?_)
  have L0 : Hi R a b #[a[a.size - 1]] (a.size - 1) b.size := by
    have := (Hi.start hsa hsb).a1 hsb (by lia) hlast (by lia) h0
    simpa using this
  refine wpS_ifE (fun ha1 => wpS_pure (h _ st hS0 (L0.done ha1))) fun ha1 => ?_
  refine wpS_ifE (fun hb1 => wpS_pure (h _ st hS0 (L0.firstB hb1 hl))) fun hb1 => ?_
  refine wpS_bind (wpS_get ?_)
  refine wpS_bind (wpS_mono (wpS_loop (HiO kd st R a b) (Q := HiQ kd st R a b) ?step ?fin ?init) ?post)
  case init => exact .mk hS0 L0 (by lia) (by lia) (by lia) (by lia) (by lia)
  case fin =>
    intro _ _ hI; refine hI.casesOn ?_; intros
    exfalso; lia
  case post =>
    intro _ _ hI; refine hI.casesOn ?_; intro _ _ _ hS hR
    exact wpS_pure (h _ _ hS hR)
  clear L0 hS0 h
  intro x _ _ hx hI; refine hI.casesOn ?_; clear hI; intro out na nb g st1 hS1 L1 hna hna2 hnb hnb2 hpr K hD hY
  dsimp +instances only
  refine wpS_bind (wpS_mono (wpS_loop (HiW R a b x st1) (Q := HiV R a b x st1) ?istep ?ifin ?iinit) ?ipost)
  case iinit => exact .mk L1 hna hna2 hnb hnb2 hpr (by lia)
  case ifin =>
    intro _ _ hI; refine hI.casesOn ?_; intros
    exfalso; lia
  case istep =>
    clear L1 hna hna2 hnb hnb2 hpr hD hY
    intro y _ _ hy hI; refine hI.casesOn ?_; clear hI; intro out na nb ac bc L1 hna hna2 hnb hnb2 hpr hpy K hD hY
    dsimp +instances only
    refine wpS_bind (wpS_elem (show _ - 1 < b.size by lia) (wpS_bind (wpS_elem (show _ - 1 < a.size by lia) (wpS_bind (hL _ _ _ _ (hB _ (by lia)) (hA _ (by lia)) hS1.1 ?_)))))
    rw [← rk_at (R := R) (show nb - 1 < b.size by lia), ← rk_at (R := R) (show na - 1 < a.size by lia)]
    by_cases hw : rk R b (nb - 1) < rk R a (na - 1)
    · simp only [hw, decide_true, if_true]
      have L2 := L1.a1 hsb (by lia) (by lia) (by lia) (Int.le_of_lt hw)
      refine wpS_bind (wpS_elem (by lia) ?_)
      refine wpS_ifE (fun he => wpS_pure (hD _ _ (.res (L2.done he)))) fun he => ?_
      refine wpS_if (fun _ => wpS_pure (hD _ _ (.go L2 (by lia) (by lia) (by lia) (by lia) (by lia)))) fun _ => ?_
      exact wpS_pure (hY _ _ (.mk L2 (by lia) (by lia) (by lia) (by lia) (by lia) (by lia)))
    · simp only [hw, decide_false, Bool.false_eq_true, if_false]
      have L2 := L1.b1 hsa (by lia) (by lia) (by lia) (Int.not_lt.mp hw)
      refine wpS_bind (wpS_elem (by lia) ?_)
      refine wpS_ifE (fun he => wpS_pure (hD _ _ (.res (L2.firstB he hl)))) fun he => ?_
      refine wpS_if (fun _ => wpS_pure (hD _ _ (.go L2 (by lia) (by lia) (by lia) (by lia) (by lia)))) fun _ => ?_
      exact wpS_pure (hY _ _ (.mk L2 (by lia) (by lia) (by lia) (by lia) (by lia) (by lia)))
  clear L1 hna hna2 hnb hnb2 hpr
  intro _ _ hI; refine hI.casesOn ?_ ?_; exact fun hR => wpS_pure (hD _ _ (.mk hS1 hR))
  clear hI out na nb; intro out na nb ac bc L1 hna hna2 hnb hnb2 hpr
  dsimp +instances only
  refine wpS_bind (wpS_ruleR ?_)
  refine wpS_bind (wpS_mono (wpS_loop (HiG kd st R a b x) (Q := HiH kd st R a b x) ?gstep ?gfin ?ginit) ?gpost)
  case ginit => exact .mk hS1 L1 hna hna2 hnb hnb2 (by simpa using hpr) (by lia)
  case gfin =>
    intro _ _ hI; refine hI.casesOn ?_; intros
    exfalso; lia
  case gpost =>
    clear L1 hna hna2 hnb hnb2 hpr
    intro _ _ hI; refine hI.casesOn ?_ ?_; exact fun hS2 hR => wpS_pure (hD _ _ (.mk hS2 hR))
    clear hI; intro out na nb g ac bc st2 hS2 L1 hna hna2 hnb hnb2 hpr
    dsimp +instances only
    refine wpS_bind (wpS_setGallop hS2 fun st3 hS3 => ?_)
    exact wpS_pure (hY _ _ (.mk hS3 L1 hna hna2 hnb hnb2 hpr))
  clear L1 hna hna2 hnb hnb2 hpr hD hY out na nb ac bc
  intro y _ _ hy hI; refine hI.casesOn ?_; clear hI; intro out na nb g ac bc st2 hS2 L0 hna hna2 hnb hnb2 hpr0 hpy K hD hY
  have hpr : x + na + nb ≤ a.size + b.size := by lia
  clear hpr0
  dsimp +instances only
  generalize g = g1
  revert g1
  refine wpS_ifJ ?_ ?_
  case refine_2 => exact fun J g => J _
  intro g
  refine wpS_bind (wpS_setGallop hS2 fun st4 hS4 => ?_)
  refine wpS_bind (wpS_elem (by lia) ?_)
  refine wpS_bind (wpS_gallop hL hS4.1 (hB _ (by lia)) hA (by lia) (by lia) (fun i j g1 g2 => hsa _ _ (by lia) (by lia) (by lia)) fun k hk hcut => ?_)
  have hhigh : ∀ i, k ≤ i → i < na → i < a.size → rk R b (nb - 1) ≤ rk R a i := by
    intro i g1 g2 _
    have := mt (hcut i g2).mpr (by lia)
    simp only [ahead, Bool.false_eq_true, if_false, Bool.not_eq_true', decide_eq_false_iff_not, Nat.zero_add] at this
    rw [rk_at (show nb - 1 < b.size by lia)]
    lia
  have hlow : 1 ≤ k → rk R a (k - 1) ≤ rk R b (nb - 1) := by
    intro g1
    have := (hcut (k - 1) (by lia)).mp (by lia)
    simp only [ahead, Bool.false_eq_true, if_false, Bool.not_eq_true', decide_eq_false_iff_not, Nat.zero_add] at this
    rw [rk_at (show nb - 1 < b.size by lia)]
    lia
  clear hcut
  dsimp +instances only
  generalize hac : na - k = ak
  generalize hn0 : na = n0
  generalize ho0 : out = o0
  revert n0 o0
  refine wpS_ifJ2 (fun k out => Hi R a b out k nb ∧ 1 ≤ k ∧ k ≤ na ∧ rk R a (k - 1) ≤ rk R b (nb - 1)) ?rest ?pos ?neg
  case neg =>
    intro hkp
    refine ⟨L0, hna, Nat.le_refl _, ?_⟩
    have e : k = na := by lia
    rw [e] at hlow
    exact hlow hna
  case pos =>
    intro hkp J
    have L1 := L0.ak hsb k hk hhigh (by lia)
    refine wpS_ifE (fun hae => wpS_pure (hD _ _ (.res hS4 (L1.done hae)))) fun hae => ?_
    exact J _ _ ⟨L1, by lia, hk, hlow (by lia)⟩
  clear hlow hhigh hac hk k
  rintro na' out ⟨L1, h1, h2, hle⟩
  have hna2' : na' < a.size := by lia
  have hpr' : x + na' + nb ≤ a.size + b.size := by lia
  have hpy' : y + na' + nb ≤ a.size + b.size := by lia
  clear L0 hna hna2 hpr hpy h2
  refine wpS_bind (wpS_elem (by lia) ?_)
  have L2 := L1.b1 hsa (by lia) (by lia) (by lia) hle
  refine wpS_ifE (fun hbe => wpS_pure (hD _ _ (.res hS4 (L2.firstB hbe hl)))) fun hbe => ?_
  refine wpS_bind (wpS_elem (by lia) ?_)
  generalize out.push b[nb - 1] = out at L2 ⊢
  generalize hn : nb - 1 = mb at L2 hbe ⊢
  refine wpS_bind (wpS_gallop hL hS4.1 (hA _ (by lia)) hB (by lia) (by lia) (fun i j g1 g2 => hsb _ _ (by lia) (by lia) (by lia)) fun k2 hk2 hcut2 => ?_)
  have hhigh2 : ∀ i, k2 ≤ i → i < mb → i < b.size → rk R a (na' - 1) ≤ rk R b i := by
    intro i g1 g2 _
    have := mt (hcut2 i g2).mpr (by lia)
    simp only [ahead, if_true, decide_eq_true_eq, Nat.zero_add] at this
    rw [rk_at (show na' - 1 < a.size by lia)]
    lia
  have hlow2 : 1 ≤ k2 → rk R b (k2 - 1) ≤ rk R a (na' - 1) := by
    intro g1
    have := (hcut2 (k2 - 1) (by lia)).mp (by lia)
    simp only [ahead, if_true, decide_eq_true_eq, Nat.zero_add] at this
    rw [rk_at (show na' - 1 < a.size by lia)]
    exact Int.le_of_lt this
  clear hcut2
  dsimp +instances only
  generalize hbc : mb - k2 = bk
  generalize hn0 : mb = n0
  generalize ho0 : out = o0
  revert n0 o0
  refine wpS_ifJ2 (fun k out => Hi R a b out na' k ∧ 2 ≤ k ∧ k ≤ mb ∧ rk R b (k - 1) ≤ rk R a (na' - 1)) ?rest2 ?pos ?neg
  case neg =>
    intro hkp
    refine ⟨L2, by lia, Nat.le_refl _, ?_⟩
    have e : k2 = mb := by lia
    rw [e] at hlow2
    exact hlow2 (by lia)
  case pos =>
    intro hkp J
    have L3 := L2.bk hsa k2 hk2 hhigh2 (by lia)
    refine wpS_ifE (fun hbe2 => wpS_pure (hD _ _ (.res hS4 (L3.firstB hbe2 hl)))) fun hbe2 => ?_
    refine wpS_ifE (fun hbe3 => wpS_pure (hD _ _ (.res hS4 (L3.doneB hbe3)))) fun hbe3 => ?_
    exact J _ _ ⟨L3, by lia, hk2, hlow2 (by lia)⟩
  clear hlow2 hhigh2 hbc hk2 k2
  rintro nb' out ⟨L3, h3, h4, hle3⟩
  refine wpS_bind (wpS_elem (by lia) ?_)
  have L4 := L3.a1 hsb (by lia) (by lia) (by lia) hle3
  refine wpS_ifE (fun he => wpS_pure (hD _ _ (.res hS4 (L4.done he)))) fun he => ?_
  refine wpS_if (fun _ => wpS_pure (hD _ _ (.go hS4 L4 (by lia) (by lia) (by lia) (by lia) (by lia)))) fun _ => ?_
  exact wpS_pure (hY _ _ (.mk hS4 L4 (by lia) (by lia) (by lia) (by lia) (by rw [if_neg (Nat.succ_ne_zero _)]; lia) (by lia)))
end S1
end

section
set_option Elab.async false
namespace S1
open PySem PyProof PyProof.Rows
variable {R : Keyed → Int}

/-- writing a list into an array, from a place on -/
noncomputable def putBack (xs : Array Keyed) (sa : Nat) (l : List Keyed) (n : Nat) : Array Keyed :=
  (l.zipIdx n).foldl (fun a (x : Keyed × Nat) => a.setIfInBounds (sa + x.2) x.1) xs

theorem putBack_size (sa : Nat) : ∀ (l : List Keyed) (n : Nat) (xs : Array Keyed), (putBack xs sa l n).size = xs.size
  | [], _, _ => rfl
  | u :: l, n, xs => by
    show (putBack (xs.setIfInBounds (sa + n) u) sa l (n + 1)).size = xs.size
    rw [putBack_size sa l (n + 1)]
    simp

theorem putBack_get (sa : Nat) : ∀ (l : List Keyed) (n : Nat) (xs : Array Keyed), sa + n + l.length ≤ xs.size → ∀ k,
    (putBack xs sa l n)[k]? = if sa + n ≤ k ∧ k < sa + n + l.length then l[k - (sa + n)]? else xs[k]?
  | [], n, xs, _, k => by
    rw [if_neg (by simp only [List.length_nil]; lia)]; rfl
  | u :: l, n, xs, hs, k => by
    simp only [List.length_cons] at hs ⊢
    have ih := putBack_get sa l (n + 1) (xs.setIfInBounds (sa + n) u) (by simp; lia) k
    refine Eq.trans ih ?_
    by_cases h1 : sa + (n + 1) ≤ k ∧ k < sa + (n + 1) + l.length
    · rw [if_pos h1, if_pos (by lia), show k - (sa + n) = (k - (sa + (n + 1))) + 1 by lia, List.getElem?_cons_succ]
    · rw [if_neg h1]
      by_cases h2 : k = sa + n
      · subst h2
        rw [if_pos (by lia), Nat.sub_self, Array.getElem?_setIfInBounds]
        simp
        lia
      · rw [if_neg (by lia), Array.getElem?_setIfInBounds, if_neg (by lia)]

theorem putBack_list (xs : Array Keyed) (sa : Nat) (l : List Keyed) (h : sa + l.length ≤ xs.size) :
    (putBack xs sa l 0).toList = xs.toList.take sa ++ l ++ xs.toList.drop (sa + l.length) := by
  apply List.ext_getElem?
  intro k
  have e := putBack_get sa l 0 xs (by lia) k
  rw [Array.getElem?_toList, e]
  simp only [Nat.add_zero]
  by_cases h1 : k < sa
  · rw [if_neg (by lia), List.getElem?_append_left (by simp; lia), List.getElem?_append_left (by simp; lia), List.getElem?_take, if_pos h1, Array.getElem?_toList]
  · by_cases h2 : k < sa + l.length
    · rw [if_pos (by lia), List.getElem?_append_left (by simp; lia), List.getElem?_append_right (by simp; lia)]
      congr 1; simp; lia
    · rw [if_neg (by lia), List.getElem?_append_right (by simp; lia), List.getElem?_drop, Array.getElem?_toList]
      congr 1; simp; lia
end S1
end

section
set_option Elab.async false
namespace S1
open PySem PyProof PyProof.Rows
variable {R : Keyed → Int}

theorem back {xs : Array Keyed} {lo c m d hi : Nat} {l : List Keyed} (g1 : lo ≤ c) (g2 : c ≤ m) (g3 : m ≤ d) (g4 : d ≤ hi) (g5 : hi ≤ xs.size)
    (s1 : Seg R xs lo m) (s2 : Seg R xs m hi) (k1 : ∀ i, lo ≤ i → i < c → rk R xs i ≤ rk R xs m) (k2 : ∀ i, d ≤ i → i < hi → rk R xs (m - 1) ≤ rk R xs i)
    (hp : l.Perm ((xs.extract c m).toList ++ (xs.extract m d).toList)) (hu : Up R l) :
    (putBack xs c l 0).Perm xs ∧ Seg R (putBack xs c l 0) lo hi ∧ Same (putBack xs c l 0) xs lo hi := by
  have hmid : (xs.extract c m).toList ++ (xs.extract m d).toList = (xs.toList.drop c).take (d - c) := by
    rw [toList_ext, toList_ext, show d - c = (m - c) + (d - m) by lia, List.take_add, List.drop_drop, show c + (m - c) = m by lia]
  rw [hmid] at hp
  have hlen : l.length = d - c := by rw [hp.length_eq]; simp; lia
  have hget := putBack_get c l 0 xs (by lia)
  simp only [Nat.add_zero] at hget
  have hin : ∀ i, c ≤ i → i < d → ∃ j, c ≤ j ∧ j < d ∧ rk R (putBack xs c l 0) i = rk R xs j := by
    intro i h1 h2
    have hm : l[i - c]'(by lia) ∈ (xs.toList.drop c).take (d - c) := hp.mem_iff.mp (List.getElem_mem _)
    obtain ⟨j, h3, h4, e⟩ := mem_piece (R := R) hm
    refine ⟨c + j, by lia, by lia, ?_⟩
    rw [← e]
    unfold rk
    rw [hget i, if_pos (by lia), List.getElem?_eq_getElem (by lia)]
    rfl
  have hout : ∀ i, (i < c ∨ d ≤ i) → rk R (putBack xs c l 0) i = rk R xs i := by
    intro i h1
    unfold rk
    rw [hget i, if_neg (by lia)]
  refine ⟨?_, ?_, ?_⟩
  · apply Array.perm_iff_toList_perm.mpr
    rw [putBack_list xs c l (by lia), hlen, show c + (d - c) = d by lia]
    have e : xs.toList = xs.toList.take c ++ (xs.toList.drop c).take (d - c) ++ xs.toList.drop d := by
      rw [← List.take_add, show c + (d - c) = d by lia, List.take_append_drop]
    refine List.Perm.trans (List.Perm.append_right _ (List.Perm.append_left _ hp)) ?_
    rw [← e]
  · intro i j h1 h2 h3
    by_cases a1 : i < c
    · rw [hout i (.inl a1)]
      by_cases b1 : j < c
      · rw [hout j (.inl b1)]; exact s1 i j h1 h2 (by lia)
      · have key : ∀ j', c ≤ j' → j' < hi → rk R xs i ≤ rk R xs j' := by
          intro j' p1 p2
          by_cases q : j' < m
          · exact s1 i j' h1 (by lia) q
          · exact Int.le_trans (k1 i h1 a1) (s2 m j' (by lia) (by lia) p2)
        by_cases b2 : j < d
        · obtain ⟨j', p1, p2, e⟩ := hin j (by lia) b2
          rw [e]; exact key j' p1 (by lia)
        · rw [hout j (.inr (by lia))]; exact key j (by lia) h3
    · by_cases a2 : i < d
      · by_cases b2 : j < d
        · unfold rk
          rw [hget i, hget j, if_pos (by lia), if_pos (by lia), List.getElem?_eq_getElem (by lia), List.getElem?_eq_getElem (by lia)]
          by_cases hij : i = j
          · subst hij; exact Int.le_refl _
          · exact List.pairwise_iff_getElem.mp hu _ _ _ _ (by lia)
        · obtain ⟨i', p1, p2, e⟩ := hin i (by lia) a2
          rw [e, hout j (.inr (by lia))]
          by_cases q : i' < m
          · exact Int.le_trans (s1 i' (m - 1) (by lia) (by lia) (by lia)) (k2 j (by lia) h3)
          · exact s2 i' j (by lia) (by lia) h3
      · rw [hout i (.inr (by lia)), hout j (.inr (by lia))]
        exact s2 i j (by lia) h2 h3
  · intro i h1
    rw [hget i, if_neg (by lia)]
end S1
end

section
set_option Elab.async false
set_option maxHeartbeats 2000000
namespace S1
open PySem PyProof PyProof.Rows
variable {kd : SortKind} {R : Keyed → Int} {P : Keyed → Prop} {a₀ : Array Keyed} {pd : Array (Nat × Nat × Nat)}
variable {prog : Program} {w : World} {A : Around} {E : Value → Shared → Prop} {s : Shared}

theorem rk_ext {xs : Array Keyed} {i j n : Nat} (h : i + n < j) (hj : j ≤ xs.size) : rk R (xs.extract i j) n = rk R xs (i + n) := by
  have h1 : n < (xs.extract i j).size := by simp; lia
  rw [rk_at h1, rk_at (show i + n < xs.size by lia)]
  simp

theorem seg_ext {xs : Array Keyed} {i j : Nat} (hj : j ≤ xs.size) (h : Seg R xs i j) : Seg R (xs.extract i j) 0 (xs.extract i j).size := by
  intro u v _ h2 h3
  have h4 : i + v < j := by simp at h3; lia
  rw [rk_ext (by lia) hj, rk_ext h4 hj]
  exact h _ _ (by lia) (by lia) h4

theorem wpS_set {M : Model} {σ : Type} {st st' : σ} {Q : PUnit → σ → Prop} (h : ∀ st'', st'' = st' → Q ⟨⟩ st'') : wpS M A E s (set st' : StateT σ Sem PUnit) Q st := by
  unfold wpS; exact wpAny_pure ⟨rfl, h _ rfl⟩

theorem wpS_mergeAt (hL : LtOk (model prog w) A E s kd R P) (h0 : ∀ x, x ∈ a₀.toList → P x) {st : SortSt} {i sa na sb nb p q : Nat} {Q : Bool → SortSt → Prop}
    (hB : SB kd a₀ pd st) (hi : pd[i]? = some (sa, na, p)) (hi1 : pd[i + 1]? = some (sb, nb, q)) (hsb : sb = sa + na) (hna : 0 < na) (hnb : 0 < nb) (hsz : sb + nb ≤ a₀.size)
    (h1 : Seg R (arrOf st) sa sb) (h2 : Seg R (arrOf st) sb (sb + nb))
    (h : ∀ st', SB kd a₀ ((pd.setIfInBounds i (sa, na + nb, p)).eraseIdxIfInBounds (i + 1)) st' → Seg R (arrOf st') sa (sb + nb) → Same (arrOf st') (arrOf st) sa (sb + nb) → Q true st') :
    wpS (model prog w) A E s (mergeAt' i) Q st := by
  subst hsb
  have hsz' : sa + na + nb ≤ (arrOf st).size := by rw [hB.size]; exact hsz
  have hall := hB.all h0
  refine wpS_bind (wpS_get ?_)
  dsimp +instances only
  rw [show (PyProof.Rows.pendingOf st)[i]? = some (sa, na, p) by rw [hB.pend]; exact hi, show (PyProof.Rows.pendingOf st)[i + 1]? = some (sa + na, nb, q) by rw [hB.pend]; exact hi1]
  dsimp +instances only
  refine wpS_bind (wpS_set fun st1 hst1 => ?_)
  have hB1 : SB kd a₀ ((pd.setIfInBounds i (sa, na + nb, p)).eraseIdxIfInBounds (i + 1)) st1 := by
    subst hst1
    exact ⟨hB.perm, hB.kind, hB.failed, congrArg (fun z => (z.setIfInBounds i (sa, na + nb, p)).eraseIdxIfInBounds (i + 1)) hB.pend⟩
  have harr : arrOf st1 = arrOf st := by subst hst1; rfl
  clear hst1 hi hi1
  have hlt : sa + na < (arrOf st).size := Nat.lt_of_lt_of_le (Nat.lt_add_of_pos_right hnb) hsz'
  refine wpS_bind (wpS_elem hlt ?_)
  refine wpS_bind (wpS_gallop hL hB1.kind (hall _ hlt) hall (Nat.le_of_lt hlt) hna
    (fun i j g1 g2 => h1 _ _ (Nat.le_add_right _ _) (Nat.add_le_add_left g1 _) (Nat.add_lt_add_left g2 _)) fun k hk hcut => ?_)
  obtain ⟨e, rfl⟩ := Nat.exists_eq_add_of_le hk
  have k1 : ∀ i, sa ≤ i → i < sa + k → rk R (arrOf st) i ≤ rk R (arrOf st) (sa + (k + e)) := by
    intro i g1 g2
    obtain ⟨j, rfl⟩ := Nat.exists_eq_add_of_le g1
    have g3 := Nat.lt_of_add_lt_add_left g2
    have := (hcut j (Nat.lt_of_lt_of_le g3 hk)).mp g3
    simp only [ahead, Bool.false_eq_true, if_false, Bool.not_eq_true', decide_eq_false_iff_not] at this
    rw [rk_at (R := R) hlt]
    exact Int.not_lt.mp this
  dsimp +instances only
  rw [Nat.add_sub_cancel_left]
  cases e with
  | zero =>
    rw [if_pos (show ((0 : Nat) == 0) = true from rfl)]
    have hb := back (R := R) (xs := arrOf st) (lo := sa) (c := sa + k) (m := sa + k) (d := sa + k) (hi := sa + k + nb) (l := []) (Nat.le_add_right _ _) (Nat.le_refl _) (Nat.le_refl _) (Nat.le_add_right _ _) hsz' h1 h2
      k1 (fun i g1 g2 => Int.le_trans (k1 (sa + k - 1) (Nat.le_sub_one_of_lt (Nat.lt_add_of_pos_right hna)) (Nat.sub_one_lt (Nat.ne_of_gt (Nat.lt_of_lt_of_le hna (Nat.le_add_left _ _))))) (h2 _ i (Nat.le_refl _) g1 g2)) (by simp) List.Pairwise.nil
    refine wpS_pure (h st1 hB1 ?_ ?_)
    · rw [harr]; exact hb.2.1
    · rw [harr]; exact Same.refl _ _ _
  | succ d =>
    rw [if_neg (show ¬ (d + 1 == 0) = true by simp)]
    have k4 : rk R (arrOf st) (sa + (k + (d + 1))) ≤ rk R (arrOf st) (sa + k) := by
      have := mt (hcut k (Nat.lt_add_of_pos_right (Nat.succ_pos d))).mpr (Nat.lt_irrefl k)
      simp only [ahead, Bool.false_eq_true, if_false, Bool.not_eq_true', decide_eq_false_iff_not] at this
      rw [← rk_at (R := R) hlt] at this
      exact Int.le_of_lt (Classical.not_not.mp this)
    clear hcut hk hna
    rw [show sa + k + (d + 1) - 1 = sa + (k + d) from Nat.add_assoc sa k d]
    have hlt2 : sa + (k + d) < (arrOf st).size := Nat.lt_trans (Nat.lt_succ_self (sa + (k + d))) hlt
    refine wpS_bind (wpS_elem hlt2 ?_)
    refine wpS_bind (wpS_gallop hL hB1.kind (hall _ hlt2) hall hsz' (Nat.sub_one_lt (Nat.ne_of_gt hnb))
      (fun i j g1 g2 => h2 _ _ (Nat.le_add_right _ _) (Nat.add_le_add_left g1 _) (Nat.add_lt_add_left g2 _)) fun n2 hn2 hcut2 => ?_)
    dsimp +instances only
    have k2 : ∀ i, sa + (k + (d + 1)) + n2 ≤ i → i < sa + (k + (d + 1)) + nb → rk R (arrOf st) (sa + (k + d)) ≤ rk R (arrOf st) i := by
      intro i g1 g2
      obtain ⟨j, rfl⟩ := Nat.exists_eq_add_of_le (Nat.le_trans (Nat.le_add_right _ _) g1)
      have := mt (hcut2 j (Nat.lt_of_add_lt_add_left g2)).mpr (Nat.not_lt_of_le (Nat.le_of_add_le_add_left g1))
      simp only [ahead, if_true, decide_eq_true_eq] at this
      rw [← rk_at (R := R) hlt2] at this
      exact Int.not_lt.mp this
    have k3 : ∀ i, i < n2 → rk R (arrOf st) (sa + (k + (d + 1)) + i) ≤ rk R (arrOf st) (sa + (k + d)) := by
      intro i g1
      have := (hcut2 i (Nat.lt_of_lt_of_le g1 hn2)).mp g1
      simp only [ahead, if_true, decide_eq_true_eq] at this
      rw [← rk_at (R := R) hlt2] at this
      exact Int.le_of_lt this
    clear hcut2
    refine wpS_ifE (fun hn0 => ?_) fun hn0 => ?_
    · subst hn0
      have hb := back (R := R) (xs := arrOf st) (lo := sa) (c := sa + (k + (d + 1))) (m := sa + (k + (d + 1))) (d := sa + (k + (d + 1))) (hi := sa + (k + (d + 1)) + nb) (l := [])
        (Nat.le_add_right _ _) (Nat.le_refl _) (Nat.le_refl _) (Nat.le_add_right _ _) hsz' h1 h2
        (fun i g1 g2 => Int.le_trans (h1 i (sa + (k + d)) g1 (Nat.le_of_lt_succ g2) (Nat.lt_succ_self _)) (k2 _ (Nat.le_refl _) (Nat.lt_add_of_pos_right hnb)))
        (fun i g1 g2 => k2 i g1 g2) (by simp) List.Pairwise.nil
      refine wpS_pure (h st1 hB1 ?_ ?_)
      · rw [harr]; exact hb.2.1
      · rw [harr]; exact Same.refl _ _ _
    · have s1 : sa + (k + (d + 1)) ≤ (arrOf st).size := Nat.le_of_lt hlt
      have s2 : sa + (k + (d + 1)) + n2 ≤ (arrOf st).size := Nat.le_trans (Nat.add_le_add_left hn2 _) hsz'
      have a1 : sa + k + (d + 1) = sa + (k + (d + 1)) := Nat.add_assoc _ _ _
      have z1 : ((arrOf st).extract (sa + k) (sa + (k + (d + 1)))).size = d + 1 := by rw [Array.size_extract, Nat.min_eq_left s1, ← a1, Nat.add_sub_cancel_left]
      have z2 : ((arrOf st).extract (sa + (k + (d + 1))) (sa + (k + (d + 1)) + n2)).size = n2 := by rw [Array.size_extract, Nat.min_eq_left s2, Nat.add_sub_cancel_left]
      have x1 : ∀ j, j < d + 1 → rk R ((arrOf st).extract (sa + k) (sa + (k + (d + 1)))) j = rk R (arrOf st) (sa + k + j) := fun j h => rk_ext (by rw [← a1]; exact Nat.add_lt_add_left h _) s1
      have x2 : ∀ j, j < n2 → rk R ((arrOf st).extract (sa + (k + (d + 1))) (sa + (k + (d + 1)) + n2)) j = rk R (arrOf st) (sa + (k + (d + 1)) + j) := fun j h => rk_ext (Nat.add_lt_add_left h _) s2
      have p1 : ∀ i, (hi : i < ((arrOf st).extract (sa + k) (sa + (k + (d + 1)))).size) → P ((arrOf st).extract (sa + k) (sa + (k + (d + 1))))[i] := by
        intro i hi; rw [Array.getElem_extract]; exact hall _ _
      have p2 : ∀ i, (hi : i < ((arrOf st).extract (sa + (k + (d + 1))) (sa + (k + (d + 1)) + n2)).size) → P ((arrOf st).extract (sa + (k + (d + 1))) (sa + (k + (d + 1)) + n2))[i] := by
        intro i hi; rw [Array.getElem_extract]; exact hall _ _
      have q1 := seg_ext (R := R) (xs := arrOf st) (i := sa + k) (j := sa + (k + (d + 1))) s1 (fun i j g1 g2 g3 => h1 i j (Nat.le_trans (Nat.le_add_right _ _) g1) g2 g3)
      have q2 := seg_ext (R := R) (xs := arrOf st) (i := sa + (k + (d + 1))) (j := sa + (k + (d + 1)) + n2) s2 (fun i j g1 g2 g3 => h2 i j g1 g2 (Nat.lt_of_lt_of_le g3 (Nat.add_le_add_left hn2 _)))
      have n0 := Nat.pos_of_ne_zero hn0
      generalize hX : (arrOf st).extract (sa + k) (sa + (k + (d + 1))) = X at *
      generalize hY : (arrOf st).extract (sa + (k + (d + 1))) (sa + (k + (d + 1)) + n2) = Y at *
      have y1 : 0 < X.size := by rw [z1]; exact Nat.succ_pos d
      have y2 : 0 < Y.size := by rw [z2]; exact n0
      refine wpS_ifB (fun out st2 => Alike kd st1 st2 ∧ Res R X Y out) ?lo ?hi ?rest
      case lo =>
        refine fun hle => wpS_mergeLo hL hB1.kind p1 p2 q1 q2 y1 y2 ?_ ?_ fun out st2 hS hR => ⟨hS, hR⟩
        · rw [x1 0 (Nat.succ_pos d), x2 0 n0]; exact k4
        · intro j hj
          rw [z2] at hj
          rw [z1, x2 j hj, Nat.add_sub_cancel, x1 d (Nat.lt_succ_self d), Nat.add_assoc sa k d]; exact k3 j hj
      case hi =>
        refine fun hle => wpS_mergeHi hL hB1.kind p1 p2 q1 q2 y1 y2 ?_ ?_ fun out st2 hS hR => ⟨hS, hR⟩
        · rw [z1, z2, x2 _ (Nat.sub_one_lt hn0), Nat.add_sub_cancel, x1 d (Nat.lt_succ_self d), Nat.add_assoc sa k d]; exact k3 _ (Nat.sub_one_lt hn0)
        · intro j hj
          rw [z1] at hj
          rw [x1 j hj, x2 0 n0]
          exact Int.le_trans k4 (h1 _ _ (Nat.le_add_right _ _) (Nat.le_add_right _ _) (by rw [← a1]; exact Nat.add_lt_add_left hj _))
      rintro out st2 ⟨hS, hR⟩
      subst hX hY
      clear p1 p2 q1 q2 y1 y2 z1 z2 x1 x2
      refine wpS_bind (wpS_modify ?_)
      refine wpS_bind (wpS_get ?_)
      have hb := back (R := R) (xs := arrOf st) (lo := sa) (c := sa + k) (m := sa + (k + (d + 1))) (d := sa + (k + (d + 1)) + n2) (hi := sa + (k + (d + 1)) + nb) (l := out.toList)
        (Nat.le_add_right _ _) (Nat.add_le_add_left (Nat.le_add_right _ _) _) (Nat.le_add_right _ _) (Nat.add_le_add_left hn2 _) hsz' h1 h2 k1 k2 hR.1 hR.2
      have e2 : arrOf st2 = arrOf st := hS.2.1.trans harr
      have hfin := h (setArr st2 (putBack (arrOf st2) (sa + k) out.toList 0)) ⟨(by rw [e2]; exact hb.1.trans hB.perm), hS.1, hS.2.2.2.trans hB1.failed, hS.2.2.1.trans hB1.pend⟩
        (by show Seg R (putBack (arrOf st2) (sa + k) out.toList 0) _ _; rw [e2]; exact hb.2.1) (by show Same (putBack (arrOf st2) (sa + k) out.toList 0) _ _ _; rw [e2]; exact hb.2.2)
      have hf : failedOf st2 = none := hS.2.2.2.trans hB1.failed
      refine wpS_pure ?_
      dsimp +instances only
      rw [show (PyProof.Rows.failedOf st2).isNone = true by rw [hf]; rfl]
      exact hfin
end S1
end

section
set_option Elab.async false
set_option maxHeartbeats 2000000
namespace S1
open PySem PyProof PyProof.Rows
variable {kd : SortKind} {R : Keyed → Int} {P : Keyed → Prop} {a₀ : Array Keyed} {pd : Array (Nat × Nat × Nat)}
variable {prog : Program} {w : World} {A : Around} {E : Value → Shared → Prop} {s : Shared}

/-- runs that lie one behind the other, from a to b -/
noncomputable def Runs : List (Nat × Nat) → Nat → Nat → Prop
  | [], a, b => a = b
  | (x, n) :: r, a, b => x = a ∧ 0 < n ∧ Runs r (a + n) b
theorem Runs.append : ∀ {l r : List (Nat × Nat)} {a b : Nat}, Runs (l ++ r) a b ↔ ∃ c, Runs l a c ∧ Runs r c b
  | [], r, a, b => ⟨fun h => ⟨a, rfl, h⟩, fun ⟨c, h, k⟩ => by cases h; exact k⟩
  | (x, n) :: l, r, a, b => by
    constructor
    · rintro ⟨h1, h2, h3⟩
      obtain ⟨c, h4, h5⟩ := Runs.append.mp h3
      exact ⟨c, ⟨h1, h2, h4⟩, h5⟩
    · rintro ⟨c, ⟨h1, h2, h4⟩, h5⟩
      exact ⟨h1, h2, Runs.append.mpr ⟨c, h4, h5⟩⟩
theorem Runs.within : ∀ {l : List (Nat × Nat)} {a b : Nat}, Runs l a b → a + l.length ≤ b ∧ ∀ x ∈ l, a ≤ x.1 ∧ x.1 + x.2 ≤ b
  | [], a, b, h => by cases h; exact ⟨Nat.le_refl _, fun _ h => nomatch h⟩
  | (x, n) :: l, a, b, ⟨h1, h2, h3⟩ => by
    obtain ⟨h4, h5⟩ := h3.within
    refine ⟨by simp only [List.length_cons]; lia, fun y hy => ?_⟩
    rcases List.mem_cons.mp hy with rfl | hy
    · exact ⟨by simp [h1], by simp [h1]; lia⟩
    · have := h5 y hy; lia
noncomputable abbrev two (x : Nat × Nat × Nat) : Nat × Nat := (x.1, x.2.1)
/-- the pending runs cover all ahead of lo, each in order -/
noncomputable def Cov (R : Keyed → Int) (xs : Array Keyed) (l : List (Nat × Nat)) (lo : Nat) : Prop := Runs l 0 lo ∧ ∀ x ∈ l, Seg R xs x.1 (x.1 + x.2)

theorem Cov.same {xs ys : Array Keyed} {l : List (Nat × Nat)} {lo hi : Nat} (h : Cov R xs l lo) (e : Same ys xs lo hi) : Cov R ys l lo :=
  ⟨h.1, fun x hx => e.seg (.inl (h.1.within.2 x hx).2) (h.2 x hx)⟩
theorem Cov.push {xs : Array Keyed} {l : List (Nat × Nat)} {lo n : Nat} (h : Cov R xs l lo) (hn : 0 < n) (hs : Seg R xs lo (lo + n)) : Cov R xs (l ++ [(lo, n)]) (lo + n) :=
  ⟨Runs.append.mpr ⟨lo, h.1, rfl, hn, rfl⟩, fun x hx => by
    rcases List.mem_append.mp hx with hx | hx
    · exact h.2 x hx
    · rw [List.mem_singleton.mp hx]; exact hs⟩

theorem split_two {l : List (Nat × Nat × Nat)} {i : Nat} {u v : Nat × Nat × Nat} (h1 : l[i]? = some u) (h2 : l[i + 1]? = some v) : l = l.take i ++ u :: v :: l.drop (i + 2) := by
  have e1 : i < l.length := by
    rcases Nat.lt_or_ge i l.length with q | q
    · exact q
    · rw [List.getElem?_eq_none q] at h1; cases h1
  have e2 : i + 1 < l.length := by
    rcases Nat.lt_or_ge (i + 1) l.length with q | q
    · exact q
    · rw [List.getElem?_eq_none q] at h2; cases h2
  rw [List.getElem?_eq_getElem e1] at h1
  rw [List.getElem?_eq_getElem e2] at h2
  have h3 : l.drop i = u :: l.drop (i + 1) := by rw [List.drop_eq_getElem_cons e1, Option.some.inj h1]
  have h4 : l.drop (i + 1) = v :: l.drop (i + 2) := by rw [List.drop_eq_getElem_cons e2, Option.some.inj h2]
  rw [← h4, ← h3, List.take_append_drop]
theorem merged_list {l : List (Nat × Nat × Nat)} {i : Nat} {u v y : Nat × Nat × Nat} (h1 : l[i]? = some u) (h2 : l[i + 1]? = some v) : (l.set i y).eraseIdx (i + 1) = l.take i ++ y :: l.drop (i + 2) := by
  have e1 : i < l.length := by
    rcases Nat.lt_or_ge i l.length with q | q
    · exact q
    · rw [List.getElem?_eq_none q] at h1; cases h1
  have hl := split_two h1 h2
  have hlen : (l.take i).length = i := by rw [List.length_take]; lia
  generalize l.take i = p at hl hlen ⊢
  generalize l.drop (i + 2) = q at hl ⊢
  subst hl
  rw [List.set_append_right _ _ (by lia), hlen, Nat.sub_self, List.set_cons_zero, List.eraseIdx_append_of_length_le (by lia), hlen, show i + 1 - i = 1 by lia]
  rfl

theorem ite_less {c : Prop} [Decidable c] {p : Nat} (h : 1 < p) : (if c then p - 2 - 1 else p - 2) + 1 < p := by split <;> lia
theorem two_mod (l : List (Nat × Nat × Nat)) (pw : Nat) : ∀ i, (l.modify i fun (x : Nat × Nat × Nat) => (x.1, x.2.1, pw)).map two = l.map two := by
  induction l with
  | nil => intro i; simp
  | cons a l ih =>
    intro i
    cases i with
    | zero => simp
    | succ i => simp [ih i]

/-- one merging keeps what the pending runs cover -/
theorem wpS_mergeCov (hL : LtOk (model prog w) A E s kd R P) (h0 : ∀ x, x ∈ a₀.toList → P x) {st : SortSt} {i lo : Nat} {Q : Bool → SortSt → Prop}
    (hB : SB kd a₀ pd st) (hi : i + 1 < pd.size) (hC : Cov R (arrOf st) (pd.toList.map two) lo) (hlo : lo ≤ a₀.size)
    (h : ∀ st' pd', SB kd a₀ pd' st' → pd'.size + 1 = pd.size → Cov R (arrOf st') (pd'.toList.map two) lo → Same (arrOf st') (arrOf st) 0 lo → Q true st') :
    wpS (model prog w) A E s (mergeAt' i) Q st := by
  obtain ⟨u, hu⟩ : ∃ u, pd[i]? = some u := ⟨pd[i], getElem?_pos pd i (by lia)⟩
  obtain ⟨v, hv⟩ : ∃ v, pd[i + 1]? = some v := ⟨pd[i + 1], getElem?_pos pd (i + 1) (by lia)⟩
  have hu' : pd.toList[i]? = some u := by rw [Array.getElem?_toList]; exact hu
  have hv' : pd.toList[i + 1]? = some v := by rw [Array.getElem?_toList]; exact hv
  have hl := split_two hu' hv'
  obtain ⟨sa, na, p⟩ := u
  obtain ⟨sb, nb, q⟩ := v
  have hm := merged_list (y := (sa, na + nb, p)) hu' hv'
  obtain ⟨hR, hS⟩ := hC
  rw [hl, List.map_append, List.map_cons, List.map_cons] at hR hS
  obtain ⟨c, hR1, rfl, hna, hsb, hnb, hR2⟩ := Runs.append.mp hR
  dsimp only [two] at hna hsb hnb hR2
  have w2 := hR2.within
  have w1 := hR1.within
  refine wpS_mergeAt (R := R) hL h0 hB hu hv hsb hna hnb (by lia) ?_ ?_ fun st' hB' hs' hF' => ?_
  · have := hS (sa, na) (by simp)
    rw [hsb]; exact this
  · have := hS (sb, nb) (by simp)
    exact this
  · have e : (((pd.setIfInBounds i (sa, na + nb, p)).eraseIdxIfInBounds (i + 1)).toList) = pd.toList.take i ++ (sa, na + nb, p) :: pd.toList.drop (i + 2) := by
      rw [Array.toList_eraseIdxIfInBounds, Array.toList_setIfInBounds]; exact hm
    refine h st' _ hB' ?_ ?_ (hF'.wide (by lia) (by lia))
    · rw [← Array.length_toList, e]
      simp only [List.length_append, List.length_take, List.length_cons, List.length_drop, Array.length_toList]; lia
    · rw [e, List.map_append, List.map_cons]
      refine ⟨Runs.append.mpr ⟨_, hR1, rfl, Nat.add_pos_left hna nb, ?_⟩, fun x hx => ?_⟩
      · show Runs _ (sa + (na + nb)) lo
        rw [← Nat.add_assoc]; exact hR2
      · rcases List.mem_append.mp hx with hx | hx
        · refine hF'.seg (.inl (w1.2 x hx).2) (hS x (List.mem_append_left _ hx))
        · rcases List.mem_cons.mp hx with rfl | hx
          · show Seg R _ sa (sa + (na + nb))
            rw [← Nat.add_assoc, ← hsb]; exact hs'
          · refine hF'.seg (.inr ?_) (hS x (List.mem_append_right _ (List.mem_cons_of_mem _ (List.mem_cons_of_mem _ hx))))
            have := (w2.2 x hx).1; lia

inductive SrtA (kd : SortKind) (a₀ : Array Keyed) (R : Keyed → Int) (x : Nat) : Option Unit × Nat → SortSt → Prop
  | mk {lo pd st} : x ≤ lo → lo ≤ a₀.size → SB kd a₀ pd st → Cov R (arrOf st) (pd.toList.map two) lo → SrtA kd a₀ R x (none, lo) st
inductive SrtB (kd : SortKind) (a₀ : Array Keyed) (R : Keyed → Int) (lo n : Nat) : Option Unit × Unit → SortSt → Prop
  | mk {pd u st} : SB kd a₀ pd st → Cov R (arrOf st) (pd.toList.map two) lo → Seg R (arrOf st) lo (lo + n) → SrtB kd a₀ R lo n (none, u) st
inductive SrtC (kd : SortKind) (a₀ : Array Keyed) (R : Keyed → Int) (x b : Nat) : Option Unit × Unit → SortSt → Prop
  | mk {pd u st} : SB kd a₀ pd st → Cov R (arrOf st) (pd.toList.map two) a₀.size → pd.size + x ≤ b → SrtC kd a₀ R x b (none, u) st

theorem wpS_sortAll (hL : LtOk (model prog w) A E s kd R P) (h0 : ∀ x, x ∈ a₀.toList → P x) {st : SortSt} {Q : Unit → SortSt → Prop} (hB : SB kd a₀ #[] st) (h2 : 2 ≤ a₀.size)
    (h : ∀ st', (arrOf st').Perm a₀ → failedOf st' = none → Seg R (arrOf st') 0 a₀.size → Q () st') : wpS (model prog w) A E s sortRuns' Q st := by
  rw [sortRuns'_eq]
  refine wpS_bind (wpS_get ?_)
  dsimp +instances only
  simp only [hB.size]
  generalize hmr : minRun' a₀.size a₀.size 0 = mr
  refine wpS_bind (wpS_mono (wpS_loop (SrtA kd a₀ R) (Q := SrtA kd a₀ R a₀.size) ?step ?fin (.mk (Nat.le_refl _) (Nat.zero_le _) hB ⟨rfl, fun _ h => nomatch h⟩)) ?post)
  case fin =>
    intro _ _ hI; refine hI.casesOn ?_; intro lo pd st' h1 h2' hB' hC
    exact .mk (by lia) h2' hB' hC
  case step =>
    intro x _ _ hx hI; refine hI.casesOn ?_; clear hI; intro lo pd st' hxl hlo hB' hC K hD hY
    dsimp +instances only
    refine wpS_if (fun hend => wpS_pure (hD _ _ (.mk hend hlo hB' hC))) fun hend => ?_
    refine wpS_bind (wpS_run hL h0 (by lia) (by lia) hB' fun m st2 hm1 hm2 hB2 hs2 hF2 => ?_)
    dsimp +instances only
    have hC2 := hC.same hF2
    -- the run goes to the pending ones
    have rest : ∀ n, 1 ≤ n → lo + n ≤ a₀.size → ∀ st4 pd4, SB kd a₀ pd4 st4 → Cov R (arrOf st4) (pd4.toList.map two) lo → Seg R (arrOf st4) lo (lo + n) →
        ∃ pd', SB kd a₀ pd' (setPending st4 ((pendingOf st4).push (lo, n, 0))) ∧ Cov R (arrOf st4) (pd'.toList.map two) (lo + n) := by
      intro n h1 h2' st4 pd4 hB4 hC4 hs4
      refine ⟨pd4.push (lo, n, 0), ⟨hB4.perm, hB4.kind, hB4.failed, by show (pendingOf st4).push _ = _; rw [hB4.pend]⟩, ?_⟩
      rw [Array.toList_push, List.map_append]
      exact hC4.push h1 hs4
    generalize hm0 : m = m0
    revert m0
    refine wpS_ifG (fun n st3 => SB kd a₀ pd st3 ∧ Cov R (arrOf st3) (pd.toList.map two) lo ∧ Seg R (arrOf st3) lo (lo + n) ∧ 1 ≤ n ∧ lo + n ≤ a₀.size) ?rest ?pos ?neg
    case neg => exact fun hlt => ⟨hB2, hC2, hs2, hm1, by lia⟩
    case pos =>
      intro hlt J
      refine wpS_bind (wpS_ruleR ?_)
      refine wpS_bind (wpS_binary hL h0 (n := min (a₀.size - lo) mr) (by lia) (by lia) hB2 hs2 fun st3 hB3 hs3 hF3 => ?_)
      simp only [Bool.not_true, Bool.false_eq_true, if_false]
      exact J _ _ ⟨hB3, hC2.same hF3, hs3, by lia, by lia⟩
    clear hC2 hs2 hF2 hB2 hm1 hm2 m st2 hB' hC
    rintro n st3 ⟨hB3, hC3, hs3, g1, g2⟩
    refine wpS_bind (wpS_get ?_)
    rw [hB3.pend]
    cases hbk : pd.back? with
    | none =>
      dsimp +instances only
      obtain ⟨pd', hB', hC'⟩ := rest n g1 g2 st3 pd hB3 hC3 hs3
      exact wpS_bind (wpS_modify (wpS_pure (hY _ _ (.mk (by lia) g2 hB' hC'))))
    | some y =>
      obtain ⟨s1, n1, q1⟩ := y
      dsimp +instances only
      generalize power' a₀.size (2 * s1 + n1) (2 * s1 + n1 + n1 + n) a₀.size = pw
      refine wpS_bind (wpS_mono (wpS_loop (fun _ => SrtB kd a₀ R lo n) (Q := SrtB kd a₀ R lo n) ?_ (fun _ _ h => h) (.mk hB3 hC3 hs3)) ?_)
      · clear hB3 hC3 hs3 hD hY st3
        intro _ _ _ _ hI; refine hI.casesOn ?_; clear hI; intro pd4 u st4 hB4 hC4 hs4 K hD hY
        refine wpS_bind (wpS_get ?_)
        rw [hB4.pend]
        by_cases hz : pd4.size > 1
        · rw [if_pos hz]
          obtain ⟨z, hz'⟩ : ∃ z, pd4[pd4.size - 2]? = some z := ⟨pd4[pd4.size - 2], getElem?_pos pd4 _ (by lia)⟩
          rw [hz']
          dsimp +instances only
          refine wpS_if (fun _ => wpS_pure (hD _ _ (.mk hB4 hC4 hs4))) fun _ => ?_
          refine wpS_bind (wpS_mergeCov hL h0 hB4 (by lia) hC4 hlo fun st5 pd5 hB5 _ hC5 hF5 => ?_)
          exact wpS_pure (hY _ _ (.mk hB5 hC5 (hF5.seg (.inr (Nat.le_refl _)) hs4)))
        · rw [if_neg hz]; exact wpS_pure (hD _ _ (.mk hB4 hC4 hs4))
      · intro _ _ hI; refine hI.casesOn ?_; clear hI; intro pd4 u st4 hB4 hC4 hs4
        refine wpS_bind (wpS_modify ?_)
        have hB5 : SB kd a₀ (pd4.modify (pd4.size - 1) fun (x : Nat × Nat × Nat) => (x.1, x.2.1, pw)) (setPending st4 ((pendingOf st4).modify ((pendingOf st4).size - 1) fun (x : Nat × Nat × Nat) => (x.1, x.2.1, pw))) :=
          ⟨hB4.perm, hB4.kind, hB4.failed, congrArg (fun (z : Array (Nat × Nat × Nat)) => z.modify (z.size - 1) fun (x : Nat × Nat × Nat) => (x.1, x.2.1, pw)) hB4.pend⟩
        have hC5 : Cov R (arrOf st4) ((pd4.modify (pd4.size - 1) fun (x : Nat × Nat × Nat) => (x.1, x.2.1, pw)).toList.map two) lo := by
          rw [Array.toList_modify, two_mod]; exact hC4
        obtain ⟨pd', hB', hC'⟩ := rest n g1 g2 _ _ hB5 hC5 hs4
        exact wpS_bind (wpS_modify (wpS_pure (hY _ _ (.mk (by lia) g2 hB' hC'))))
  case post =>
    intro _ _ hI; refine hI.casesOn ?_; clear hI; intro lo pd st' h3 h4 hB' hC
    obtain rfl : lo = a₀.size := Nat.le_antisymm h4 h3
    dsimp +instances only
    have hlen := hC.1.within.1
    rw [List.length_map, Array.length_toList] at hlen
    refine wpS_bind (wpS_mono (wpS_loop (fun x => SrtC kd a₀ R x (a₀.size + 1)) (Q := SrtC kd a₀ R 0 1) ?_ ?_ (.mk hB' hC (by lia))) ?_)
    · clear hB' hC hlen
      intro x _ _ hx hI; refine hI.casesOn ?_; clear hI; intro pd u st'' hB'' hC'' hz K hD hY
      refine wpS_bind (wpS_get ?_)
      rw [hB''.pend]
      refine wpS_if (fun h1 => wpS_pure (hD _ _ (.mk hB'' hC'' h1))) fun h1 => ?_
      refine wpS_bind (wpS_mergeCov hL h0 hB'' (ite_less (by lia)) hC'' (Nat.le_refl _) fun st3 pd3 hB3 hz3 hC3 _ => ?_)
      exact wpS_pure (hY _ _ (.mk hB3 hC3 (by lia)))
    · intro _ _ hI; refine hI.casesOn ?_; intro pd u st'' hB'' hC'' hz
      exact .mk hB'' hC'' (by lia)
    · intro _ _ hI; refine hI.casesOn ?_; clear hI; intro pd u st'' hB'' hC'' hz
      refine wpS_pure (h _ hB''.perm hB''.failed ?_)
      obtain ⟨hR, hS⟩ := hC''
      have : ∃ y, pd.toList.map two = [y] := by
        match hp : pd.toList.map two, hR with
        | [], hR => have : 0 = a₀.size := hR; lia
        | [y], _ => exact ⟨y, rfl⟩
        | y :: z :: r, _ =>
          have : (pd.toList.map two).length = (y :: z :: r).length := by rw [hp]
          simp at this; lia
      obtain ⟨⟨y, n⟩, hy⟩ := this
      rw [hy] at hR hS
      obtain ⟨h1, h2', h3⟩ := hR
      have hs := hS (y, n) (by simp)
      dsimp only at h1 hs
      have h3' : 0 + n = a₀.size := h3
      subst h1
      rwa [h3'] at hs
end S1
end

section
open PySem PySem.W PySem.Calls PySem.Spec PyProof PyProof.Rows PyProof.Rows.LCg
set_option Elab.async false
set_option maxRecDepth 100000
set_option maxHeartbeats 1000000
set_option linter.unusedVariables false
namespace Mine
open S1

/-! ## tuples of four small numbers, in order -/
structure Quad where
  p : Nat
  q : Nat
  r : Nat
  t : Nat
noncomputable abbrev Quad.enc (x : Quad) : PyData := .tuple [.int (x.p : Int), .int (x.q : Int), .int (x.r : Int), .int (x.t : Int)]
noncomputable def Quad.small (x : Quad) : Bool := decide (x.p < 1000) && decide (x.q < 1000) && decide (x.r < 1000) && decide (x.t < 1000)
noncomputable def Quad.rank (x : Quad) : Nat := x.p * 1000000000 + x.q * 1000000 + x.r * 1000 + x.t
noncomputable def quadOf : PyData → Quad
  | .tuple [.int p, .int q, .int r, .int t] => ⟨p.toNat, q.toNat, r.toNat, t.toNat⟩
  | _ => ⟨0, 0, 0, 0⟩
theorem quadOf_enc (x : Quad) : quadOf x.enc = x := by cases x; rfl
theorem Quad.small_iff {x : Quad} : x.small = true ↔ x.p < 1000 ∧ x.q < 1000 ∧ x.r < 1000 ∧ x.t < 1000 := by
  unfold Quad.small; simp [and_assoc]
theorem rank_inj {x y : Quad} (hx : x.small = true) (hy : y.small = true) (h : x.rank = y.rank) : x = y := by
  obtain ⟨a1, a2, a3, a4⟩ := Quad.small_iff.mp hx
  obtain ⟨b1, b2, b3, b4⟩ := Quad.small_iff.mp hy
  unfold Quad.rank at h
  obtain ⟨p, q, r, t⟩ := x
  obtain ⟨p', q', r', t'⟩ := y
  dsimp only at *
  have e1 : p = p' := by lia
  have e2 : q = q' := by lia
  have e3 : r = r' := by lia
  have e4 : t = t' := by lia
  subst e1 e2 e3 e4; rfl
theorem lay_quad (x : Quad) : x.enc.canLay0 = true := by rfl

/-- what a value of the family is, and its rank -/
noncomputable def IsQ (g : Heap) (v : Value) : Prop := ∃ x : Quad, x.small = true ∧ Rp g v x.enc
noncomputable def rkOf (g : Heap) (k : Keyed) : Int := ((quadOf (dataOf g k.1)).rank : Nat)
theorem rkOf_eq {g : Heap} {k : Keyed} {x : Quad} (h : Rp g k.1 x.enc) : rkOf g k = (x.rank : Nat) := by
  unfold rkOf
  rw [dataOf_eq h (lay_quad x), quadOf_enc]

theorem rpl4 {g : Heap} {vs : List Value} {x : Quad} (h : RpL g vs [.int (x.p : Int), .int (x.q : Int), .int (x.r : Int), .int (x.t : Int)]) : ∃ a b c d, vs = [.int x.p a, .int x.q b, .int x.r c, .int x.t d] := by
  obtain ⟨v1, v2, v3, v4, rfl, r1, r2, r3, r4⟩ := h.of4
  obtain ⟨a, rfl⟩ := r1.int_inv
  obtain ⟨b, rfl⟩ := r2.int_inv
  obtain ⟨c, rfl⟩ := r3.int_inv
  obtain ⟨d, rfl⟩ := r4.int_inv
  exact ⟨a, b, c, d, rfl⟩
theorem quad_tuple {g : Heap} {v : Value} {x : Quad} (h : Rp g v x.enc) : ∃ a o n t1 t2 t3 t4, v = .ref a ∧ g.get? a = some o ∧ o.cls = .type "tuple" ∧ o.data = .seq #[.int x.p t1, .int x.q t2, .int x.r t3, .int x.t t4] n := by
  cases h with
  | tuple e c dd sq rr =>
    obtain ⟨a, b, c', d, hv⟩ := rpl4 rr
    rename_i ad o vs n
    refine ⟨_, o, n, a, b, c', d, rfl, e, c, ?_⟩
    rw [sq]
    congr 1
    apply Array.toList_inj.mp
    rw [hv]

section
variable {prog : Program} {w : World} {A : Around} {E : Value → Shared → Prop} {s : Shared} {W : List Addr}

theorem lt_quads {x y : Value} {u v : Quad} {Q : Bool → Shared → Prop} (hx : Rp s.heap x u.enc) (hy : Rp s.heap y v.enc) (hu : u.small = true) (hv : v.small = true)
    (h : Q (decide ((u.rank : Int) < (v.rank : Int))) s) : wpAny (model prog w) A (keyLt' (tuples' true) x y) Q E s := by
  obtain ⟨a, o, n, t1, t2, t3, t4, rfl, e, c, d⟩ := quad_tuple hx
  obtain ⟨a', o', n', t1', t2', t3', t4', rfl, e', c', d'⟩ := quad_tuple hy
  obtain ⟨a1, a2, a3, a4⟩ := Quad.small_iff.mp hu
  obtain ⟨b1, b2, b3, b4⟩ := Quad.small_iff.mp hv
  unfold Quad.rank at h
  obtain ⟨p, q, r, t⟩ := u
  obtain ⟨p', q', r', t'⟩ := v
  dsimp only at *
  refine kat_lt e d e' d' ?_
  refine kat_cons (wpAny_eqBool_int (kat_go (fun h1 => kat_yes ?_) fun h1 => kat_no ?_))
  · refine kat_cons (wpAny_eqBool_int (kat_go (fun h2 => kat_yes ?_) fun h2 => kat_no ?_))
    · refine kat_cons (wpAny_eqBool_int (kat_go (fun h3 => kat_yes ?_) fun h3 => kat_no ?_))
      · refine kat_cons (wpAny_eqBool_int (kat_go (fun h4 => kat_yes ?_) fun h4 => kat_no ?_))
        · refine kat_nil ?_
          rw [beq_iff_eq] at h1 h2 h3 h4
          have e : decide ((#[Value.int (p : Int) t1, .int q t2, .int r t3, .int t t4] : Array Value).size < (#[Value.int (p' : Int) t1', .int q' t2', .int r' t3', .int t' t4'] : Array Value).size) = decide (((p * 1000000000 + q * 1000000 + r * 1000 + t : Nat) : Int) < ((p' * 1000000000 + q' * 1000000 + r' * 1000 + t' : Nat) : Int)) := by
            rw [decide_eq_decide]
            simp only [List.size_toArray, List.length_cons, List.length_nil]
            lia
          rw [e]; exact h
        · refine kat_one _ _ (lt_int ?_)
          rw [beq_iff_eq] at h1 h2 h3
          have h4' : ¬ (t : Int) = t' := by simpa using h4
          have e : decide ((t : Int) < t') = decide (((p * 1000000000 + q * 1000000 + r * 1000 + t : Nat) : Int) < ((p' * 1000000000 + q' * 1000000 + r' * 1000 + t' : Nat) : Int)) := by
            rw [decide_eq_decide]; lia
          rw [e]; exact h
      · refine kat_one _ _ (lt_int ?_)
        rw [beq_iff_eq] at h1 h2
        have h3' : ¬ (r : Int) = r' := by simpa using h3
        have e : decide ((r : Int) < r') = decide (((p * 1000000000 + q * 1000000 + r * 1000 + t : Nat) : Int) < ((p' * 1000000000 + q' * 1000000 + r' * 1000 + t' : Nat) : Int)) := by
          rw [decide_eq_decide]; lia
        rw [e]; exact h
    · refine kat_one _ _ (lt_int ?_)
      rw [beq_iff_eq] at h1
      have h2' : ¬ (q : Int) = q' := by simpa using h2
      have e : decide ((q : Int) < q') = decide (((p * 1000000000 + q * 1000000 + r * 1000 + t : Nat) : Int) < ((p' * 1000000000 + q' * 1000000 + r' * 1000 + t' : Nat) : Int)) := by
        rw [decide_eq_decide]; lia
      rw [e]; exact h
  · refine oneLt_int ?_
    have h1' : ¬ (p : Int) = p' := by simpa using h1
    have e : decide ((p : Int) < p') = decide (((p * 1000000000 + q * 1000000 + r * 1000 + t : Nat) : Int) < ((p' * 1000000000 + q' * 1000000 + r' * 1000 + t' : Nat) : Int)) := by
      rw [decide_eq_decide]; lia
    rw [e]; exact h

theorem ltOk_quads {g : Heap} (hg : Le g s.heap) : LtOk (model prog w) A E s (tuples' true) (rkOf g) (fun k => IsQ g k.1) := by
  rintro x y st Q ⟨u, hu, ru⟩ ⟨v, hv, rv⟩ hk hQ
  rw [rkOf_eq ru, rkOf_eq rv] at hQ
  rw [lt'_eq]
  refine wpS_bind (wpS_get ?_)
  rw [hk]
  refine wpS_bind (wpS_lift (wpAny_attempt (lt_quads (ru.mono hg) (rv.mono hg) hu hv ⟨rfl, ?_⟩)))
  exact wpS_pure hQ

theorem kat_of {g : Heap} (hg : Le g s.heap) : ∀ {vs : List Value} {qs : List Quad}, RpL g vs (qs.map Quad.enc) → ∃ fs, KatTups s.heap vs fs ∧ fs.length = qs.length ∧ ∀ v ∈ fs, ∃ i t, v = .int i t
  | _, [], h => by cases h; exact ⟨[], trivial, rfl, fun _ h => nomatch h⟩
  | _, x :: qs, h => by
    cases h with
    | cons a h =>
      obtain ⟨fs, h1, h2, h3⟩ := kat_of hg h
      obtain ⟨a, o, n, t1, t2, t3, t4, rfl, e, c, d⟩ := quad_tuple a
      exact ⟨.int x.p t1 :: fs, KatTups.cons (hg _ _ e) c d rfl h1, by simp [h2], fun v hv => by
        rcases List.mem_cons.mp hv with rfl | hv
        · exact ⟨_, _, rfl⟩
        · exact h3 v hv⟩

theorem rpl_perm {g : Heap} {vs vs' : List Value} (h : vs'.Perm vs) : ∀ {qs : List Quad}, RpL g vs (qs.map Quad.enc) → ∃ qs' : List Quad, qs'.Perm qs ∧ RpL g vs' (qs'.map Quad.enc) := by
  induction h with
  | nil => intro qs r; exact ⟨qs, .refl _, r⟩
  | cons x _ ih =>
    intro qs r
    cases qs with
    | nil => cases r
    | cons y qs =>
      cases r with
      | cons a r =>
        obtain ⟨qs', h1, h2⟩ := ih r
        exact ⟨y :: qs', h1.cons y, .cons a h2⟩
  | swap x y l =>
    intro qs r
    cases qs with
    | nil => cases r
    | cons u qs =>
      cases qs with
      | nil => cases r with | cons _ r => cases r
      | cons v qs =>
        cases r with
        | cons a r => cases r with | cons b r => exact ⟨v :: u :: qs, .swap u v qs, .cons b (.cons a r)⟩
  | trans _ _ ih1 ih2 =>
    intro qs r
    obtain ⟨q1, h1, h2⟩ := ih2 r
    obtain ⟨q2, h3, h4⟩ := ih1 h2
    exact ⟨q2, h3.trans h1, h4⟩

theorem pairwise_rank {g : Heap} : ∀ {vs : List Value} {qs : List Quad}, RpL g vs (qs.map Quad.enc) → (∀ i j, i ≤ j → j < vs.length → rkOf g (vs.getD i .none, .none) ≤ rkOf g (vs.getD j .none, .none)) → qs.Pairwise fun a b => a.rank ≤ b.rank := by
  intro vs qs r h
  rw [List.pairwise_iff_getElem]
  intro i j hi hj hij
  have hl := r.length
  rw [List.length_map] at hl
  have key : ∀ i (hi : i < qs.length), rkOf g (vs.getD i .none, .none) = (qs[i].rank : Nat) := by
    intro i hi
    obtain ⟨v, hv, rv⟩ := r.get (i := i) (d := qs[i].enc) (by rw [List.getElem?_map, List.getElem?_eq_getElem hi]; rfl)
    rw [List.getD_eq_getElem?_getD, hv]
    exact rkOf_eq rv
  have := h i j (by lia) (by lia)
  rw [key i hi, key j hj] at this
  lia
theorem sorted_uniq {qs es : List Quad} (h : qs.Perm es) (hs : ∀ x ∈ es, x.small = true) (h1 : qs.Pairwise fun a b => a.rank ≤ b.rank) (h2 : es.Pairwise fun a b => a.rank ≤ b.rank) : qs = es :=
  h.eq_of_pairwise (fun a b ha hb h3 h4 => rank_inj (hs a (h.mem_iff.mp ha)) (hs b hb) (Nat.le_antisymm h3 h4)) h1 h2
end
end Mine
end

section
open PySem PySem.W PySem.Calls PySem.Spec PyProof PyProof.Rows PyProof.Rows.LCg
set_option Elab.async false
set_option maxRecDepth 100000
set_option maxHeartbeats 1000000
set_option linter.unusedVariables false
namespace Mine
open S1

section
variable {prog : Program} {w : World} {A : Around} {E : Value → Shared → Prop} {s : Shared} {W : List Addr}

theorem zip_self (vs : List Value) : (vs.toArray.zip vs.toArray).toList = vs.map fun v => (v, v) := by
  rw [Array.toList_zip]
  show vs.zip vs = _
  induction vs with
  | nil => rfl
  | cons v vs ih => rw [List.zip_cons_cons, ih, List.map_cons]
theorem fst_snd {xs : Array Keyed} {vs : List Value} (h : xs.toList.Perm (vs.map fun v => (v, v))) : xs.toList.map (·.1) = (xs.map (·.2)).toList := by
  rw [Array.toList_map]
  refine List.map_congr_left fun x hx => ?_
  obtain ⟨v, _, rfl⟩ := List.mem_map.mp (h.mem_iff.mp hx)
  rfl
theorem up_of {g : Heap} {xs : Array Keyed} {n : Nat} (hn : xs.size = n) (hsg : Seg (rkOf g) xs 0 n) (he : ∀ x ∈ xs.toList, x.1 = x.2) : ∀ i j, i ≤ j → j < (xs.map (·.2)).toList.length →
    rkOf g ((xs.map (·.2)).toList.getD i .none, .none) ≤ rkOf g ((xs.map (·.2)).toList.getD j .none, .none) := by
  intro i j hij hj
  have hj' : j < xs.size := by simpa using hj
  have key : ∀ i (hi : i < xs.size), rkOf g ((xs.map (·.2)).toList.getD i .none, .none) = rk (rkOf g) xs i := by
    intro i hi
    rw [rk_at hi]
    unfold rkOf
    congr 4
    rw [List.getD_eq_getElem?_getD, Array.getElem?_toList, Array.getElem?_map, getElem?_pos xs i hi]
    exact (he _ (by simp)).symm
  rw [key i (by lia), key j hj']
  exact hsg i j (Nat.zero_le _) hij (by lia)

theorem list_sort_quads {g : Heap} {a : Addr} {vs : List Value} {qs es : List Quad} {n : Nat} {P : PySem.Fin → Shared → Prop} (ho : s.heap.get? a = some (seqObj "list" vs.toArray n))
    (hg : ∀ b o, g.get? b = some o → b ≠ a ∧ s.heap.get? b = some o) (r : RpL g vs (qs.map Quad.enc)) (hsm : ∀ x ∈ qs, x.small = true) (hp : es.Perm qs) (hs : es.Pairwise fun a b => a.rank ≤ b.rank) (hz : vs.length ≤ 1000)
    (h : ∀ (out : Array Value), RpL g out.toList (es.map Quad.enc) → P (.done (.ret .none)) { s with heap := sortedHeap s.heap a vs out }) :
    wpAny (model prog w) A (Builtin.«list.sort» ⟨[.ref a], []⟩) P E s := by
  rw [list_sort_plain]
  have ha : a < s.heap.objs.size := Heap.lt_size ho
  refine wpAny_bind (listItems_at ho rfl ?_)
  refine wpAny_bind (listUpdate_at ho rfl ?_ (by rw [List.size_toArray, sizeLine_eq]; lia) (Nat.zero_le _))
  obtain ⟨e1, ho1⟩ : ∃ e1, (s.heap.update a (Obj.mapSeq fun _ => #[])).get? a = some (seqObj "list" #[] e1) := ⟨_, get?_update_seq ho (fun _ => #[])⟩
  refine wpAny_bind (seqEpoch_at ho1 rfl ?_)
  refine wpAny_bind (wpAny_newTuple ?_ (by show vs.length ≤ _; rw [sizeLine_eq]; lia))
  refine wpAny_bind (wpAny_newList ?_ (Nat.zero_le _))
  refine wpAny_holding ?_
  have ho6 : (((s.heap.update a (Obj.mapSeq fun _ => #[])).push (seqObj "tuple" vs.toArray 0)).push (seqObj "list" #[] 0)).get? a = some (seqObj "list" #[] e1) := by
    rw [Heap.get?_push_ne _ _ _ (by rw [size_push', Heap.size_update]; exact Nat.ne_of_lt (Nat.lt_succ_of_lt ha)), Heap.get?_push_ne _ _ _ (by rw [Heap.size_update]; exact Nat.ne_of_lt ha)]
    exact ho1
  have hg6 : Le g (((s.heap.update a (Obj.mapSeq fun _ => #[])).push (seqObj "tuple" vs.toArray 0)).push (seqObj "list" #[] 0)) := fun b o e => by
    obtain ⟨h1, h2⟩ := hg b o e
    refine Heap.get?_push_of_some _ (Heap.get?_push_of_some _ ?_)
    rw [Heap.get?_update_ne _ _ _ _ h1]; exact h2
  show wpAny (model prog w) A _ P E { s with heap := ((s.heap.update a (Obj.mapSeq fun _ => #[])).push (seqObj "tuple" vs.toArray 0)).push (seqObj "list" #[] 0) }
  dsimp +instances only
  have hsz : vs.toArray.size = vs.length := by simp
  have hzs : (vs.toArray.zip vs.toArray).size = vs.length := by simp
  have hql := r.length
  rw [List.length_map] at hql
  have hes : ∀ x ∈ es, x.small = true := fun x hx => hsm x (hp.mem_iff.mp hx)
  have fin : ∀ st' : SortSt, (arrOf st').Perm (vs.toArray.zip vs.toArray) → Seg (rkOf g) (arrOf st') 0 vs.length →
      P (.done (.ret .none)) { s with heap := sortedHeap s.heap a vs ((arrOf st').map (·.2)) } := by
    intro st' hpm hsg
    have hpl := Array.perm_iff_toList_perm.mp hpm
    rw [zip_self] at hpl
    have hvp : ((arrOf st').map (·.2)).toList.Perm vs := by
      rw [← fst_snd hpl]
      have := hpl.map (·.1)
      simpa [List.map_map, Function.comp_def] using this
    obtain ⟨qs', h1, h2⟩ := rpl_perm hvp r
    have h3 := pairwise_rank h2 (up_of (by rw [hpm.size_eq, hzs]) hsg fun x hx => by
      obtain ⟨v, _, rfl⟩ := List.mem_map.mp (hpl.mem_iff.mp hx)
      rfl)
    have h4 : qs' = es := sorted_uniq (h1.trans hp.symm) hes h3 hs
    subst h4
    exact h _ h2
  by_cases h2 : vs.toArray.size < 2
  · rw [if_pos h2, if_pos h2]
    refine wpAny_bind (wpAny_pure ?_)
    rw [StateT.run_pure]
    refine wpAny_bind (wpAny_pure ?_)
    dsimp +instances only
    refine wpAny_bind (seqEpoch_at ho6 rfl ?_)
    refine wpAny_bind (listUpdate_at ho6 rfl ?_ (Nat.zero_le _) (by rw [Array.size_map]; show (vs.toArray.zip vs.toArray).size ≤ _; rw [hzs, sizeLine_eq]; lia))
    simp only [bne_self_eq_false, Bool.false_eq_true, if_false]
    refine wpAny_pure (fin (SortSt.mk' general' (vs.toArray.zip vs.toArray) #[] 7 none) (Array.Perm.refl _) ?_)
    intro i j _ hij hj
    have : i = j := by lia
    subst this; exact Int.le_refl _
  · rw [if_neg h2, if_neg h2]
    obtain ⟨fs, k1, k2, k3⟩ := kat_of (s := { s with heap := ((s.heap.update a (Obj.mapSeq fun _ => #[])).push (seqObj "tuple" vs.toArray 0)).push (seqObj "list" #[] 0) }) hg6 r
    refine wpAny_bind (kat_kind (T := .type "int") k1 (by lia) (fun v hv => ?_) (by rfl) ?_)
    · obtain ⟨i, t, rfl⟩ := k3 v hv
      exact .now
    rw [show ((Value.type "int") != (Value.type "tuple")) = true by decide]
    refine wpAny_bind (wpAny_mono (wpS_sortAll (R := rkOf g) (P := fun k => IsQ g k.1) (kd := tuples' true) (a₀ := vs.toArray.zip vs.toArray) (st := SortSt.mk' (tuples' true) (vs.toArray.zip vs.toArray) #[] 7 none)
      (Q := fun _ st' => (arrOf st').Perm (vs.toArray.zip vs.toArray) ∧ failedOf st' = none ∧ Seg (rkOf g) (arrOf st') 0 (vs.toArray.zip vs.toArray).size)
      (ltOk_quads hg6) (fun x hx => ?_) ⟨Array.Perm.refl _, rfl, rfl, rfl⟩ (by lia) fun st' a1 a2 a3 => ⟨a1, a2, a3⟩) ?_ fun _ _ e => e)
    · rw [zip_self] at hx
      obtain ⟨v, hv, rfl⟩ := List.mem_map.mp hx
      obtain ⟨d, hd, rd⟩ := r.mem v hv
      obtain ⟨q, hq, rfl⟩ := List.mem_map.mp hd
      exact ⟨q, hsm q hq, rd⟩
    rintro ⟨⟨⟩, st'⟩ s' ⟨rfl, hpm, hf, hsg⟩
    dsimp +instances only
    refine wpAny_bind (seqEpoch_at ho6 rfl ?_)
    refine wpAny_bind (listUpdate_at ho6 rfl ?_ (Nat.zero_le _) (by rw [Array.size_map]; show (arrOf st').size ≤ _; rw [hpm.size_eq, hzs, sizeLine_eq]; lia))
    rw [hf]
    simp only [bne_self_eq_false, Bool.false_eq_true, if_false]
    rw [hzs] at hsg
    exact wpAny_pure (fin st' hpm hsg)

theorem op_sorted {h : Heap} {qs es : List Quad} (hW : There W h) (hsm : ∀ x ∈ qs, x.small = true) (hp : es.Perm qs) (hs : es.Pairwise fun a b => a.rank ≤ b.rank) (hz : qs.length ≤ 1000) :
    OpN prog w A W h (.builtin "sorted") [.list (qs.map Quad.enc)] (.list (es.map Quad.enc)) := fun s vs Q E hs₀ r hQ => by
  cases r with
  | cons a r =>
    cases a with
    | list e c dd sq rr =>
      cases r
      rename_i l o xs n
      have hlen := rr.length
      rw [List.length_map] at hlen
      have hl : s.heap.IsList l xs.toList.toArray := ⟨o, (hide_get e).1, c, n, by simpa using sq⟩
      refine Calls.call_function_entry kind_sorted plain_sorted entry_sorted (args_sorted1 _) ?_
      unfold Builtin.«sorted»
      refine wpAny_bind (m := checkCount "sorted" 1 1 _) (wpAny_pure ?_)
      refine wpAny_bind (collect_list hl ?_ (by rw [sizeLine_eq]; lia))
      refine wpAny_bind (wpAny_newList ?_ (by rw [sizeLine_eq]; lia))
      have hsz : ((s.heap.push (seqObj "list" #[] 0)).update s.heap.objs.size (Obj.mapSeq (· ++ xs.toList.toArray))).objs.size = s.heap.objs.size + 1 := by
        rw [Heap.size_update, size_push']
      have hoL : (((s.heap.push (seqObj "list" #[] 0)).update s.heap.objs.size (Obj.mapSeq (· ++ xs.toList.toArray))).push (seqObj "list" xs.toList.toArray 0)).get? (s.heap.objs.size + 1) = some (seqObj "list" xs.toList.toArray 0) := by
        rw [← hsz]; exact Heap.get?_push_size _ rfl
      have keep : ∀ b o, s.heap.get? b = some o → b ≠ s.heap.objs.size + 1 ∧ (((s.heap.push (seqObj "list" #[] 0)).update s.heap.objs.size (Obj.mapSeq (· ++ xs.toList.toArray))).push (seqObj "list" xs.toList.toArray 0)).get? b = some o := fun b o q => by
        have hlt : b < s.heap.objs.size := Heap.lt_size q
        refine ⟨Nat.ne_of_lt (Nat.lt_succ_of_lt hlt), ?_⟩
        rw [Heap.get?_push_ne _ _ _ (by rw [hsz]; exact Nat.ne_of_lt (Nat.lt_succ_of_lt hlt)), Heap.get?_update_ne _ _ _ _ (Nat.ne_of_lt hlt), Heap.get?_push_ne _ _ _ (Nat.ne_of_lt hlt)]
        exact q
      show wpAny _ _ _ _ _ { s with heap := ((s.heap.push (seqObj "list" #[] 0)).update s.heap.objs.size (Obj.mapSeq (· ++ xs.toList.toArray))).push (seqObj "list" xs.toList.toArray 0) }
      rw [hsz]
      refine wpAny_bind (wpAny_holding (wpAny_call_entry slot_list_sort ⟨_, hoL, rfl⟩ entry_list_sort (list_sort_quads (g := hideAll s.heap W) hoL (fun b o q => keep b o (hide_get q).1) rr hsm hp hs (by lia) fun out ro => ⟨_, rfl, ?_⟩) (args_list_sort _)))
      refine wpAny_pure ⟨_, rfl, ?_⟩
      have al : s.heap.objs.size + 1 ∉ W := fun hm => by
        obtain ⟨o', e'⟩ := hW.mono hs₀ _ hm
        exact absurd (Heap.lt_size e') (Nat.not_lt.mpr (Nat.le_succ _))
      generalize hH : ((s.heap.push (seqObj "list" #[] 0)).update s.heap.objs.size (Obj.mapSeq (· ++ xs.toList.toArray))).push (seqObj "list" xs.toList.toArray 0) = H at *
      have fin : Le s.heap (sortedHeap H (s.heap.objs.size + 1) xs.toList out) := fun b o q => by
        obtain ⟨h1, h2⟩ := keep b o q
        unfold sortedHeap
        rw [Heap.get?_update_ne _ _ _ _ h1]
        refine Heap.get?_push_of_some _ (Heap.get?_push_of_some _ ?_)
        rw [Heap.get?_update_ne _ _ _ _ h1]
        exact h2
      obtain ⟨e2, he2⟩ : ∃ e2, (sortedHeap H (s.heap.objs.size + 1) xs.toList out).get? (s.heap.objs.size + 1) = some (seqObj "list" out e2) := by
        obtain ⟨e1, he1⟩ : ∃ e1, (H.update (s.heap.objs.size + 1) (Obj.mapSeq fun _ => #[])).get? (s.heap.objs.size + 1) = some (seqObj "list" #[] e1) := ⟨_, get?_update_seq hoL (fun _ => #[])⟩
        have he2 := Heap.get?_push_of_some (seqObj "list" #[] 0) (Heap.get?_push_of_some (seqObj "tuple" xs.toList.toArray 0) he1)
        exact ⟨_, get?_update_seq he2 fun _ => out⟩
      exact hQ _ _ ⟨fin, rfl, id⟩ (.list (hideAll_get W he2 al) rfl rfl rfl (ro.mono (hide_le_of fin)))
end
end Mine
end

section
open PySem PySem.W PySem.Calls PySem.Spec PyProof.Rows PyProof.Rows.LCg
set_option Elab.async false
set_option maxRecDepth 100000
set_option linter.unusedVariables false
namespace Mine

/-! ## what changes named objects alone -/
theorem rp_raw {h : Heap} {v : Value} {a : Addr} (x : Rp h v (rawD a)) : v = .ref a := by
  have key : ∀ d, Rp h v d → d = rawD a → v = .ref a := fun d y e => by
    cases y with
    | raw b =>
      injection e with e
      injection e with e _
      injection e with e _
      injection e with e
      have : b = a := Int.ofNat.inj e
      rw [this]
    | _ => cases e
  exact key _ x rfl

structure Chg (O : List Addr) (s s' : Shared) : Prop where
  heap : ∀ b o, b ∉ O → s.heap.get? b = some o → s'.heap.get? b = some o
  os : s'.os = s.os
  gens : AllBare s.gens → AllBare s'.gens
theorem Chg.rfl {O : List Addr} {s : Shared} : Chg O s s := ⟨fun _ _ _ e => e, Eq.refl _, id⟩
theorem Chg.trans {O : List Addr} {a b c : Shared} (x : Chg O a b) (y : Chg O b c) : Chg O a c := ⟨fun p o hp e => y.heap p o hp (x.heap p o hp e), y.os.trans x.os, fun g => y.gens (x.gens g)⟩
theorem Grow.chg {O : List Addr} {s s' : Shared} (g : Grow s s') : Chg O s s' := ⟨fun b o _ e => g.heap b o e, g.os, g.gens⟩
theorem Chg.mono {O O' : List Addr} {s s' : Shared} (x : Chg O s s') (h : ∀ a ∈ O, a ∈ O') : Chg O' s s' := ⟨fun b o hb e => x.heap b o (fun q => hb (h b q)) e, x.os, x.gens⟩
theorem Chg.of {O : List Addr} {s : Shared} {h' : Heap} {tk : Nat} (k : ∀ b o, b ∉ O → s.heap.get? b = some o → h'.get? b = some o) : Chg O s { s with heap := h', toks := tk } := ⟨k, Eq.refl _, id⟩
theorem Chg.same {O : List Addr} {s : Shared} {h' : Heap} {tk : Nat} {a : Addr} (ha : a ∈ O) (k : Heap.SameBut a s.heap h') : Chg O s { s with heap := h', toks := tk } := .of fun b o hb e => (k.2 b fun q => hb (q ▸ ha)).trans e
/-- a change of what was not there at the start -/
theorem Chg.own {O : List Addr} {s s' : Shared} {h' : Heap} {tk : Nat} {a : Addr} (x : Chg O s s') (ha : s.heap.get? a = none) (k : Heap.SameBut a s'.heap h') : Chg O s { s' with heap := h', toks := tk } :=
  ⟨fun b o hb e => (k.2 b fun q => by rw [q, ha] at e; cases e).trans (x.heap b o hb e), x.os, x.gens⟩
theorem Chg.view {O W : List Addr} {s s' : Shared} (x : Chg O s s') (h : ∀ a ∈ O, a ∈ W) : Le (hideAll s.heap W) (hideAll s'.heap W) := hide_mono (fun _ x => x) fun b o hb e => x.heap b o (fun q => hb (h b q)) e

/-- a frame that owns none of O -/
noncomputable def Off (O : List Addr) (hb : Heap) (W : List Addr) (env : Env) : Prop := ∀ a ∈ O, a ∈ W ∧ a ≠ env.locals ∧ (∀ y, env.cells.lookup y ≠ some a) ∧ hb.get? a = none
theorem Frm.chg {hb h h' : Heap} {env : Env} {W O : List Addr} {ρ : Ro} (F : Frm hb env W [] h ρ) (o : Off O hb W env) (k : ∀ b o, b ∉ O → h.get? b = some o → h'.get? b = some o) (e : ∀ a ∈ O, ∃ o, h'.get? a = some o) : Frm hb env W [] h' ρ :=
  F.others (fun a ha => let ⟨p, q, r, t⟩ := o a ha; ⟨p, q, r, (fun _ hm => nomatch hm), t⟩) k e

section
variable {prog : Program} {w : World} {A : Around} {W O : List Addr} {M : Mus} {hb h : Heap} {ρ : Ro} {env : Env} {K : Frag} {D U : Nat} {scope : Scope}
  {name qual : Str} {params : Arguments} {body : List Stmt} {dV kV doc pm cdv ct oc : Value} {an od : Option Addr} {osl : Array (Option Value)} {f : Addr}

/-- entering a def of the text, over a base that may be older than the state -/
theorem enter_cd (xs : List Str) {ds : List PyData} {vs args : List Value} {s : Shared} {Q E : Value → Shared → Prop} (C : Cx K A (D + 1) (U + 3) hb) (hle : Le hb s.heap) (hth : There W s.heap) (r : RpL (hideAll s.heap W) vs ds)
    (hO : ∀ a ∈ O, a ∈ W ∧ hb.get? a = none)
    (ho : K.lookup f = some ⟨oc, od, .func (fnX name qual params body scope [] dV kV doc pm an cdv ct), osl⟩) (hcd : codeIn K cdv qual = true)
    (hbind : K.In s.heap → BindsTo s (fnX name qual params body scope [] dV kV doc pm an cdv ct) ⟨args, []⟩ (xs.zip vs))
    (hlen : xs.length = ds.length)
    (hkind : (xs.all fun y => scope.names.lookup y == some .local || scope.names.lookup y == some .cell) = true)
    (hfree : (scope.names.all fun x => x.2 != .free) = true)
    (hnd : ((cellsFrom 0 scope.names []).map (·.1)).Nodup) (hnn : (scope.names.map (·.1)).Nodup)
    (h : ∀ (A' : Around) (L : Addr) (W' : List Addr) (s₁ : Shared) (E' : Value → Shared → Prop), Cx K A' D U hb → Frm hb (envOfC qual scope L f cdv) W' [] s₁.heap (bindR xs ds fun _ => none) → Off O hb W' (envOfC qual scope L f cdv) →
      Grow s s₁ → s.heap.get? L = none → (∀ a ∈ W, a ∈ W') → (∀ a ∈ W', a ∈ W ∨ s.heap.get? a = none) →
      wpAny (model prog w) A' (execs body (envOfC qual scope L f cdv)) (fun fl s' => Q (match fl with | .ret v => v | _ => .none) s') E' s₁)
    (hco : scope.isCoroutine = false := by rfl) (hgen : scope.isGenerator = false := by rfl) (hk : scope.kind = .function := by rfl) : codeAny (model prog w) A (.call (.ref f) ⟨args, []⟩) (Back Q E) s := by
  have hvl : vs.length = xs.length := by rw [r.length, hlen]
  have Xs := C.wl.X.keeps hle
  refine codeAny_call_function (by have := C.dp; (first | lia | omega)) (Xs _ _ ho) rfl hco hgen rfl (codeRec_of Xs hcd) (hbind Xs _ _ _ _ ?_)
  have hall : ((xs.zip vs).all fun y => scope.names.lookup y.1 == some .local || scope.names.lookup y.1 == some .cell) = true := by
    rw [List.all_eq_true] at hkind ⊢
    exact fun y hy => hkind y.1 (List.of_mem_zip hy).1
  refine wpAny_newFunctionEnv_cells hk (kindsX hall _) fun env' he s' x => ?_
  subst he
  refine ⟨(C.wl.mono hle).lim.keeps x.toInCall.keep, codeAny_func ?_⟩
  obtain ⟨h₁, tk, rfl, _⟩ := x.done
  have hk₁ : Le s.heap h₁ := x.toInCall.keep
  have hndL : ((cellsFrom (s.heap.objs.size + 1) scope.names []).map (·.1)).Nodup := cellsFrom_names scope.names 0 (s.heap.objs.size + 1) [] [] rfl ▸ hnd
  let cs := cellsFrom (s.heap.objs.size + 1) scope.names []
  have cellAt : ∀ n c, cs.lookup n = some c → h₁.IsCell c (bindC (envOfC qual scope s.heap.objs.size f cdv).kindOf (xs.zip vs) (fun _ => none) n) := x.cell
  have apart : cs.Pairwise fun x y => x.2 ≠ y.2 := x.apart
  have above : ∀ n c, (n, c) ∈ cs → s.heap.objs.size < c := x.above
  let W' : List Addr := s.heap.objs.size :: (cs.map (·.2) ++ W)
  have fresh : ∀ a, s.heap.objs.size ≤ a → s.heap.get? a = none := fun a ha => by
    cases e : s.heap.get? a with
    | none => rfl
    | some o => exact absurd (Heap.lt_size e) (Nat.not_lt.mpr ha)
  have none_of : ∀ a, s.heap.get? a = none → hb.get? a = none := fun a e => by
    cases q : hb.get? a with
    | none => rfl
    | some o => rw [hle a o q] at e; cases e
  have hW' : ∀ a ∈ W', a ∈ W ∨ s.heap.get? a = none := fun a hm => by
    rcases List.mem_cons.mp hm with rfl | hm
    · exact .inr (fresh _ (Nat.le_refl _))
    · rcases List.mem_append.mp hm with hm | hm
      · obtain ⟨⟨x, c⟩, hp, rfl⟩ := List.mem_map.mp hm
        exact .inr (fresh _ (Nat.le_of_lt (above x c hp)))
      · exact .inl hm
  have inW : ∀ a ∈ W, a ∈ W' := fun a ha => List.mem_cons_of_mem _ (List.mem_append_right _ ha)
  have view : Le (hideAll s.heap W) (hideAll h₁ W') := hide_new hW' fun b o _ e => hk₁ b o e
  have r₁ : RpL (hideAll h₁ W') vs ds := r.mono view
  have kinds : ∀ x, (envOfC qual scope s.heap.objs.size f cdv).kindOf x = scope.names.lookup x := fun x => rfl
  have hns : h₁.Ns s.heap.objs.size (bindL (envOfC qual scope s.heap.objs.size f cdv).kindOf (xs.zip vs) fun _ => none) := x.toInCall.ns
  have F : Frm hb (envOfC qual scope s.heap.objs.size f cdv) W' [] h₁ (bindR xs ds fun _ => none) := by
    refine ⟨hk, rfl, rfl, hle.trans hk₁, ⟨_, hns, ?_, (fun _ _ _ hm => nomatch hm)⟩, fun x c e => ?_, (fun _ _ _ hm => nomatch hm), List.mem_cons_self .., fun x c e => ?_, none_of _ (fresh _ (Nat.le_refl _)), fun x hx => ?_, fun a ha => ?_⟩
    · exact bindL_rp xs r₁ fun x d _ hr => by cases hr
    · refine ⟨_, cellAt x c e, fun d hr => ?_⟩
      refine bindC_rp xs r₁ (fun x d _ hr => by cases hr) x d ?_ hr
      rw [kinds, lookup_of_nodup hnn (cellsFrom_mem _ _ (mem_of_lookup e))]
      simp
    · have hm : (x, c) ∈ cs := mem_of_lookup e
      refine ⟨List.mem_cons_of_mem _ (List.mem_append_left _ (List.mem_map.mpr ⟨_, hm, rfl⟩)), Nat.ne_of_gt (above x c hm), none_of _ (fresh _ (Nat.le_of_lt (above x c hm))), fun y ey => name_of_addr apart (mem_of_lookup ey) hm, ?_⟩
      rw [kinds, lookup_of_nodup hnn (cellsFrom_mem _ _ hm)]
      simp
    · rw [kinds] at hx
      rcases hx with hx | hx
      · obtain ⟨c, hc⟩ := cellsFrom_has scope.names (s.heap.objs.size + 1) x (mem_of_lookup hx)
        show (cs.lookup x).isSome = true
        rw [lookup_of_mem_nodup hndL hc]; rfl
      · have := List.all_eq_true.mp hfree _ (mem_of_lookup hx)
        simp at this
    · rcases List.mem_cons.mp ha with rfl | ha
      · obtain ⟨o, _, _, e, _⟩ := hns; exact ⟨o, e⟩
      · rcases List.mem_append.mp ha with ha | ha
        · obtain ⟨⟨x, c⟩, hp, rfl⟩ := List.mem_map.mp ha
          obtain ⟨o, e, _⟩ := cellAt x c (lookup_of_mem_nodup hndL hp)
          exact ⟨o, e⟩
        · obtain ⟨o, e⟩ := hth a ha; exact ⟨o, hk₁ _ _ e⟩
  have off : Off O hb W' (envOfC qual scope s.heap.objs.size f cdv) := fun a ha => by
    obtain ⟨aW, ab⟩ := hO a ha
    obtain ⟨oa, ea⟩ := hth a aW
    have hlt := ltA ea
    refine ⟨inW a aW, Nat.ne_of_lt hlt, fun y e => ?_, ab⟩
    have := above y a (mem_of_lookup e)
    (first | lia | omega)
  refine h (A.deeper _) _ W' _ _ ⟨C.wl, C.hh, ?_, ?_⟩ F off ⟨hk₁, rfl, id⟩ (fresh _ (Nat.le_refl _)) inW hW'
  · have := C.dp; show A.depth + 1 + D < recursionLimit; (first | lia | omega)
  · have := C.un; show A.units + 3 + U < cLine; (first | lia | omega)
theorem enter_def (xs : List Str) {ds : List PyData} {vs args : List Value} {s : Shared} {Q E : Value → Shared → Prop} (C : Cx K A (D + 1) (U + 3) hb) (hle : Le hb s.heap) (hth : There W s.heap) (r : RpL (hideAll s.heap W) vs ds)
    (hO : ∀ a ∈ O, a ∈ W ∧ hb.get? a = none)
    (ho : K.lookup f = some ⟨oc, od, .func (fnX name qual params body scope [] dV kV doc pm an cdv ct), osl⟩) (hcd : codeIn K cdv qual = true)
    (hbind : K.In s.heap → BindsTo s (fnX name qual params body scope [] dV kV doc pm an cdv ct) ⟨args, []⟩ (xs.zip vs))
    (hlen : xs.length = ds.length)
    (hkind : (xs.all fun y => scope.names.lookup y == some .local || scope.names.lookup y == some .cell) = true)
    (hfree : (scope.names.all fun x => x.2 != .free) = true)
    (hnd : ((cellsFrom 0 scope.names []).map (·.1)).Nodup) (hnn : (scope.names.map (·.1)).Nodup)
    (h : ∀ (A' : Around) (L : Addr) (W' : List Addr) (s₁ : Shared) (E' : Value → Shared → Prop), Cx K A' D U hb → Frm hb (envOfC qual scope L f cdv) W' [] s₁.heap (bindR xs ds fun _ => none) → Off O hb W' (envOfC qual scope L f cdv) →
      Grow s s₁ → s.heap.get? L = none → (∀ a ∈ W, a ∈ W') → (∀ a ∈ W', a ∈ W ∨ s.heap.get? a = none) →
      wpAny (model prog w) A' (execs body (envOfC qual scope L f cdv)) (fun fl s' => Q (match fl with | .ret v => v | _ => .none) s') E' s₁)
    (hco : scope.isCoroutine = false := by rfl) (hgen : scope.isGenerator = false := by rfl) (hk : scope.kind = .function := by rfl) : wpAny (model prog w) A (PySem.call (.ref f) args) Q E s :=
  wpAny_call (enter_cd xs C hle hth r hO ho hcd hbind hlen hkind hfree hnd hnn h hco hgen hk)

/-- a local name, the state as it stands -/
theorem nm_loc {x : Str} {pos : Pos} {d : PyData} {s : Shared} {Q E : Value → Shared → Prop} (F : Frm hb env W M s.heap ρ) (hr : ρ x = some d) (q : ∀ v, Rp (hideAll s.heap W) v d → Q v s) (hx : env.kindOf x = some .local := by kernel_rfl) (hd : (x == ("__debug__" : Str)) = false := by kernel_rfl) :
    wpAny (model prog w) A (eval (.Name x pos) env) Q E s := by
  obtain ⟨m, a, b, _⟩ := F.ns
  obtain ⟨v, e, r⟩ := b x d hx hr
  exact wpAny_Name (wpAny_loadName_local F.fn hx a e (q v r)) hd
theorem nm_raw {x : Str} {pos : Pos} {a : Addr} {s : Shared} {Q E : Value → Shared → Prop} (F : Frm hb env W M s.heap ρ) (hr : ρ x = some (rawD a)) (q : Q (.ref a) s) (hx : env.kindOf x = some .local := by kernel_rfl) (hd : (x == ("__debug__" : Str)) = false := by kernel_rfl) :
    wpAny (model prog w) A (eval (.Name x pos) env) Q E s := nm_loc F hr (fun v r => by rw [rp_raw r]; exact q) hx hd

/-- a name of the frame is stored: what the caller holds stays -/
theorem st_set {x : Str} {v : Value} {d : PyData} {s₀ s : Shared} {Q : Unit → Shared → Prop} {E : Value → Shared → Prop} (F : Frm hb env W [] s.heap ρ) (c : Chg O s₀ s) (hL : s₀.heap.get? env.locals = none) (r : Rp (hideAll s.heap W) v d)
    (k : ∀ h' tk, Frm hb env W [] h' (upd ρ x d) → Chg O s₀ { s with heap := h', toks := tk } → Heap.SameBut env.locals s.heap h' → Q () { s with heap := h', toks := tk }) (hx : env.kindOf x = some .local := by kernel_rfl) :
    wpAny (model prog w) A (storeName env x v) Q E s := by
  obtain ⟨m, hn, _⟩ := F.ns
  exact wpAny_storeName_local hx hn (fun h' hn' sb => k h' _ (F.setL (fun _ h => nomatch h) sb hn hn' r hx) (c.own hL sb) sb) (by rw [F.fn]; rfl)
end
end Mine
end

section
open PySem PySem.W PySem.Calls PySem.Spec PyProof.Rows PyProof.Rows.LCg
set_option Elab.async false
set_option maxRecDepth 100000
set_option maxHeartbeats 2000000
set_option linter.unusedVariables false
namespace Mine
theorem fillite2 : (fun (_ : Params → Frag) => True) hd.heap_39 ∧ PySem.Challenge.rw_xp0030_01.prog = PySem.Challenge.rw_xp0030_01.prog := by
  k_fill
  exact ⟨trivial, rfl⟩
/-! ## super() of the accumulator, and list's own methods through it -/
noncomputable abbrev boundM (id : String) (x : Addr) : Obj := { cls := .type "builtin_function_or_method", data := .fields #[.builtin id, .ref x] }
noncomputable abbrev boundW (id : String) (x : Addr) : Obj := { cls := .type "method-wrapper", data := .fields #[.builtin id, .ref x] }
theorem slot_md_get : Slot "method_descriptor" "__get__" "method_descriptor.__get__" :=
  .of (owner := "method_descriptor") (n := "__get__") (by rw [typeLookup_type, builtinLookup_eq_fast]; kernel_rfl) (by decide +kernel) (by decide +kernel) (by decide +kernel)
    (by first | exact .inl (by decide +kernel) | exact .inr (by decide +kernel)) (by rw [isSubtype_type]; kernel_rfl)
theorem entry_md_get : entryFor table "method_descriptor.__get__" = some Builtin.«method_descriptor.__get__» := entryFor_of_tree (by kernel_rfl)
theorem args_md_get (a b c : Value) : argsOk "method_descriptor.__get__" ⟨[a, b, c], []⟩ := by unfold argsOk; kernel_rfl
theorem ty_pop : typeOf (.builtin "list.pop") = pure (.type "method_descriptor") := by show builtinType _ = _; rw [builtinType_eq_fast]; kernel_rfl
theorem ty_len : typeOf (.builtin "list.__len__") = pure (.type "wrapper_descriptor") := by show builtinType _ = _; rw [builtinType_eq_fast]; kernel_rfl
theorem ty_init : typeOf (.builtin "list.__init__") = pure (.type "wrapper_descriptor") := by show builtinType _ = _; rw [builtinType_eq_fast]; kernel_rfl
theorem owner_pop : (".".intercalate ("list.pop".cutAt '.').dropLast) = "list" := by
  have e0 : "list.pop".cutAt '.' = ["list", "pop"] := by first | rfl | decide +kernel
  rw [e0]; decide +kernel
theorem owner_len : (".".intercalate ("list.__len__".cutAt '.').dropLast) = "list" := by
  have e0 : "list.__len__".cutAt '.' = ["list", "__len__"] := by first | rfl | decide +kernel
  rw [e0]; decide +kernel
theorem owner_init : (".".intercalate ("list.__init__".cutAt '.').dropLast) = "list" := by
  have e0 : "list.__init__".cutAt '.' = ["list", "__init__"] := by first | rfl | decide +kernel
  rw [e0]; decide +kernel
section
variable {prog : Program} {w : World} {A : Around} {E : Value → Shared → Prop} {h : Heap} {g : Array GenState} {d : Drawn} {t : Nat} {os : OsState} {x dx : Addr} {vs : Array Value} {n : Nat}

theorem wd_len {R : Result → Shared → Prop} (X : (hd.heap_39 w.params).In h) (hx : h.get? x = some (accObj dx vs n)) (hq : R (.ok (.ret (.ref h.objs.size))) ⟨h.push (boundW "list.__len__" x), g, d, t, os⟩) :
    codeAny (model prog w) A (.call (.builtin "wrapper_descriptor.__get__") ⟨[.builtin "list.__len__", .ref x, .ref 185], []⟩) R ⟨h, g, d, t, os⟩ := by
  have hT5 : (⟨h, g, d, t, os⟩ : Shared).TypeIs (.builtin "list.__len__") "wrapper_descriptor" := ty_len
  have hI : Looks (model prog w) h (isInstance (.ref x) (.type (".".intercalate ("list.__len__".cutAt '.').dropLast))) true := by rw [owner_len]; exact acc_is X hx
  refine codeAny_call_builtin slot_wd_get.plain entry_wd_get (slot_wd_get.check _ _ _ _ _ _ _ _ hT5 (args_wd_get _ _ _) ?_)
  repeat (any_goals (first | assumption | with_reducible refine Looks.at (by assumption) ?_ | wp_step))
theorem wd_init {R : Result → Shared → Prop} (X : (hd.heap_39 w.params).In h) (hx : h.get? x = some (accObj dx vs n)) (hq : R (.ok (.ret (.ref h.objs.size))) ⟨h.push (boundW "list.__init__" x), g, d, t, os⟩) :
    codeAny (model prog w) A (.call (.builtin "wrapper_descriptor.__get__") ⟨[.builtin "list.__init__", .ref x, .ref 185], []⟩) R ⟨h, g, d, t, os⟩ := by
  have hT5 : (⟨h, g, d, t, os⟩ : Shared).TypeIs (.builtin "list.__init__") "wrapper_descriptor" := ty_init
  have hI : Looks (model prog w) h (isInstance (.ref x) (.type (".".intercalate ("list.__init__".cutAt '.').dropLast))) true := by rw [owner_init]; exact acc_is X hx
  refine codeAny_call_builtin slot_wd_get.plain entry_wd_get (slot_wd_get.check _ _ _ _ _ _ _ _ hT5 (args_wd_get _ _ _) ?_)
  repeat (any_goals (first | assumption | with_reducible refine Looks.at (by assumption) ?_ | wp_step))
theorem md_pop {R : Result → Shared → Prop} (X : (hd.heap_39 w.params).In h) (hx : h.get? x = some (accObj dx vs n)) (hq : R (.ok (.ret (.ref h.objs.size))) ⟨h.push (boundM "list.pop" x), g, d, t, os⟩) :
    codeAny (model prog w) A (.call (.builtin "method_descriptor.__get__") ⟨[.builtin "list.pop", .ref x, .ref 185], []⟩) R ⟨h, g, d, t, os⟩ := by
  have hT5 : (⟨h, g, d, t, os⟩ : Shared).TypeIs (.builtin "list.pop") "method_descriptor" := ty_pop
  have hI : Looks (model prog w) h (isInstance (.ref x) (.type (".".intercalate ("list.pop".cutAt '.').dropLast))) true := by rw [owner_pop]; exact acc_is X hx
  refine codeAny_call_builtin slot_md_get.plain entry_md_get (slot_md_get.check _ _ _ _ _ _ _ _ hT5 (args_md_get _ _ _) ?_)
  have hC := X 185 _ (by k_is)
  repeat (any_goals (first | assumption | with_reducible refine Looks.at (by assumption) ?_ | (with_reducible refine ks_wpAny_isType_cls hC rfl ?_) | wp_step))
end
end Mine
end

section
open PySem PySem.W PySem.Calls PySem.Spec PyProof.Rows PyProof.Rows.LCg
set_option Elab.async false
set_option maxRecDepth 100000
set_option maxHeartbeats 2000000
set_option linter.unusedVariables false
namespace Mine
theorem fillite3 : (fun (_ : Params → Frag) => True) hd.heap_39 ∧ PySem.Challenge.rw_xp0030_01.prog = PySem.Challenge.rw_xp0030_01.prog := by
  k_fill
  exact ⟨trivial, rfl⟩
theorem md_get_lk : typeLookup (.type "method_descriptor") "__get__" = pure (some (.builtin "method_descriptor.__get__")) := slot_md_get.lookup
theorem wd_get_lk : typeLookup (.type "wrapper_descriptor") "__get__" = pure (some (.builtin "wrapper_descriptor.__get__")) := slot_wd_get.lookup
section
variable {prog : Program} {w : World} {A : Around} {E : Value → Shared → Prop} {h : Heap} {g : Array GenState} {d : Drawn} {t : Nat} {os : OsState} {x dx so : Addr} {vs : Array Value} {n : Nat}

theorem sup_ga {name : Str} {tk : Tok} {id T gid : String} {Q : Fin → Shared → Prop} (X : (hd.heap_39 w.params).In h) (hx : h.get? x = some (accObj dx vs n)) (hso : h.get? so = some (ks_superObj 185 x 185))
    (hf : alongIn (hd.heap_39 w.params) name [.type "list", .type "object"] = some (some (.builtin id))) (hty : typeOf (.builtin id) = pure (.type T)) (hlk : typeLookup (.type T) "__get__" = pure (some (.builtin gid))) (hn : (name == ("__class__" : Str)) = false)
    {b : Obj} (hc : ∀ A R, R (.ok (.ret (.ref h.objs.size))) ⟨h.push b, g, d, t, os⟩ → codeAny (model prog w) A (.call (.builtin gid) ⟨[.builtin id, .ref x, .ref 185], []⟩) R ⟨h, g, d, t, os⟩)
    (hq : Q (.done (.ret (.ref h.objs.size))) ⟨h.push b, g, d, t, os⟩) :
    wpAny (model prog w) A (Builtin.«super.__getattribute__» ⟨[.ref so, .str name tk], []⟩) Q E ⟨h, g, d, t, os⟩ := by
  have hno : Looks (model prog w) h (opaqueClassAbove (.ref 185)) none := looks_opaque X (by k_is)
  have hM : Looks (model prog w) h (mroOf (.ref 185)) [.ref 185, .type "list", .type "object"] := ((looks_clsIn X (by k_is)).andThen .now)
  have hC := X 185 _ (by k_is)
  have hne : (Value.ref x == Value.ref 185) = false := by
    have : x ≠ 185 := fun q => by rw [q] at hx; rw [hx] at hC; cases hC
    simp [this]
  have hdt : (ks_superObj 185 x 185).data = .fields #[.ref 185, .ref x, .ref 185] := rfl
  have f0 : (#[.ref 185, .ref x, .ref 185] : Array Value)[0]? = some (.ref 185) := rfl
  have f1 : (#[.ref 185, .ref x, .ref 185] : Array Value)[1]? = some (.ref x) := rfl
  have f2 : (#[.ref 185, .ref x, .ref 185] : Array Value)[2]? = some (.ref 185) := rfl
  have hl : (([.ref 185, .type "list", .type "object"] : List Value).dropWhile (· != .ref 185)).drop 1 = [.type "list", .type "object"] := by decide +kernel
  unfold Builtin.«super.__getattribute__»
  repeat (first
    | (with_reducible refine wpAny_field hso hdt f0 ?_) | (with_reducible refine wpAny_field hso hdt f1 ?_) | (with_reducible refine wpAny_field hso hdt f2 ?_)
    | (with_reducible refine ks_wpAny_notOpaque hno ?_)
    | (with_reducible refine Looks.at hM ?_; rw [hl])
    | (refine ks_forIn_along X (fun _ _ => rfl) rfl ?_ hf)
    | (with_reducible refine wpAny_of_eq hty ?_)
    | (with_reducible refine wpAny_of_eq hlk ?_)
    | (simp only [hn, hne, Bool.or_false, Bool.false_eq_true, if_false])
    | wp_step
    | dsimp only)
  exact hc _ _ (wpAny_pure (wpAny_pure hq))
theorem sup_method {name : Str} {id T gid : String} {pl : Sem Bool} {Q : Value × List Value → Shared → Prop} (X : (hd.heap_39 w.params).In h) (hx : h.get? x = some (accObj dx vs n)) (hso : h.get? so = some (ks_superObj 185 x 185))
    (hf : alongIn (hd.heap_39 w.params) name [.type "list", .type "object"] = some (some (.builtin id))) (hty : typeOf (.builtin id) = pure (.type T)) (hlk : typeLookup (.type T) "__get__" = pure (some (.builtin gid))) (hn : (name == ("__class__" : Str)) = false)
    {b : Obj} (hc : ∀ A t R, R (.ok (.ret (.ref h.objs.size))) ⟨h.push b, g, d, t, os⟩ → codeAny (model prog w) A (.call (.builtin gid) ⟨[.builtin id, .ref x, .ref 185], []⟩) R ⟨h, g, d, t, os⟩)
    (hq : Q (.ref h.objs.size, []) ⟨h.push b, g, d, t + 1, os⟩) : wpAny (model prog w) A (getMethod (.ref so) name pl) Q E ⟨h, g, d, t, os⟩ := by
  have hlk' := PySem.F.ks_slot_super_ga.lookup
  have hcan := PySem.F.ks_canon_super_ga
  have hT : ∀ t', (⟨h, g, d, t', os⟩ : Shared).TypeIs (.ref so) "super" := fun _ => ⟨_, hso, rfl⟩
  unfold getMethod
  refine wpAny_bind (wpAny_specialOf (hT _) hlk' ?_)
  show wpAny _ _ (if (Manifest.canonical "super.__getattribute__" != "object.__getattribute__") = true then _ else _) _ _ _
  rw [if_pos hcan]
  unfold getAttr getAttrBy
  refine wpAny_bind (wpAny_bind (wpAny_mkText (wpAny_holding (wpAny_bind (wpAny_typeOf (hT _) (wpAny_bind (wpAny_of_eq hlk' ?_)))))))
  show wpAny _ _ (getAttrByItsOwn (.ref so) (.str name t) (.type "super") (.builtin "super.__getattribute__") true false) _ _ _
  unfold getAttrByItsOwn hookBefore callGetattribute boundAndCalled
  refine wpAny_bind (wpAny_of_eq (show (if onTheHeap (.type "super") then typeLookup (.type "super") "__getattr__" else pure none) = pure none from rfl) ?_)
  refine wpAny_bind (wpAny_attempt (wpAny_holding ?_))
  show wpAny _ _ (bindSpecial (.builtin "super.__getattribute__") (.ref so) >>= _) _ _ _
  refine wpAny_bind (wpAny_of_eq (PySem.F.ks_slot_super_ga.bind _) ?_)
  refine wpAny_mono (Q := fun v s' => v = .ref h.objs.size ∧ s' = ⟨h.push b, g, d, t + 1, os⟩) (E := fun _ _ => False)
    (wpAny_call_entry PySem.F.ks_slot_super_ga (hT _) PySem.F.ks_entry_super_ga (sup_ga X hx hso hf hty hlk hn (fun A R => hc A (t + 1) R) ⟨_, rfl, rfl, rfl⟩) (PySem.F.ks_gaArgs_super _ _)) (fun v s' hv => ?_) fun _ _ z => z.elim
  obtain ⟨rfl, rfl⟩ := hv
  exact wpAny_pure (wpAny_pure hq)

/-- a bound built-in method is called without arguments -/
theorem keeps_b {M : Model} {u : Addr} {b : Obj} (hb : (b.cls = .type "builtin_function_or_method" ∨ b.cls = .type "method-wrapper") ∧ ∃ vs, b.data = .fields vs) (h : Heap) (e : h.get? u = some b) :
    ∃ k, (k = Keeper.frame ∨ k = Keeper.machine ∨ k = Keeper.boundFrame) ∧ Looks M h (keeperOf (.ref u)) k := by
  obtain ⟨hc, vs, hd⟩ := hb
  refine ⟨.machine, .inr (.inl rfl), (Looks.ld (part := none) e).andThen ?_⟩
  rw [hd]
  dsimp only
  rcases hc with hc | hc <;> rw [hc] <;> exact .now
theorem callWith_b0 {pos : Pos} {env : Env} {u : Addr} {b : Obj} {s : Shared} {Q : Value → Shared → Prop} (hb : (b.cls = .type "builtin_function_or_method" ∨ b.cls = .type "method-wrapper") ∧ ∃ vs, b.data = .fields vs) (e : s.heap.get? u = some b)
    (h : wpAny (model prog w) A (PySem.call (.ref u) []) Q E s) : wpAny (model prog w) A (callWith pos (.ref u) [] (backTo pos (starEach [] env)) []) Q E s :=
  callWith_of (P := fun h => h.get? u = some b) rfl (keeps_b hb) (evalArgs_nil3 ⟨e, h⟩)
theorem isT_x (hx : h.get? x = some (accObj dx vs n)) {Q : Bool → Shared → Prop} (hq : Q false ⟨h, g, d, t, os⟩) : wpAny (model prog w) A (isType (.ref x)) Q E ⟨h, g, d, t, os⟩ :=
  ks_wpAny_isType_inst hx (fun c q => by cases q) hq
theorem call_bound {u : Addr} {T id : String} {B : Builtin} {b : Obj} {Q : Value → Shared → Prop} (hT : T = "builtin_function_or_method" ∨ T = "method-wrapper") (hb : b = { cls := .type T, data := .fields #[.builtin id, .ref x] }) (hu : h.get? u = some b)
    (hp : plainId id = true) (he : entryFor table id = some B)
    (hc : ∀ (A : Around) (Q : Unit → Shared → Prop) (E : Value → Shared → Prop), Q () ⟨h, g, d, t, os⟩ → wpAny (model prog w) A (checkBoundCall id ⟨[.ref x], []⟩) Q E ⟨h, g, d, t, os⟩)
    (hq : wpAny (model prog w) A.in1 (B ⟨[.ref x], []⟩) (fun fin s' => match fin with | .done f => Back Q E (.ok f) s' | .again c' => c'.quiet = true ∧ codeAny (model prog w) A c' (Back Q E) s') (fun e s' => Back Q E (.error e) s') ⟨h, g, d, t, os⟩) :
    wpAny (model prog w) A (PySem.call (.ref u) []) Q E ⟨h, g, d, t, os⟩ := by
  subst hb
  refine wpAny_call (codeAny_of_tree ?_)
  show wpAny _ A.in1 (callAny (.ref u) ⟨[], []⟩) _ _ _
  unfold callAny
  refine wpAny_bind (wpAny_load hu ?_)
  dsimp only
  have body : wpAny (model prog w) A.in1 (do checkBoundCall id ⟨[.ref x], []⟩; again (.builtin id ⟨[.ref x], []⟩)) (fun fin s' => match fin with | .done f => Back Q E (.ok f) s' | .again c' => c'.quiet = true ∧ codeAny (model prog w) A c' (Back Q E) s') (fun e s' => Back Q E (.error e) s') ⟨h, g, d, t, os⟩ := by
    refine wpAny_bind (hc _ _ _ (wpAny_pure ⟨plainId_quiet hp _, codeAny_builtin he ?_⟩))
    rw [Around.under_plainId hp _]
    exact hq
  rcases hT with rfl | rfl
  · exact body
  · exact body
end
end Mine
end

section
open PySem PySem.W PySem.Calls PySem.Spec PyProof.Rows PyProof.Rows.LCg
set_option Elab.async false
set_option maxRecDepth 100000
set_option maxHeartbeats 2000000
set_option linter.unusedVariables false
namespace Mine
theorem fillite4 : (fun (_ : Params → Frag) => True) hd.heap_39 ∧ PySem.Challenge.rw_xp0030_01.prog = PySem.Challenge.rw_xp0030_01.prog := by
  k_fill
  exact ⟨trivial, rfl⟩
theorem kind_len : builtinKind "list.__len__" = some .slot := by decide +kernel
theorem kind_init : builtinKind "list.__init__" = some .slot := by decide +kernel
theorem kind_pop : builtinKind "list.pop" = some .method := by decide +kernel
theorem entry_init : entryFor table "list.__init__" = some Builtin.«list.__init__» := entryFor_of_tree (by kernel_rfl)
theorem args_init (a : Value) : argsOk "list.__init__" ⟨[a], []⟩ := by unfold argsOk; kernel_rfl
section
variable {prog : Program} {w : World} {A : Around} {E : Value → Shared → Prop} {h : Heap} {g : Array GenState} {d : Drawn} {t : Nat} {os : OsState} {x dx so : Addr} {vs : Array Value} {n : Nat}

theorem bound_slot {M : Model} {s : Shared} {id : String} {self : Value} {Q : Unit → Shared → Prop} (hk : builtinKind id = some .slot) (ha : argsOk id ⟨[self], []⟩) (q : Q () s) : wpAny M A (checkBoundCall id ⟨[self], []⟩) Q E s := by
  unfold checkBoundCall
  unfold argsOk at ha
  cases hsig : Manifest.signature? id with
  | none => exact wpAny_pure q
  | some sig =>
    simp only [hsig] at ha
    have h2 : Bind.checkArgs id sig ⟨[self], []⟩ = pure () := ha
    simp only [hk]
    show wpAny M A (Bind.checkArgs id sig ⟨[self], []⟩) Q E s
    rw [h2]; exact wpAny_pure q
theorem bound_pop (X : (hd.heap_39 w.params).In h) (hx : h.get? x = some (accObj dx vs n)) {Q : Unit → Shared → Prop} (q : Q () ⟨h, g, d, t, os⟩) : wpAny (model prog w) A (checkBoundCall "list.pop" ⟨[.ref x], []⟩) Q E ⟨h, g, d, t, os⟩ := by
  have hT : Looks (model prog w) h (typeOf (.ref x)) (.ref 185) := (Looks.ld hx).andThen .now
  have hI : Looks (model prog w) h (isInstance (.ref x) (.type "module")) false := hT.andThen (looks_subIn X (by k_is))
  have hC := X 185 _ (by k_is)
  have hT2 : Looks (model prog w) h (typeOf (.ref 185)) (.type "type") := (Looks.ld hC).andThen .now
  unfold checkBoundCall
  repeat (any_goals (first | assumption | with_reducible refine Looks.at (by assumption) ?_ | (with_reducible refine isT_x hx ?_) | wp_step))
/-- the calls of what super() has found -/
theorem sup_len {u : Addr} {Q : Value → Shared → Prop} (X : (hd.heap_39 w.params).In h) (hu : h.get? u = some (boundW "list.__len__" x)) (hx : h.get? x = some (accObj dx vs n)) (hz : vs.size ≤ 1000) (hq : Q (.int vs.size t) ⟨h, g, d, t + 1, os⟩) :
    wpAny (model prog w) A (PySem.call (.ref u) []) Q E ⟨h, g, d, t, os⟩ := by
  refine call_bound (.inr rfl) rfl hu (by decide +kernel) entry_list_len (fun _ _ _ q => bound_slot kind_len (args_list_len _) q) ?_
  repeat (any_goals (first | assumption | with_reducible refine Looks.at (by assumption) ?_ | with_reducible refine wpAny_onRaise ?_ | wp_step))
theorem sup_init {u : Addr} {Q : Value → Shared → Prop} (X : (hd.heap_39 w.params).In h) (hu : h.get? u = some (boundW "list.__init__" x)) (hx : h.get? x = some (accObj dx #[] n))
    (hq : ∀ h' n', h'.get? x = some (accObj dx #[] n') → Heap.SameBut x h h' → Q .none ⟨h', g, d, t, os⟩) :
    wpAny (model prog w) A (PySem.call (.ref u) []) Q E ⟨h, g, d, t, os⟩ := by
  refine call_bound (.inr rfl) rfl hu (by decide +kernel) entry_init (fun _ _ _ q => bound_slot kind_init (args_init _) q) ?_
  unfold Builtin.«list.__init__»
  dsimp only
  refine wpAny_bind (m := Builtin.List.listItems (.ref x)) (listItems_at hx rfl ?_)
  refine wpAny_bind (listUpdate_at hx rfl ?_ (Nat.zero_le _) (Nat.zero_le _))
  obtain ⟨n', e⟩ := acc_upd (fun _ => #[]) hx
  refine wpAny_bind (wpAny_letGo (wpAny_pure (hq _ n' e (Heap.SameBut.update ..))))
theorem sup_pop {u : Addr} {v : Value} {Q : Value → Shared → Prop} (X : (hd.heap_39 w.params).In h) (hu : h.get? u = some (boundM "list.pop" x)) (hx : h.get? x = some (accObj dx (vs.push v) n)) (hz : vs.size ≤ 1000)
    (hq : ∀ h' n', h'.get? x = some (accObj dx vs n') → Heap.SameBut x h h' → Q v ⟨h', g, d, t, os⟩) :
    wpAny (model prog w) A (PySem.call (.ref u) []) Q E ⟨h, g, d, t, os⟩ := by
  refine call_bound (.inl rfl) rfl hu (by decide +kernel) PySem.F.entry_list_pop (fun _ _ _ q => bound_pop X hx q) ?_
  have e1 : (vs.push v).isEmpty = false := by simp
  have e2 : (seqIndex? (-1) (vs.push v).size).bind (fun k => ((vs.push v)[k]?).map fun y => (k, y)) = some (vs.size, v) := by
    have : seqIndex? (-1) (vs.push v).size = some vs.size := by
      unfold seqIndex?
      simp
      (first | lia | omega)
    rw [this]; simp
  repeat (any_goals (first | assumption | with_reducible refine Looks.at (by assumption) ?_ | with_reducible refine wpAny_onRaise ?_ | wp_step))
  rw [e2]
  dsimp only
  refine wpAny_bind ?_
  show wpAny _ _ (updateSeq x (fun y => y.eraseIdxIfInBounds vs.size)) _ _ _
  refine wpAny_updateSeq (s := ⟨h, g, d, t, os⟩) hx rfl ?_ (by rw [Array.size_push, sizeLine_eq]; (first | lia | omega)) (by rw [erase_last, sizeLine_eq]; (first | lia | omega))
  obtain ⟨n', e⟩ := acc_upd (fun y => y.eraseIdxIfInBounds vs.size) hx
  rw [erase_last] at e
  exact wpAny_pure (hq _ n' e (Heap.SameBut.update ..))
end

/-- what super() asks of the program -/
structure Pr (prog : Program) : Prop where
  file : ((prog.main.file : Str) == ("/claim/cut.py" : Str)) = true
  top : (prog.main.scope.names.lookup ("super" : Str)).isSome = false
theorem pr_row : Pr PySem.Challenge.rw_xp0030_01.prog := ⟨by decide +kernel, by decide +kernel⟩

section
variable {prog : Program} {w : World} {A : Around} {E : Value → Shared → Prop} {x dx : Addr} {vs : Array Value} {n : Nat}
theorem sup_call {body : List Stmt} {q : Str} {scope : Scope} {p0 p1 ap pos : Pos} {name : Str} {fd : FuncData} {f cda L : Addr} {ar : Arg} {ws : Array Value} {tf : Tok} {oc ccl : Value} {od cdd : Option Addr} {osl ccs : Array (Option Value)} {m : Str → Option Value} {pl : Sem Bool} {s : Shared} {Q : Value → Shared → Prop}
    (P : Pr prog) (X : Wl (hd.heap_39 w.params) s.heap) (hn : s.heap.Ns L m) (hx : s.heap.get? x = some (accObj dx vs n))
    (hf : (hd.heap_39 w.params).lookup f = some ⟨oc, od, .func fd, osl⟩) (hp : (fd.params.posonlyargs ++ fd.params.args).head? = some ar) (hv : m ar.arg = some (.ref x))
    (hcode : (hd.heap_39 w.params).lookup cda = some ⟨ccl, cdd, .fields ws, ccs⟩) (hws : ws[2]? = some (.str "/claim/cut.py" tf))
    (hat : (name == ("__class__" : Str)) = false) (hks : scope.names.lookup ("super" : Str) = some .globalImplicit) (hkc : scope.names.lookup ("__class__" : Str) = some .free) (hka : scope.names.lookup ar.arg = some .local) (hk : scope.kind = .function)
    (h : ∀ so h', Le s.heap h' → h'.get? so = some (ks_superObj 185 x 185) → wpAny (model prog w) A (getMethod (.ref so) name pl) (fun fx s₂ => wpAny (model prog w) A (callWith pos fx.1 fx.2 (backTo pos (starEach [] (ksEnv q scope L f (.ref cda) 109))) []) Q E s₂) E { s with heap := h' })
    (he : eval (.Call (.Attribute (.Call (.Name "super" p0) [] [] p1) name ap) [] [] pos) (ksEnv q scope L f (.ref cda) 109) = (do
      let ov ← attributeBase (.Call (.Name "super" p0) [] [] p1) name (ksEnv q scope L f (.ref cda) 109) (eval (.Call (.Name "super" p0) [] [] p1) (ksEnv q scope L f (.ref cda) 109))
      standAt ap.atName
      let (fv, first) ← holding [ov] (getMethod ov name pl)
      callWith pos fv first (backTo pos (starEach [] (ksEnv q scope L f (.ref cda) 109))) []) := by rfl) :
    _root_.PySem.wpAt (model prog w) A (.func body (ksEnv q scope L f (.ref cda) 109)) (eval (.Call (.Attribute (.Call (.Name "super" p0) [] [] p1) name ap) [] [] pos) (ksEnv q scope L f (.ref cda) 109)) Q E s := by
  refine ks_wpAt_MethodCall ?_ he
  obtain ⟨mg, mb, Tg, Tb, Tl, Te, _⟩ := X.T
  have hC := X.X 185 _ (by k_is)
  have hcell := X.X 109 _ (by k_is)
  obtain ⟨hh, g, d, t, os⟩ := s
  refine ks_wpAt_super_base (env := ksEnv q scope L f (.ref cda) 109) hks hkc hat rfl (X.X _ _ hf) rfl hp rfl (X.X _ _ hcode) rfl hws P.file P.top ?_
  refine ks_loadName_global hk hks (loadGlobal_builtin (env := ksEnv q scope L f (.ref cda) 109) Tg (mg_none_of X.X Tg (by k_is)) Tb ((Te _ (by decide +kernel)).trans (by boot_by_name)) ⟨rfl, ?_⟩)
  refine wpAny_loadName_free hk hkc rfl ⟨_, hcell, rfl⟩ ?_
  refine wpAny_loadName_local hk hka hn hv ?_
  refine ks_wpAny_isType_cls hC rfl ⟨rfl, ?_⟩
  refine ks_wpAny_call_super hC rfl hx rfl (fun c e => by cases e) (looks_mroIn X.X (by k_is)) (fun h' e k => ?_)
  exact h _ _ k e
end
end Mine
end

section
open PySem PySem.W PySem.Calls PySem.Spec PyProof.Rows PyProof.Rows.LCg
set_option Elab.async false
set_option maxRecDepth 100000
set_option maxHeartbeats 2000000
set_option linter.unusedVariables false
namespace Mine
theorem fillite5 : (fun (_ : Params → Frag) => True) hd.heap_39 ∧ PySem.Challenge.rw_xp0030_01.prog = PySem.Challenge.rw_xp0030_01.prog := by
  k_fill
  exact ⟨trivial, rfl⟩

/-! ## the writer's objects -/
structure Ob where
  z : Addr
  dz : Addr
  x : Addr
  dx : Addr
  l : Addr
noncomputable abbrev Ob.all (o : Ob) : List Addr := [o.z, o.dz, o.x, o.dx, o.l, 147, 154]
/-- the accumulator's dict -/
noncomputable abbrev iniD (a : Int) (v : Value) : List DictEntry := [⟨a, v, .int 0 0⟩]
/-- the writer's dict -/
noncomputable def DzS (room : Int) (l x : Addr) (es : List DictEntry) : Prop := ∃ h1 h2 h3 h4 h5 h6 t1 t2 t3 t4 t5 t6 u1 u2 u3 u4, es = [⟨h1, .str "_maxlen" t1, .int room u1⟩, ⟨h2, .str "_continuation_ws" t2, .str " " u2⟩, ⟨h3, .str "_continuation_ws_len" t3, .int 1 u3⟩,
  ⟨h4, .str "_splitchars" t4, .str " " u4⟩, ⟨h5, .str "_lines" t5, .ref l⟩, ⟨h6, .str "_current_line" t6, .ref x⟩]
theorem dz_gets {room : Int} {l x : Addr} {es : List DictEntry} (d : DzS room l x es) : getL "_current_line" es = some (some (.ref x)) ∧ getL "_lines" es = some (some (.ref l)) ∧ (∃ u, getL "_maxlen" es = some (some (.int room u))) ∧ (∃ u, getL "_splitchars" es = some (some (.str " " u))) := by
  obtain ⟨_, _, _, _, _, _, _, _, _, _, _, _, u1, _, _, u4, rfl⟩ := d
  exact ⟨by kernel_rfl, by kernel_rfl, ⟨u1, by kernel_rfl⟩, ⟨u4, by kernel_rfl⟩⟩
theorem dz_none {room : Int} {l x : Addr} {es : List DictEntry} (d : DzS room l x es) : getL "newline" es = some none ∧ getL "_append_chunk" es = some none ∧ getL "_str" es = some none := by
  obtain ⟨_, _, _, _, _, _, _, _, _, _, _, _, _, _, _, _, rfl⟩ := d
  exact ⟨by kernel_rfl, by kernel_rfl, by kernel_rfl⟩
structure WS (o : Ob) (W : List Addr) (h : Heap) (room : Int) (lines : List Str) (cur : List (Str × Str)) : Prop where
  z : h.get? o.z = some (wrObj o.dz)
  dz : ∃ es k, h.get? o.dz = some (dictOf es k) ∧ DzS room o.l o.x es
  x : ∃ vs n, h.get? o.x = some (accObj o.dx vs n) ∧ RpL (hideAll h W) vs.toList (cur.map encP)
  dx : ∃ k h1 t u, h.get? o.dx = some (dictOf [⟨h1, .str "_initial_size" t, .int 0 u⟩] k)
  l : ∃ vs n, h.get? o.l = some { cls := .type "list", data := .seq vs n } ∧ RpL (hideAll h W) vs.toList (lines.map .str)
  t1 : ∃ ps, h.get? 147 = some { cls := .none, data := .fields ps } ∧ TriplesOk ps.toList
  t2 : ∃ ps, h.get? 154 = some { cls := .none, data := .fields ps } ∧ TriplesOk ps.toList
theorem WS.there {o : Ob} {W : List Addr} {h : Heap} {room : Int} {lines : List Str} {cur : List (Str × Str)} (x : WS o W h room lines cur) : ∀ a ∈ o.all, ∃ ob, h.get? a = some ob := fun a ha => by
  simp only [Ob.all, List.mem_cons, List.not_mem_nil, or_false] at ha
  rcases ha with rfl | rfl | rfl | rfl | rfl | rfl | rfl
  · exact ⟨_, x.z⟩
  · obtain ⟨_, _, e, _⟩ := x.dz; exact ⟨_, e⟩
  · obtain ⟨_, _, e, _⟩ := x.x; exact ⟨_, e⟩
  · obtain ⟨_, _, _, _, e⟩ := x.dx; exact ⟨_, e⟩
  · obtain ⟨_, _, e, _⟩ := x.l; exact ⟨_, e⟩
  · obtain ⟨_, e, _⟩ := x.t1; exact ⟨_, e⟩
  · obtain ⟨_, e, _⟩ := x.t2; exact ⟨_, e⟩
/-- the writer stands as it stood -/
theorem WS.keep {o : Ob} {W W' : List Addr} {h h' : Heap} {room : Int} {lines : List Str} {cur : List (Str × Str)} (x : WS o W h room lines cur) (k : ∀ a ∈ o.all, ∀ ob, h.get? a = some ob → h'.get? a = some ob) (v : Le (hideAll h W) (hideAll h' W')) :
    WS o W' h' room lines cur where
  z := k _ (by simp) _ x.z
  dz := x.dz.imp fun _ q => q.imp fun _ q => ⟨k _ (by simp) _ q.1, q.2⟩
  x := x.x.imp fun _ q => q.imp fun _ q => ⟨k _ (by simp) _ q.1, q.2.mono v⟩
  dx := x.dx.imp fun _ q => q.imp fun _ q => q.imp fun _ q => q.imp fun _ q => k _ (by simp) _ q
  l := x.l.imp fun _ q => q.imp fun _ q => ⟨k _ (by simp) _ q.1, q.2.mono v⟩
  t1 := x.t1.imp fun _ q => ⟨k _ (by simp) _ q.1, q.2⟩
  t2 := x.t2.imp fun _ q => ⟨k _ (by simp) _ q.1, q.2⟩
theorem WS.grow {o : Ob} {W : List Addr} {h h' : Heap} {room : Int} {lines : List Str} {cur : List (Str × Str)} (x : WS o W h room lines cur) (k : Le h h') : WS o W h' room lines cur := x.keep (fun a _ ob e => k a ob e) (hide_le_of k)

theorem Ob.ne {o : Ob} (nd : o.all.Nodup) : (o.z ≠ o.dz ∧ o.z ≠ o.x ∧ o.z ≠ o.dx ∧ o.z ≠ o.l ∧ o.z ≠ 147 ∧ o.z ≠ 154) ∧ (o.dz ≠ o.x ∧ o.dz ≠ o.dx ∧ o.dz ≠ o.l ∧ o.dz ≠ 147 ∧ o.dz ≠ 154) ∧ (o.x ≠ o.dx ∧ o.x ≠ o.l ∧ o.x ≠ 147 ∧ o.x ≠ 154) ∧ (o.dx ≠ o.l ∧ o.dx ≠ 147 ∧ o.dx ≠ 154) ∧ (o.l ≠ 147 ∧ o.l ≠ 154) := by
  simp only [Ob.all, List.nodup_cons, List.mem_cons, List.not_mem_nil, or_false, not_or] at nd
  obtain ⟨h1, h2, h3, h4, h5, _⟩ := nd
  exact ⟨⟨h1.1, h1.2.1, h1.2.2.1, h1.2.2.2.1, h1.2.2.2.2.1, h1.2.2.2.2.2⟩, ⟨h2.1, h2.2.1, h2.2.2.1, h2.2.2.2.1, h2.2.2.2.2⟩, ⟨h3.1, h3.2.1, h3.2.2.1, h3.2.2.2⟩, ⟨h4.1, h4.2.1, h4.2.2⟩, ⟨h5.1, h5.2⟩⟩
theorem WS.setX {o : Ob} {W : List Addr} {h h' : Heap} {room : Int} {lines : List Str} {cur cur' : List (Str × Str)} (x : WS o W h room lines cur) (nd : o.all.Nodup) (hW : o.x ∈ W) (sb : Heap.SameBut o.x h h') {vs : Array Value} {n : Nat}
    (e : h'.get? o.x = some (accObj o.dx vs n)) (r : RpL (hideAll h W) vs.toList (cur'.map encP)) : WS o W h' room lines cur' := by
  obtain ⟨⟨_, a1, _⟩, ⟨a2, _⟩, ⟨a3, a4, a5, a6⟩, _⟩ := Ob.ne nd
  have v : Le (hideAll h W) (hideAll h' W) := Frm.hide_same hW sb
  have k : ∀ b, b ≠ o.x → ∀ ob, h.get? b = some ob → h'.get? b = some ob := fun b hb ob e => (sb.2 b hb).trans e
  exact { z := k _ a1 _ x.z
          dz := x.dz.imp fun _ q => q.imp fun _ q => ⟨k _ a2 _ q.1, q.2⟩
          x := ⟨vs, n, e, r.mono v⟩
          dx := x.dx.imp fun _ q => q.imp fun _ q => q.imp fun _ q => q.imp fun _ q => k _ (Ne.symm a3) _ q
          l := x.l.imp fun _ q => q.imp fun _ q => ⟨k _ (Ne.symm a4) _ q.1, q.2.mono v⟩
          t1 := x.t1.imp fun _ q => ⟨k _ (Ne.symm a5) _ q.1, q.2⟩
          t2 := x.t2.imp fun _ q => ⟨k _ (Ne.symm a6) _ q.1, q.2⟩ }
theorem WS.setL {o : Ob} {W : List Addr} {h h' : Heap} {room : Int} {lines lines' : List Str} {cur : List (Str × Str)} (x : WS o W h room lines cur) (nd : o.all.Nodup) (hW : o.l ∈ W) (sb : Heap.SameBut o.l h h') {vs : Array Value} {n : Nat}
    (e : h'.get? o.l = some { cls := .type "list", data := .seq vs n }) (r : RpL (hideAll h W) vs.toList (lines'.map .str)) : WS o W h' room lines' cur := by
  obtain ⟨⟨_, _, _, a1, _⟩, ⟨_, _, a2, _⟩, ⟨_, a3, _⟩, ⟨a4, _⟩, ⟨a5, a6⟩⟩ := Ob.ne nd
  have v : Le (hideAll h W) (hideAll h' W) := Frm.hide_same hW sb
  have k : ∀ b, b ≠ o.l → ∀ ob, h.get? b = some ob → h'.get? b = some ob := fun b hb ob e => (sb.2 b hb).trans e
  exact { z := k _ a1 _ x.z
          dz := x.dz.imp fun _ q => q.imp fun _ q => ⟨k _ a2 _ q.1, q.2⟩
          l := ⟨vs, n, e, r.mono v⟩
          dx := x.dx.imp fun _ q => q.imp fun _ q => q.imp fun _ q => q.imp fun _ q => k _ a4 _ q
          x := x.x.imp fun _ q => q.imp fun _ q => ⟨k _ a3 _ q.1, q.2.mono v⟩
          t1 := x.t1.imp fun _ q => ⟨k _ (Ne.symm a5) _ q.1, q.2⟩
          t2 := x.t2.imp fun _ q => ⟨k _ (Ne.symm a6) _ q.1, q.2⟩ }
theorem WS.setD {o : Ob} {W : List Addr} {h h' : Heap} {room : Int} {lines : List Str} {cur : List (Str × Str)} (x : WS o W h room lines cur) (nd : o.all.Nodup) (hW : o.dx ∈ W) (sb : Heap.SameBut o.dx h h') {k0 : Nat} {h1 : Int} {t u : Tok}
    (e : h'.get? o.dx = some (dictOf [⟨h1, .str "_initial_size" t, .int 0 u⟩] k0)) : WS o W h' room lines cur := by
  obtain ⟨⟨_, _, a1, _⟩, ⟨_, a2, _⟩, ⟨a3, _⟩, ⟨a4, a5, a6⟩, _⟩ := Ob.ne nd
  have v : Le (hideAll h W) (hideAll h' W) := Frm.hide_same hW sb
  have k : ∀ b, b ≠ o.dx → ∀ ob, h.get? b = some ob → h'.get? b = some ob := fun b hb ob e => (sb.2 b hb).trans e
  exact { z := k _ a1 _ x.z
          dz := x.dz.imp fun _ q => q.imp fun _ q => ⟨k _ a2 _ q.1, q.2⟩
          x := x.x.imp fun _ q => q.imp fun _ q => ⟨k _ a3 _ q.1, q.2.mono v⟩
          dx := ⟨_, _, _, _, e⟩
          l := x.l.imp fun _ q => q.imp fun _ q => ⟨k _ (Ne.symm a4) _ q.1, q.2.mono v⟩
          t1 := x.t1.imp fun _ q => ⟨k _ (Ne.symm a5) _ q.1, q.2⟩
          t2 := x.t2.imp fun _ q => ⟨k _ (Ne.symm a6) _ q.1, q.2⟩ }

/-- what a call of a method needs -/
structure Md (K : Frag) (A : Around) (D U : Nat) (hb : Heap) (W : List Addr) (o : Ob) (h : Heap) (room : Int) (lines : List Str) (cur : List (Str × Str)) : Prop where
  cx : Cx K A D U hb
  le : Le hb h
  th : There W h
  off : ∀ a ∈ o.all, a ∈ W ∧ hb.get? a = none
  nd : o.all.Nodup
  ws : WS o W h room lines cur

section
variable {prog : Program} {w : World} {A : Around} {E : Value → Shared → Prop} {hb : Heap} {W : List Addr} {o : Ob} {room : Int} {lines : List Str} {cur : List (Str × Str)} {D U : Nat} {K : Frag}
theorem enter_supc {name qual : Str} {params : Arguments} {body : List Stmt} {scope : Scope} {dV kV doc pm ct oc : Value} {an od : Option Addr} {osl : Array (Option Value)} {f cda : Addr} {args : List Value} {binds : List (Str × Value)} {s : Shared} {Q : Value → Shared → Prop}
    (C : Cx K A (D + 1) (U + 3) hb) (hle : Le hb s.heap) (ho : K.lookup f = some ⟨oc, od, .func (ksFn name qual params body scope dV kV doc pm an (.ref cda) ct 109), osl⟩) (hcd : codeIn K (.ref cda) qual = true)
    (hbind : K.In s.heap → BindsTo s (ksFn name qual params body scope dV kV doc pm an (.ref cda) ct 109) ⟨args, []⟩ binds) (hloc : ∀ y ∈ binds, scope.names.lookup y.1 = some .local)
    (h : ∀ A' L h₁ tk, Cx K A' D U hb → h₁.Ns L (fun x => binds.reverse.lookup x) → Le s.heap h₁ → s.heap.get? L = none →
      _root_.PySem.wpAt (model prog w) A' (.func body (ksEnv qual scope L f (.ref cda) 109)) (execs body (ksEnv qual scope L f (.ref cda) 109)) (fun fl s' => Q (match fl with | .ret v => v | _ => .none) s') (fun _ _ => False) { s with heap := h₁, toks := tk })
    (hcell : ∀ x ∈ scope.names, x.2 ≠ .cell := by decide) (hco : scope.isCoroutine = false := by rfl) (hgen : scope.isGenerator = false := by rfl) (hk : scope.kind = .function := by rfl) : codeAny (model prog w) A (.call (.ref f) ⟨args, []⟩) (Back Q E) s := by
  have X := C.wl.X.keeps hle
  refine ks_codeAny_call_defAt (fd := ksFn name qual params body scope dV kV doc pm an (.ref cda) ct 109) (body := body) (binds := binds) (by have := C.dp; (first | lia | omega)) (X _ _ ho) rfl (C.wl.mono hle).lim (codeRec_of X hcd) rfl (hbind X) hcell hloc (fun h₁ hns hk₁ => ?_) hco hgen hk
  refine ks_wpAt_mono (h _ s.heap.objs.size h₁ _ ⟨C.wl, C.hh, ?_, ?_⟩ hns hk₁ ?_) (fun _ _ x => x) (fun _ _ x => x.elim)
  · have := C.dp; show A.depth + 1 + D < recursionLimit; (first | lia | omega)
  · have := C.un; show A.units + 3 + U < cLine; (first | lia | omega)
  · cases e : s.heap.get? s.heap.objs.size with
    | none => rfl
    | some o => exact absurd (Heap.lt_size e) (Nat.lt_irrefl _)
theorem enter_sup {name qual : Str} {params : Arguments} {body : List Stmt} {scope : Scope} {dV kV doc pm ct oc : Value} {an od : Option Addr} {osl : Array (Option Value)} {f cda : Addr} {args : List Value} {binds : List (Str × Value)} {s : Shared} {Q : Value → Shared → Prop}
    (C : Cx K A (D + 1) (U + 3) hb) (hle : Le hb s.heap) (ho : K.lookup f = some ⟨oc, od, .func (ksFn name qual params body scope dV kV doc pm an (.ref cda) ct 109), osl⟩) (hcd : codeIn K (.ref cda) qual = true)
    (hbind : K.In s.heap → BindsTo s (ksFn name qual params body scope dV kV doc pm an (.ref cda) ct 109) ⟨args, []⟩ binds) (hloc : ∀ y ∈ binds, scope.names.lookup y.1 = some .local)
    (h : ∀ A' L h₁ tk, Cx K A' D U hb → h₁.Ns L (fun x => binds.reverse.lookup x) → Le s.heap h₁ → s.heap.get? L = none →
      _root_.PySem.wpAt (model prog w) A' (.func body (ksEnv qual scope L f (.ref cda) 109)) (execs body (ksEnv qual scope L f (.ref cda) 109)) (fun fl s' => Q (match fl with | .ret v => v | _ => .none) s') (fun _ _ => False) { s with heap := h₁, toks := tk })
    (hcell : ∀ x ∈ scope.names, x.2 ≠ .cell := by decide) (hco : scope.isCoroutine = false := by rfl) (hgen : scope.isGenerator = false := by rfl) (hk : scope.kind = .function := by rfl) : wpAny (model prog w) A (PySem.call (.ref f) args) Q E s :=
  wpAny_call (enter_supc C hle ho hcd hbind hloc h hcell hco hgen hk)
end

section
variable {prog : Program} {w : World} {A : Around} {E : Value → Shared → Prop} {hb : Heap} {x dx : Addr} {vs : Array Value} {n : Nat}
set_option maxHeartbeats 4000000 in
theorem count_m {s : Shared} {Q : Value → Shared → Prop} (P : Pr prog) (C : Cx (hd.heap_39 w.params) A 2 20 hb) (hle : Le hb s.heap) (hx : s.heap.get? x = some (accObj dx vs n)) (hz : vs.size ≤ 1000)
    (hq : ∀ t s', Grow s s' → Q (.int vs.size t) s') : wpAny (model prog w) A (PySem.call (.ref 182) [.ref x]) Q E s := by
  k_dflt (refine' enter_sup (D := 1) (U := 17) (binds := [("self", .ref x)]) C hle ?ho ?hcd ?hbind ?hloc ?h ?k1 ?k2 ?k3 ?k4)
  case ho => k_is
  case hcd => k_is
  case hbind => exact fun _ => BindsTo.of_eq (by kernel_rfl)
  case hloc => exact locs (by kernel_rfl)
  case k1 => decide
  case k2 => rfl
  case k3 => rfl
  case k4 => rfl
  intro A' L h₁ tk C' hn le hL
  have X := ((C'.wl.mono hle).mono le)
  refine ks_wpAt_execs_cons (ks_wpAt_Return_some (sup_call P X hn (le _ _ hx) (by k_is) rfl rfl (by k_is) rfl (by kernel_rfl) (by kernel_rfl) (by kernel_rfl) (by kernel_rfl) rfl fun so h' le' hso => ?_))
  have hx' := le' _ _ (le _ _ hx)
  obtain ⟨hh, g, d, t, os⟩ := s
  refine sup_method (X.mono le').X hx' hso (by kernel_rfl) ty_len wd_get_lk (by kernel_rfl) (fun A t R => wd_len (X.mono le').X hx') ?_
  refine callWith_b0 ⟨.inr rfl, _, rfl⟩ (Heap.get?_push_size _ rfl) (sup_len ((X.mono le').mono (le_push _ _)).X (Heap.get?_push_size _ rfl) (le_push _ _ _ _ hx') hz ?_)
  exact hq _ _ ⟨((le.trans le').trans (le_push _ _)), rfl, id⟩

theorem snoc_arr {g : Heap} {vs : Array Value} {ds : List PyData} {d : PyData} (r : RpL g vs.toList (ds ++ [d])) : ∃ (us : Array Value) (v : Value), vs = us.push v ∧ RpL g us.toList ds ∧ Rp g v d := by
  have hl := r.length
  rw [List.length_append, List.length_singleton, Array.length_toList] at hl
  obtain ⟨ys, hy⟩ : ∃ ys : List Value, vs = ys.toArray := ⟨vs.toList, by simp⟩
  subst hy
  rw [List.size_toArray] at hl
  have h1 := r.take ds.length
  rw [List.take_left] at h1
  obtain ⟨v, hv, rv⟩ := r.get (i := ds.length) (d := d) (by simp)
  refine ⟨(ys.take ds.length).toArray, v, ?_, h1, rv⟩
  have hv' : ys[ds.length]? = some v := hv
  rw [List.push_toArray]
  congr 1
  have : ys = ys.take (ds.length + 1) := by rw [List.take_of_length_le (by (first | lia | omega))]
  rw [List.take_add_one, hv'] at this
  exact this

set_option maxHeartbeats 4000000 in
theorem pop_m {o : Ob} {W : List Addr} {room : Int} {lines : List Str} {cur : List (Str × Str)} {p : Str × Str} {s : Shared} {Q : Value → Shared → Prop} (P : Pr prog) (m : Md (hd.heap_39 w.params) A 4 40 hb W o s.heap room lines (cur ++ [p])) (hz : cur.length ≤ 900)
    (q : ∀ v s', Chg o.all s s' → WS o W s'.heap room lines cur → Rp (hideAll s'.heap W) v (encP p) → Q v s') : wpAny (model prog w) A (PySem.call (.ref 145) [.ref o.x]) Q E s := by
  obtain ⟨vs0, n, hx, r⟩ := m.ws.x
  rw [List.map_append] at r
  obtain ⟨vs, v, rfl, r1, r2⟩ := snoc_arr r
  have hlen := r1.length
  rw [List.length_map, Array.length_toList] at hlen
  obtain ⟨kd, h1, t0, u0, hdx⟩ := m.ws.dx
  k_dflt (refine' enter_sup (D := 3) (U := 37) (binds := [("self", .ref o.x)]) m.cx m.le ?ho ?hcd ?hbind ?hloc ?h ?k1 ?k2 ?k3 ?k4)
  case ho => k_is
  case hcd => k_is
  case hbind => exact fun _ => BindsTo.of_eq (by kernel_rfl)
  case hloc => exact locs (by kernel_rfl)
  case k1 => decide
  case k2 => rfl
  case k3 => rfl
  case k4 => rfl
  intro A' L h₁ tk C' hn le hL
  have X := ((C'.wl.mono m.le).mono le)
  have hself : (fun x => List.lookup x ([("self", Value.ref o.x)] : List (Str × Value)).reverse) "self" = some (.ref o.x) := by kernel_rfl
  -- self.part_count() == 0
  refine ks_wpAt_execs_cons (ks_wpAt_If (wpAt_of_wpAny (wpAny_isTrue_Compare1 (MethodCall_ (wpAny_Name (wpAny_loadName_local (by kernel_rfl) (by kernel_rfl) hn hself ?_) (by kernel_rfl)) (by rfl)) (by kernel_rfl))))
  have hN : Looks (model prog w) h₁ (nsGet o.dx "part_count") none := looks_dict (le _ _ hdx) (by kernel_rfl)
  refine acc_method X.X (le _ _ hx) hN (by k_is) (by k_is) ?_
  refine callWith_K0 X.X (by k_is) ?_
  refine count_m P (C'.mono le_rfl) (m.le.trans le) (le _ _ hx) (by rw [Array.size_push]; (first | lia | omega)) fun t2 s2 g2 => ?_
  refine wpAny_Constant_int (eq_int (wpAny_truthy_bool ?_))
  have hne : (((vs.push v).size : Int) == 0) = false := by rw [Array.size_push]; simp; (first | lia | omega)
  rw [hne]
  simp only [Bool.false_eq_true, if_false]
  refine wpAt_of_wpAny (wpAny_execs_nil ?_)
  dsimp only
  have X2 := X.mono g2.heap
  have hx2 := g2.heap _ _ (le _ _ hx)
  refine ks_wpAt_execs_cons (ks_wpAt_Return_some (sup_call P X2 (ns_le g2.heap hn) hx2 (by k_is) rfl hself (by k_is) rfl (by kernel_rfl) (by kernel_rfl) (by kernel_rfl) (by kernel_rfl) rfl fun so h' le' hso => ?_))
  obtain ⟨hh, g, d, t, os⟩ := s2
  have hx' := le' _ _ hx2
  refine sup_method (X2.mono le').X hx' hso (by kernel_rfl) ty_pop md_get_lk (by kernel_rfl) (fun A t R => md_pop (X2.mono le').X hx') ?_
  refine callWith_b0 ⟨.inl rfl, _, rfl⟩ (Heap.get?_push_size _ rfl) (sup_pop ((X2.mono le').mono (le_push _ _)).X (Heap.get?_push_size _ rfl) (le_push _ _ _ _ hx') (by (first | lia | omega)) fun h5 n5 e5 sb5 => ?_)
  have up : Le s.heap (h'.push (boundM "list.pop" o.x)) := ((le.trans g2.heap).trans le').trans (le_push _ _)
  have hxW := (m.off o.x (by simp)).1
  have up2 : Le (hideAll s.heap W) (hideAll h5 W) := (hide_le_of up).trans (Frm.hide_same hxW sb5)
  exact q _ _ ⟨fun b ob hb e => (sb5.2 b fun z => hb (by rw [z]; simp)).trans (up _ _ e), g2.os, g2.gens⟩ ((m.ws.grow up).setX m.nd hxW sb5 e5 (r1.mono (hide_le_of up))) (r2.mono up2)
end
end Mine
end

section
open PySem PySem.W PySem.Calls PySem.Spec PyProof.Rows PyProof.Rows.LCg
set_option Elab.async false
set_option maxRecDepth 100000
set_option maxHeartbeats 2000000
set_option linter.unusedVariables false
namespace Mine
theorem fillite6 : (fun (_ : Params → Frag) => True) hd.heap_39 ∧ PySem.Challenge.rw_xp0030_01.prog = PySem.Challenge.rw_xp0030_01.prog := by
  k_fill
  exact ⟨trivial, rfl⟩
/-- a method's frame -/
structure Fm (o : Ob) (hb : Heap) (W : List Addr) (env : Env) (ρ : Ro) (s₀ s : Shared) (room : Int) (lines : List Str) (cur : List (Str × Str)) : Prop where
  F : Frm hb env W [] s.heap ρ
  off : Off o.all hb W env
  nd : o.all.Nodup
  ws : WS o W s.heap room lines cur
  chg : Chg o.all s₀ s
  hL : s₀.heap.get? env.locals = none
theorem WS.back {o : Ob} {W W' : List Addr} {h : Heap} {room : Int} {lines : List Str} {cur : List (Str × Str)} (x : WS o W' h room lines cur) (inW : ∀ a ∈ W, a ∈ W') : WS o W h room lines cur :=
  x.keep (fun _ _ _ e => e) (hide_mono inW fun _ _ _ e => e)
theorem back_le {W W' : List Addr} {h : Heap} (inW : ∀ a ∈ W, a ∈ W') : Le (hideAll h W') (hideAll h W) := hide_mono inW fun _ _ _ e => e

section
variable {prog : Program} {w : World} {A : Around} {W : List Addr} {hb h : Heap} {ρ : Ro} {env : Env} {K : Frag} {D U D' U' : Nat} {scope : Scope} {o : Ob} {room : Int} {lines : List Str} {cur : List (Str × Str)}
  {name qual : Str} {params : Arguments} {body : List Stmt} {dV kV doc pm cdv ct oc : Value} {an od : Option Addr} {osl : Array (Option Value)} {f : Addr} {s₀ s : Shared}

theorem Ev.run {t : Sem Value} {d : PyData} {Q E : Value → Shared → Prop} (x : Ev prog w A W h t d) (hs : Le h s.heap) (k : ∀ v s', Grow s s' → Rp (hideAll s'.heap W) v d → Q v s') : wpAny (model prog w) A t Q E s := x s Q E hs k
theorem Fm.md (m : Fm o hb W env ρ s₀ s room lines cur) (C : Cx K A D U hb) (hD : D' ≤ D := by decide) (hU : U' ≤ U := by decide) : Md K A D' U' hb W o s.heap room lines cur :=
  ⟨C.mono le_rfl hD hU, m.F.keep, m.F.th, fun a ha => ⟨(m.off a ha).1, (m.off a ha).2.2.2⟩, m.nd, m.ws⟩
/-- the frame behind a call of a method -/
theorem Fm.step {s' : Shared} {lines' : List Str} {cur' : List (Str × Str)} (m : Fm o hb W env ρ s₀ s room lines cur) (c : Chg o.all s s') (ws : WS o W s'.heap room lines' cur') : Fm o hb W env ρ s₀ s' room lines' cur' :=
  ⟨m.F.chg m.off c.heap ws.there, m.off, m.nd, ws, m.chg.trans c, m.hL⟩
theorem Fm.grow {s' : Shared} (m : Fm o hb W env ρ s₀ s room lines cur) (g : Grow s s') : Fm o hb W env ρ s₀ s' room lines cur :=
  ⟨m.F.grow g.heap, m.off, m.nd, m.ws.grow g.heap, m.chg.trans g.chg, m.hL⟩
/-- a name is stored -/
theorem Fm.set {x : Str} {v : Value} {d : PyData} {Q : Unit → Shared → Prop} {E : Value → Shared → Prop} (m : Fm o hb W env ρ s₀ s room lines cur) (r : Rp (hideAll s.heap W) v d)
    (k : ∀ s', Fm o hb W env (upd ρ x d) s₀ s' room lines cur → Q () s') (hx : env.kindOf x = some .local := by kernel_rfl) : wpAny (model prog w) A (storeName env x v) Q E s :=
  st_set m.F m.chg m.hL r (fun h' tk F' c sb => k _ ⟨F', m.off, m.nd, m.ws.keep (fun a ha ob e => (sb.2 a (m.off a ha).2.1).trans e) (Frm.hide_same m.F.lw sb), c, m.hL⟩) hx

theorem enter_mc (xs : List Str) {ds : List PyData} {vs args : List Value} {Q E : Value → Shared → Prop} (m : Md K A (D + 1) (U + 3) hb W o s.heap room lines cur) (r : RpL (hideAll s.heap W) vs ds)
    (ho : K.lookup f = some ⟨oc, od, .func (fnX name qual params body scope [] dV kV doc pm an cdv ct), osl⟩) (hcd : codeIn K cdv qual = true)
    (hbind : K.In s.heap → BindsTo s (fnX name qual params body scope [] dV kV doc pm an cdv ct) ⟨args, []⟩ (xs.zip vs))
    (hlen : xs.length = ds.length)
    (hkind : (xs.all fun y => scope.names.lookup y == some .local || scope.names.lookup y == some .cell) = true)
    (hfree : (scope.names.all fun x => x.2 != .free) = true)
    (hnd : ((cellsFrom 0 scope.names []).map (·.1)).Nodup) (hnn : (scope.names.map (·.1)).Nodup)
    (h : ∀ (A' : Around) (L : Addr) (W' : List Addr) (s₁ : Shared) (E' : Value → Shared → Prop), Cx K A' D U hb → Fm o hb W' (envOfC qual scope L f cdv) (bindR xs ds fun _ => none) s s₁ room lines cur →
      (∀ a ∈ W, a ∈ W') → Grow s s₁ → (∀ a ∈ W', a ∈ W ∨ s.heap.get? a = none) → wpAny (model prog w) A' (execs body (envOfC qual scope L f cdv)) (fun fl s' => Q (match fl with | .ret v => v | _ => .none) s') E' s₁)
    (hco : scope.isCoroutine = false := by rfl) (hgen : scope.isGenerator = false := by rfl) (hk : scope.kind = .function := by rfl) : codeAny (model prog w) A (.call (.ref f) ⟨args, []⟩) (Back Q E) s :=
  enter_cd (O := o.all) xs m.cx m.le m.th r m.off ho hcd hbind hlen hkind hfree hnd hnn
    (fun A' L W' s₁ E' C' F off g hL inW hW' => h A' L W' s₁ E' C' ⟨F, off, m.nd, m.ws.keep (fun a _ ob e => g.heap a ob e) (hide_new hW' fun b ob _ e => g.heap b ob e), g.chg, hL⟩ inW g hW') hco hgen hk
theorem enter_m (xs : List Str) {ds : List PyData} {vs args : List Value} {Q E : Value → Shared → Prop} (m : Md K A (D + 1) (U + 3) hb W o s.heap room lines cur) (r : RpL (hideAll s.heap W) vs ds)
    (ho : K.lookup f = some ⟨oc, od, .func (fnX name qual params body scope [] dV kV doc pm an cdv ct), osl⟩) (hcd : codeIn K cdv qual = true)
    (hbind : K.In s.heap → BindsTo s (fnX name qual params body scope [] dV kV doc pm an cdv ct) ⟨args, []⟩ (xs.zip vs))
    (hlen : xs.length = ds.length)
    (hkind : (xs.all fun y => scope.names.lookup y == some .local || scope.names.lookup y == some .cell) = true)
    (hfree : (scope.names.all fun x => x.2 != .free) = true)
    (hnd : ((cellsFrom 0 scope.names []).map (·.1)).Nodup) (hnn : (scope.names.map (·.1)).Nodup)
    (h : ∀ (A' : Around) (L : Addr) (W' : List Addr) (s₁ : Shared) (E' : Value → Shared → Prop), Cx K A' D U hb → Fm o hb W' (envOfC qual scope L f cdv) (bindR xs ds fun _ => none) s s₁ room lines cur →
      (∀ a ∈ W, a ∈ W') → Grow s s₁ → (∀ a ∈ W', a ∈ W ∨ s.heap.get? a = none) → wpAny (model prog w) A' (execs body (envOfC qual scope L f cdv)) (fun fl s' => Q (match fl with | .ret v => v | _ => .none) s') E' s₁)
    (hco : scope.isCoroutine = false := by rfl) (hgen : scope.isGenerator = false := by rfl) (hk : scope.kind = .function := by rfl) : wpAny (model prog w) A (PySem.call (.ref f) args) Q E s :=
  wpAny_call (enter_mc xs m r ho hcd hbind hlen hkind hfree hnd hnn h hco hgen hk)
end

section
variable {prog : Program} {w : World} {A : Around} {E : Value → Shared → Prop} {hb : Heap} {W : List Addr} {o : Ob} {room : Int} {lines : List Str} {cur : List (Str × Str)} {s : Shared} {Q : Value → Shared → Prop}
set_option maxHeartbeats 4000000 in
theorem push_c {a b : Str} {u v : Value} (m : Md (hd.heap_39 w.params) A 2 40 hb W o s.heap room lines cur) (hz : cur.length ≤ 900) (ru : Rp (hideAll s.heap W) u (.str a)) (rv : Rp (hideAll s.heap W) v (.str b))
    (q : ∀ s', Chg o.all s s' → WS o W s'.heap room lines (cur ++ [(a, b)]) → Q .none s') : codeAny (model prog w) A (.call (.ref 129) ⟨[.ref o.x, u, v], []⟩) (Back Q E) s := by
  k_dflt (refine' enter_mc (D := 1) (U := 37) ["self", "fws", "string"] (ds := [rawD o.x, .str a, .str b]) m (.cons (.raw _) (.cons ru (.cons rv .nil))) ?ho ?hcd ?hbind rfl ?k1 ?k2 ?k3 ?k4 ?h ?c1 ?c2 ?c3)
  case ho => k_is
  case hcd => k_is
  case hbind => exact fun _ => BindsTo.of_eq (by kernel_rfl)
  case k1 => decide
  case k2 => decide
  case k3 => decide
  case k4 => decide
  case c1 => rfl
  case c2 => rfl
  case c3 => rfl
  intro A' L W' s₁ E' C' M inW _ _
  obtain ⟨vs, n, hx, r⟩ := M.ws.x
  obtain ⟨kd, h1, t0, u0, hdx⟩ := M.ws.dx
  have X := C'.wl.mono M.F.keep
  have hlen := r.length
  rw [List.length_map, Array.length_toList] at hlen
  refine wpAny_execs_cons (wpAny_Expr (MethodCall_ (nm_raw (a := o.x) M.F (by kernel_rfl) ?_) (by rfl)) (by kernel_rfl) (by rfl))
  refine acc_builtin X.X hx (looks_dict hdx (by kernel_rfl)) (by k_is) (by k_is) ?_
  refine callWith_method1 ?_ (by kernel_rfl) (by kernel_rfl)
  refine spliced_cons (Ev.run (d := encP (a, b)) (Ev.tup (k := 0) M.F.th (evs_cons (ev_loc M.F) (evs_cons (ev_loc M.F) evs_nil)) (by simp)) le_rfl fun p s₂ g r₂ => Calls.spliced_nil ?_)
  obtain ⟨hh, gg, d, t, os⟩ := s₂
  refine acc_append_call (X.mono g.heap).X (g.heap _ _ hx) (by (first | lia | omega)) fun h' n' e sb => wpAny_execs_nil ?_
  have M2 := M.grow g
  have hxW := (M.off o.x (by simp)).1
  refine q _ ((M2.chg).trans (.same (by simp) sb)) (((M2.ws).setX M.nd hxW sb e ?_).back inW)
  rw [Array.toList_push, List.map_append]
  exact (r.mono (hide_le_of g.heap)).snoc r₂
theorem push_m {a b : Str} {u v : Value} (m : Md (hd.heap_39 w.params) A 2 40 hb W o s.heap room lines cur) (hz : cur.length ≤ 900) (ru : Rp (hideAll s.heap W) u (.str a)) (rv : Rp (hideAll s.heap W) v (.str b))
    (q : ∀ s', Chg o.all s s' → WS o W s'.heap room lines (cur ++ [(a, b)]) → Q .none s') : wpAny (model prog w) A (PySem.call (.ref 129) [.ref o.x, u, v]) Q E s := wpAny_call (push_c m hz ru rv q)
end
end Mine
end

section
open PySem PySem.W PySem.Calls PySem.Spec PyProof.Rows PyProof.Rows.LCg
set_option Elab.async false
set_option maxRecDepth 100000
set_option maxHeartbeats 2000000
set_option linter.unusedVariables false
namespace Mine
theorem fillite7 : (fun (_ : Params → Frag) => True) hd.heap_39 ∧ PySem.Challenge.rw_xp0030_01.prog = PySem.Challenge.rw_xp0030_01.prog := by
  k_fill
  exact ⟨trivial, rfl⟩
section
variable {prog : Program} {w : World} {A : Around} {E : Value → Shared → Prop} {x dx : Addr} {vs : Array Value} {n : Nat}
theorem acc_tail {value slice : Expr} {i : Value} {ops : List Value} {s : Shared} {Q : Value → Shared → Prop} (X : (hd.heap_39 w.params).In s.heap) (hx : s.heap.get? x = some (accObj dx vs n)) (hg : wpAny (model prog w) A (getItem (.ref x) i) Q E s)
    (hs : subscripted slice false (.ref x) i = operate ops (getItem (.ref x) i)) : wpAny (model prog w) A (subscriptTail value slice (.ref x) i) Q E s := by
  have L1 : Looks (model prog w) s.heap (typeLookup (.ref 185) "__getitem__") (some (.builtin "list.__getitem__")) := looks_findIn X (by k_is)
  have hT : Looks (model prog w) s.heap (typeOf (.ref x)) (.ref 185) := (Looks.ld hx).andThen .now
  unfold subscriptTail
  refine wpAny_bind ?_
  rw [getitemInPython_of_ne (fun q => by cases q)]
  refine wpAny_bind (wpAny_bind (hT.here (L1.here ?_)))
  have fin : wpAny (model prog w) A (subscripted slice false (.ref x) i) (fun r s₃ => wpAny (model prog w) A (letTemporaryGo value (.ref x) r >>= fun _ => pure r) Q E s₃) E s := by
    rw [hs]
    exact wpAny_operating (wpAny_mono hg (fun r s₃ h₃ => wpAny_bind (wpAny_letTemporaryGo (wpAny_pure h₃))) fun _ _ x => x)
  first
    | exact wpAny_pure (wpAny_bind fin)
    | exact wpAny_bind (wpAny_pure (wpAny_bind fin))
    | exact wpAny_bind fin
end

theorem bounds_from (a n : Nat) (h : a ≤ n) : sliceBounds (some (a : Int)) none none n = ((a : Int), (n : Int), 1) := by
  unfold sliceBounds
  have h1 : ¬ ((a : Int) < 0) := by (first | lia | omega)
  simp [h1]
  (first | lia | omega)
theorem bounds_all (n : Nat) : sliceBounds none none none n = (((0 : Nat) : Int), (n : Int), 1) := by
  unfold sliceBounds
  simp

section
variable {prog : Program} {w : World} {A : Around} {E : Value → Shared → Prop} {hb : Heap} {W : List Addr} {o : Ob} {room : Int} {lines : List Str} {cur : List (Str × Str)} {s : Shared} {Q : Value → Shared → Prop}
set_option maxHeartbeats 4000000 in
theorem popFrom_m {i : Nat} {v : Value} (m : Md (hd.heap_39 w.params) A 2 40 hb W o s.heap room lines cur) (hi : i ≤ cur.length) (hz : cur.length ≤ 900) (rv : Rp (hideAll s.heap W) v (.int (i : Int)))
    (q : ∀ u s', Chg o.all s s' → WS o W s'.heap room lines (cur.take i) → Rp (hideAll s'.heap W) u (.list ((cur.drop i).map encP)) → Q u s') : wpAny (model prog w) A (PySem.call (.ref 137) [.ref o.x, v]) Q E s := by
  k_dflt (refine' enter_m (D := 1) (U := 37) ["self", "i"] (ds := [rawD o.x, .int (i : Int)]) m (.cons (.raw _) (.cons rv .nil)) ?ho ?hcd ?hbind rfl ?k1 ?k2 ?k3 ?k4 ?h ?c1 ?c2 ?c3)
  case ho => k_is
  case hcd => k_is
  case hbind => exact fun X => BindsTo.of_defaults rfl (X _ _ (by k_is)) rfl (by rfl) (by rfl)
  case k1 => decide
  case k2 => decide
  case k3 => decide
  case k4 => decide
  case c1 => rfl
  case c2 => rfl
  case c3 => rfl
  intro A' L W' s₁ E' C' M inW _ _
  obtain ⟨vs, n, hx, r⟩ := M.ws.x
  have X := C'.wl.mono M.F.keep
  have hlen := r.length
  rw [List.length_map, Array.length_toList] at hlen
  have hxW := (M.off o.x (by simp)).1
  -- popped = self[i:]
  refine wpAny_execs_cons (wpAny_Assign_Name (Subscript_ (nm_raw (a := o.x) M.F (by kernel_rfl) (wpAny_Slice (EvP.some (i := (i : Int)) (ev_loc M.F) s₁ _ _ le_rfl fun vl s₂ g₂ pl => EvP.none (h := s₂.heap) s₂ _ _ le_rfl fun vu s₃ g₃ pu => wpAny_pure ?_)))) (by kernel_rfl))
  have M3 := M.grow (g₂.trans g₃)
  have hx3 := (g₂.trans g₃).heap _ _ hx
  obtain ⟨h3, gg, d, t, os⟩ := s₃
  have X3 := X.mono (g₂.trans g₃).heap
  refine acc_tail (X3.mono (le_push _ _)).X (le_push _ _ _ _ hx3) (acc_getItem_slice (X3.mono (le_push _ _)).X (le_push _ _ _ _ hx3) (by (first | lia | omega)) (Heap.IsSliceOf.new ..) pl pu ?_) (by with_unfolding_all rfl)
  have gS : Grow s₁ (⟨(h3.push { cls := .type "slice", data := .fields #[vl, vu, .none] }).push { cls := .type "list", data := .seq (slicePick vs (some (i : Int)) none none) }, gg, d, t, os⟩ : Shared) := (g₂.trans g₃).trans ⟨(le_push _ _).trans (le_push _ _), rfl, id⟩
  have rl : Rp (hideAll ((h3.push { cls := .type "slice", data := .fields #[vl, vu, .none] }).push { cls := .type "list", data := .seq (slicePick vs (some (i : Int)) none none) }) W') (.ref (h3.push { cls := .type "slice", data := .fields #[vl, vu, .none] }).objs.size) (.list ((cur.drop i).map encP)) := by
    refine .list (hide_push (W := W') (h := h3.push _) ((M3.F.th).mono (le_push _ _)) rfl) rfl rfl rfl ?_
    rw [List.map_drop]
    exact sl_from i vs _ (r.mono (hide_le_of gS.heap))
  have M4 := M.grow gS
  refine M4.set (x := "popped") rl fun s₅ M5 => ?_
  -- self[i:] = []
  obtain ⟨vs', n', hx5, r5⟩ := M5.ws.x
  have hlen5 := r5.length
  rw [List.length_map, Array.length_toList] at hlen5
  have X5 := C'.wl.mono M5.F.keep
  refine wpAny_execs_cons (wpAny_Assign_Subscript (List_ (Calls.spliced_nil (wpAny_newList ?_ (Nat.zero_le _)))) (by kernel_rfl))
  have M6 : Fm o hb W' _ _ s { s₅ with heap := s₅.heap.push { cls := .type "list", data := .seq ([] : List Value).toArray } } room lines cur := M5.grow (Grow.push _ _)
  refine nm_raw (a := o.x) M6.F (by kernel_rfl) (wpAny_Slice (EvP.some (i := (i : Int)) (ev_loc M6.F) _ _ _ le_rfl fun vl s₆ g₆ pl => EvP.none (h := s₆.heap) s₆ _ _ le_rfl fun vu s₇ g₇ pu => wpAny_pure ?_))
  have hl6 : (s₅.heap.push { cls := .type "list", data := .seq ([] : List Value).toArray }).get? s₅.heap.objs.size = some { cls := .type "list", data := .seq ([] : List Value).toArray } := Heap.get?_push_size _ rfl
  have hl7 := (g₆.trans g₇).heap _ _ hl6
  have hx7 := (g₆.trans g₇).heap _ _ (le_push _ { cls := .type "list", data := .seq ([] : List Value).toArray } _ _ hx5)
  have hlx : s₅.heap.objs.size ≠ o.x := Nat.ne_of_gt (ltA hx5)
  cases pu
  obtain ⟨h7, gg7, d7, t7, os7⟩ := s₇
  have M8 : Fm o hb W' _ _ s { heap := h7.push { cls := .type "slice", data := .fields #[vl, .none, .none] }, gens := gg7, drawn := d7, toks := t7, os := os7 } room lines cur := (M6.grow (g₆.trans g₇)).grow (Grow.push _ _)
  have X8 := C'.wl.mono M8.F.keep
  refine acc_set_slice (lo := i) (ws := #[]) X8.X (le_push _ _ _ _ hx7) (by (first | lia | omega)) (Heap.IsSliceOf.new ..) pl (bounds_from i vs'.size (by (first | lia | omega))) (by (first | lia | omega)) ⟨_, le_push _ _ _ _ hl7, rfl, _, rfl⟩ hlx (by simp) fun h9 n9 e9 sb9 => ?_
  dsimp only
  have ws9 : WS o W' h9 room lines (cur.take i) := M8.ws.setX M8.nd hxW sb9 e9 (by
    obtain ⟨vs8, n8, hx8, r8⟩ := M8.ws.x
    rw [show vs8 = vs' by
      have := le_push h7 { cls := .type "slice", data := .fields #[vl, .none, .none] } _ _ hx7
      rw [this] at hx8; cases hx8; rfl] at r8
    rw [Array.append_empty, Array.toList_extract, List.extract_eq_take_drop, List.drop_zero, Nat.sub_zero, List.map_take]
    exact r8.take i)
  have M9 : Fm o hb W' _ _ s { heap := h9, gens := gg7, drawn := d7, toks := t7, os := os7 } room lines (cur.take i) := M8.step (.same (by simp) sb9) ws9
  -- return popped
  refine wpAny_execs_cons (wpAny_Return_some (nm_loc M9.F (d := .list ((cur.drop i).map encP)) (by kernel_rfl) fun u ru => ?_))
  exact q _ _ M9.chg (M9.ws.back inW) (ru.mono (back_le inW))
end
end Mine
end

section
open PySem PySem.W PySem.Calls PySem.Spec PyProof.Rows PyProof.Rows.LCg
set_option Elab.async false
set_option maxRecDepth 100000
set_option maxHeartbeats 2000000
set_option linter.unusedVariables false
namespace Mine
theorem fillite8 : (fun (_ : Params → Frag) => True) hd.heap_39 ∧ PySem.Challenge.rw_xp0030_01.prog = PySem.Challenge.rw_xp0030_01.prog := by
  k_fill
  exact ⟨trivial, rfl⟩
section
variable {prog : Program} {w : World} {A : Around} {E : Value → Shared → Prop} {hb : Heap} {W : List Addr} {o : Ob} {room : Int} {lines : List Str} {cur ps : List (Str × Str)} {s s₀ : Shared} {Q : Value → Shared → Prop} {env : Env} {ρ : Ro} {D U : Nat}

/-- self[:] = startval; self._initial_size = 0 -/
theorem reset_tail {p1 p2 p3 p4 p5 p6 p7 p8 p9 : Pos} {R : Flow → Shared → Prop} {E' : Value → Shared → Prop} (M : Fm o hb W env ρ s₀ s room lines cur) (C : Cx (hd.heap_39 w.params) A D U hb) (hz : cur.length ≤ 900) (hp : ps.length ≤ 900)
    (h1 : ρ "self" = some (rawD o.x)) (h2 : ρ "startval" = some (.list (ps.map encP))) (k1 : env.kindOf "self" = some .local) (k2 : env.kindOf "startval" = some .local)
    (q : ∀ s', Fm o hb W env ρ s₀ s' room lines ps → R .next s') (hs1 : swapsWith (.Name "startval" p3) (some (.Subscript (.Name "self" p1) (.Slice none none none p2) p4)) p5.line env = pure false) (hs2 : swapsWith (.Constant (.int 0) 0 p8) (some (.Attribute (.Name "self" p6) "_initial_size" p7)) p9.line env = pure false) :
    wpAny (model prog w) A (execs [.Assign [.Subscript (.Name "self" p1) (.Slice none none none p2) p4] (.Name "startval" p3) p5, .Assign [.Attribute (.Name "self" p6) "_initial_size" p7] (.Constant (.int 0) 0 p8) p9] env) R E' s := by
  have X := C.wl.mono M.F.keep
  obtain ⟨vs, n, hx, r⟩ := M.ws.x
  have hlen := r.length
  rw [List.length_map, Array.length_toList] at hlen
  have hxW := (M.off o.x (by simp)).1
  have hdW := (M.off o.dx (by simp)).1
  refine wpAny_execs_cons (wpAny_Assign_Subscript (nm_loc M.F h2 (fun u ru => nm_raw (a := o.x) M.F h1 (wpAny_Slice (EvP.none (h := s.heap) s _ _ le_rfl fun vl s₆ g₆ pl => EvP.none (h := s₆.heap) s₆ _ _ le_rfl fun vu s₇ g₇ pu => wpAny_pure ?_)) k1) k2) hs1)
  cases pl; cases pu
  have M7 := M.grow (g₆.trans g₇)
  have ru7 := ru.mono (hide_le_of (g₆.trans g₇).heap)
  have hx7 := (g₆.trans g₇).heap _ _ hx
  obtain ⟨h7, gg7, d7, t7, os7⟩ := s₇
  have M8 : Fm o hb W env ρ s₀ { heap := h7.push { cls := .type "slice", data := .fields #[.none, .none, .none] }, gens := gg7, drawn := d7, toks := t7, os := os7 } room lines cur := M7.grow (Grow.push _ _)
  have ru8 := ru7.mono (hide_le_of (le_push h7 { cls := .type "slice", data := .fields #[.none, .none, .none] }))
  have X8 := C.wl.mono M8.F.keep
  generalize hu : ps.map encP = dl at ru8
  cases ru8 with
  | list e c dd sq rr =>
    rename_i la lo lv ln
    subst hu
    obtain ⟨e1, e2⟩ := hide_get e
    have hll := rr.length
    rw [List.length_map, Array.length_toList] at hll
    refine acc_set_slice (lo := 0) (ws := lv) X8.X (le_push _ _ _ _ hx7) (by (first | lia | omega)) (Heap.IsSliceOf.new ..) .none (bounds_all vs.size) (by (first | lia | omega)) ⟨lo, e1, c, ln, sq⟩ (fun z => e2 (z ▸ hxW)) (by (first | lia | omega)) fun h9 n9 e9 sb9 => ?_
    dsimp only
    have ws9 : WS o W h9 room lines ps := M8.ws.setX M8.nd hxW sb9 e9 (by
      have : (vs.extract 0 0 ++ lv).toList = lv.toList := by simp
      rw [this]; exact rr)
    have M9 : Fm o hb W env ρ s₀ { heap := h9, gens := gg7, drawn := d7, toks := t7, os := os7 } room lines ps := M8.step (.same (by simp) sb9) ws9
    have X9 := C.wl.mono M9.F.keep
    obtain ⟨kd, g1, t0, u0, hdx⟩ := M9.ws.dx
    refine wpAny_execs_cons (plainObj_wpAny_Assign_Attribute (wpAny_Constant_int (nm_raw (a := o.x) (M9.grow (Grow.tok _ _)).F h1 ?_ k1)) hs2)
    refine acc_setAttr X9.X e9 hdx (by kernel_rfl) (by simp) (by k_is) fun h10 e10 sb10 => ?_
    dsimp only
    have ws10 : WS o W h10 room lines ps := M9.ws.setD M9.nd hdW sb10 (h1 := g1) (t := t0) (k0 := kd) (u := t7) (by exact e10)
    exact wpAny_execs_nil (q _ (M9.step (.same (by simp) sb10) ws10))

set_option maxHeartbeats 4000000 in
theorem reset1_m {u : Value} (m : Md (hd.heap_39 w.params) A 2 40 hb W o s.heap room lines cur) (hz : cur.length ≤ 900) (hp : ps.length ≤ 900) (ru : Rp (hideAll s.heap W) u (.list (ps.map encP)))
    (q : ∀ s', Chg o.all s s' → WS o W s'.heap room lines ps → Q .none s') : wpAny (model prog w) A (PySem.call (.ref 167) [.ref o.x, u]) Q E s := by
  k_dflt (refine' enter_m (D := 1) (U := 37) ["self", "startval"] (ds := [rawD o.x, .list (ps.map encP)]) m (.cons (.raw _) (.cons ru .nil)) ?ho ?hcd ?hbind rfl ?k1 ?k2 ?k3 ?k4 ?h ?c1 ?c2 ?c3)
  case ho => k_is
  case hcd => k_is
  case hbind => exact fun X => BindsTo.of_defaults rfl (X _ _ (by k_is)) rfl (by rfl) (by rfl)
  case k1 => decide
  case k2 => decide
  case k3 => decide
  case k4 => decide
  case c1 => rfl
  case c2 => rfl
  case c3 => rfl
  intro A' L W' s₁ E' C' M inW _ _
  refine wpAny_execs_cons (wpAny_If (wpAny_isTrue_Compare1 (nm_loc M.F (d := .list (ps.map encP)) (by kernel_rfl) fun u ru => wpAny_Constant_none ?_) (by kernel_rfl)))
  have key : compareOp .Is u .none = pure (.bool false) ∨ True := .inr trivial
  generalize hu : ps.map encP = dl at ru
  cases ru with
  | list e c dd sq rr =>
    refine wpAny_is_plain rfl (wpAny_truthy_bool ?_)
    simp only [show ((Value.ref _ == Value.none) : Bool) = false from rfl, Bool.false_eq_true, if_false]
    refine wpAny_execs_nil ?_
    exact reset_tail M C' hz hp (by kernel_rfl) (by kernel_rfl) (by kernel_rfl) (by kernel_rfl) (fun s' M' => q s' M'.chg (M'.ws.back inW)) (by kernel_rfl) (by kernel_rfl)

set_option maxHeartbeats 4000000 in
theorem reset0_m (m : Md (hd.heap_39 w.params) A 2 40 hb W o s.heap room lines cur) (hz : cur.length ≤ 900)
    (q : ∀ s', Chg o.all s s' → WS o W s'.heap room lines [] → Q .none s') : wpAny (model prog w) A (PySem.call (.ref 167) [.ref o.x]) Q E s := by
  k_dflt (refine' enter_m (D := 1) (U := 37) ["self", "startval"] (ds := [rawD o.x, .none]) m (.cons (.raw _) (.cons .none .nil)) ?ho ?hcd ?hbind rfl ?k1 ?k2 ?k3 ?k4 ?h ?c1 ?c2 ?c3)
  case ho => k_is
  case hcd => k_is
  case hbind => exact fun X => BindsTo.of_defaults rfl (X _ _ (by k_is)) rfl (by rfl) (by rfl)
  case k1 => decide
  case k2 => decide
  case k3 => decide
  case k4 => decide
  case c1 => rfl
  case c2 => rfl
  case c3 => rfl
  intro A' L W' s₁ E' C' M inW _ _
  refine wpAny_execs_cons (wpAny_If (wpAny_isTrue_Compare1 (nm_loc M.F (d := .none) (by kernel_rfl) fun u ru => wpAny_Constant_none ?_) (by kernel_rfl)))
  cases ru
  refine wpAny_is_plain rfl (wpAny_truthy_bool ?_)
  simp only [show ((Value.none == Value.none) : Bool) = true from rfl, if_true]
  refine wpAny_execs_cons (wpAny_Assign_Name (Ev.run (d := .list []) (Ev.lst M.F.th evs_nil (by simp)) le_rfl fun v s₂ g r => (M.grow g).set r fun s₃ M3 => wpAny_execs_nil ?_) (by kernel_rfl))
  exact reset_tail (ps := []) M3 C' hz (by simp) (by kernel_rfl) (by kernel_rfl) (by kernel_rfl) (by kernel_rfl) (fun s' M' => q s' M'.chg (M'.ws.back inW)) (by kernel_rfl) (by kernel_rfl)
end
end Mine
end

section
open PySem PySem.W PySem.Calls PySem.Spec PyProof.Rows PyProof.Rows.LCg
set_option Elab.async false
set_option maxRecDepth 100000
set_option maxHeartbeats 2000000
set_option linter.unusedVariables false
namespace Mine
theorem fillite9 : (fun (_ : Params → Frag) => True) hd.heap_39 ∧ PySem.Challenge.rw_xp0030_01.prog = PySem.Challenge.rw_xp0030_01.prog := by
  k_fill
  exact ⟨trivial, rfl⟩

/-! ## generator expressions over the accumulator -/
noncomputable def Tup (h : Heap) (vs : List Value) (cur : List (Str × Str)) : Prop := ∀ (j : Nat) p, cur[j]? = some p → ∃ T t u, vs[j]? = some (.ref T) ∧ h.IsTuple T #[.str p.1 t, .str p.2 u]
noncomputable def taddr (vs : List Value) : List Addr := vs.filterMap fun v => match v with | .ref a => some a | _ => none
theorem taddr_mem {vs : List Value} {j : Nat} {T : Addr} (h : vs[j]? = some (.ref T)) : T ∈ taddr vs := List.mem_filterMap.mpr ⟨.ref T, List.mem_of_getElem? h, rfl⟩
theorem Tup.at {h h' : Heap} {vs : List Value} {cur : List (Str × Str)} (x : Tup h vs cur) (k : ∀ b ∈ taddr vs, ∀ o, h.get? b = some o → h'.get? b = some o) : Tup h' vs cur := fun j p e => by
  obtain ⟨T, t, u, e1, o, e2, r⟩ := x j p e
  exact ⟨T, t, u, e1, o, k _ (taddr_mem e1) _ e2, r⟩
theorem tup_of {g h : Heap} (k : Le g h) {vs : List Value} {cur : List (Str × Str)} (r : RpL g vs (cur.map encP)) : Tup h vs cur := fun j p e => by
  obtain ⟨v, hv, rv⟩ := r.get (i := j) (d := encP p) (by rw [List.getElem?_map, e]; rfl)
  cases rv with
  | tuple e1 c dd sq rr =>
    rename_i a ob xs n
    generalize hxs : xs.toList = ys at rr
    cases rr with
    | cons r1 rr =>
      cases r1
      cases rr with
      | cons r2 rr =>
        cases r2; cases rr
        rename_i t1 t2
        refine ⟨a, t1, t2, hv, ob, k _ _ e1, c, n, ?_⟩
        rw [sq]
        congr 1
        apply Array.toList_inj.mp
        rw [hxs]
theorem taddr_lt {h : Heap} {g : Heap} (k : Le g h) {vs : List Value} {cur : List (Str × Str)} (r : RpL g vs (cur.map encP)) : ∀ b ∈ taddr vs, b < h.objs.size := fun b hb => by
  obtain ⟨v, hv, e⟩ := List.mem_filterMap.mp hb
  obtain ⟨d, hd, rd⟩ := r.mem v hv
  obtain ⟨p, _, rfl⟩ := List.mem_map.mp hd
  cases rd with
  | tuple e1 c dd sq rr => cases e; exact Heap.lt_size (k _ _ e1)

section
variable {prog : Program} {w : World} {A : Around} {x dx : Addr} {vs : Array Value}
theorem acc_walksU (hh : A.handled = none) (I : Addr) (hne : x ≠ I) {cur : List (Str × Str)} (hl : vs.size = cur.length) :
    WalksU prog w A I (I :: x :: taddr vs.toList) [I] cur.length (fun i vals => ∃ p t u, cur[i]? = some p ∧ vals = #[.str p.1 t, .str p.2 u])
      (fun i h => h.IsListIter I x i ∧ (∃ n, h.get? x = some (accObj dx vs n)) ∧ Tup h vs.toList cur)
      (fun i T h => (h.IsListIter I x (i + 1) ∧ (∃ n, h.get? x = some (accObj dx vs n)) ∧ Tup h vs.toList cur) ∧ T ≠ I) where
  sub := fun b hb => by simp at hb; simp [hb]
  frame := fun i h h' st hk => ⟨st.1.at fun o e => hk I (by simp) o e, let ⟨n, e⟩ := st.2.1; ⟨n, hk x (by simp) _ e⟩, st.2.2.at fun b hb o e => hk b (by simp [hb]) o e⟩
  item := fun i s Q E hi st hQ => by
    obtain ⟨hit, ⟨n, e⟩, tu⟩ := st
    obtain ⟨p, hp⟩ : ∃ p, cur[i]? = some p := ⟨cur[i], List.getElem?_eq_getElem hi⟩
    obtain ⟨T, t, u, hT, hTup⟩ := tu i p hp
    have hTI : T ≠ I := fun q => by
      obtain ⟨o, e1, c1, _⟩ := hTup
      obtain ⟨o', e2, c2, _⟩ := hit
      rw [q, e2] at e1; cases e1
      rw [c1] at c2; exact absurd (Value.type.inj c2) (by decide)
    obtain ⟨hp', g, d, t', os⟩ := s
    refine acc_next (v := .ref T) hit e (by rw [← Array.getElem?_toList]; exact hT) fun h' hit' hs' => ?_
    have up : ∀ b o, b ∉ [I] → hp'.get? b = some o → h'.get? b = some o := fun b o hb e => (hs'.2 b fun h => hb (by simp [h])).trans e
    have upT : ∀ b ∈ taddr vs.toList, b ≠ I := fun b hb => by
      obtain ⟨v, hv, e5⟩ := List.mem_filterMap.mp hb
      obtain ⟨j, hj⟩ := List.mem_iff_getElem?.mp hv
      have hjl : j < cur.length := by
        have : j < vs.toList.length := by
          rcases Nat.lt_or_ge j vs.toList.length with q | q
          · exact q
          · rw [List.getElem?_eq_none q] at hj; cases hj
        rw [Array.length_toList] at this; (first | lia | omega)
      obtain ⟨T', t2, u2, hT', o, e1, c1, _⟩ := tu j cur[j] (List.getElem?_eq_getElem hjl)
      rw [hj] at hT'
      cases hT'
      cases e5
      intro q
      obtain ⟨o', e2, c2, _⟩ := hit
      rw [q, e2] at e1; cases e1
      rw [c1] at c2; exact absurd (Value.type.inj c2) (by decide)
    have hTup' : h'.IsTuple T #[.str p.1 t, .str p.2 u] := let ⟨o, e1, r⟩ := hTup; ⟨o, up _ _ (by simpa using hTI) e1, r⟩
    exact hQ T _ h' t' ⟨p, t, u, hp, rfl⟩ hTup' ⟨⟨hit', ⟨n, up _ _ (by simpa using hne) e⟩, tu.at fun b hb o e => up b o (by simpa using upT b hb) e⟩, hTI⟩ up
  go := fun elts k pos i T s Q E md hQ => wpAny_letOwnedTupleGo_listiter md.1.1 (hQ s.heap md.1 fun _ _ _ e => e)
  apart := fun i T h md q => md.2 (List.mem_singleton.mp q)
  done := fun s Q E st hQ => by
    obtain ⟨hit, ⟨n, e⟩, _⟩ := st
    obtain ⟨hp, g, d, t, os⟩ := s
    refine acc_next_end hh hit e (by rw [Array.getElem?_eq_none]; (first | lia | omega)) fun h' he' => hQ h' t fun b o hb e => he' b o (fun h => hb (by simp [h])) e
  self := fun _ _ _ _ st hQ => wpAny_pyIter_listiter st.1 hQ
end

theorem WS.tab {o : Ob} {W : List Addr} {h h' : Heap} {room : Int} {lines : List Str} {cur : List (Str × Str)} {P : Addr} (x : WS o W h room lines cur) (nd : o.all.Nodup) (hP : P = 147 ∨ P = 154) (hW : P ∈ W) (k : ∀ b ob, b ≠ P → h.get? b = some ob → h'.get? b = some ob)
    (e : ∃ ps, h'.get? P = some { cls := .none, data := .fields ps } ∧ TriplesOk ps.toList) : WS o W h' room lines cur := by
  have v : Le (hideAll h W) (hideAll h' W) := hide_mono (fun _ x => x) fun b ob hb e => k b ob (fun q => hb (q ▸ hW)) e
  obtain ⟨⟨_, _, _, _, a1, a2⟩, ⟨_, _, _, a3, a4⟩, ⟨_, _, a5, a6⟩, ⟨_, a7, a8⟩, ⟨a9, a10⟩⟩ := Ob.ne nd
  rcases hP with rfl | rfl
  · exact { z := k _ _ a1 x.z
            dz := x.dz.imp fun _ q => q.imp fun _ q => ⟨k _ _ a3 q.1, q.2⟩
            x := x.x.imp fun _ q => q.imp fun _ q => ⟨k _ _ a5 q.1, q.2.mono v⟩
            dx := x.dx.imp fun _ q => q.imp fun _ q => q.imp fun _ q => q.imp fun _ q => k _ _ a7 q
            l := x.l.imp fun _ q => q.imp fun _ q => ⟨k _ _ a9 q.1, q.2.mono v⟩
            t1 := e
            t2 := x.t2.imp fun _ q => ⟨k _ _ (by decide) q.1, q.2⟩ }
  · exact { z := k _ _ a2 x.z
            dz := x.dz.imp fun _ q => q.imp fun _ q => ⟨k _ _ a4 q.1, q.2⟩
            x := x.x.imp fun _ q => q.imp fun _ q => ⟨k _ _ a6 q.1, q.2.mono v⟩
            dx := x.dx.imp fun _ q => q.imp fun _ q => q.imp fun _ q => q.imp fun _ q => k _ _ a8 q
            l := x.l.imp fun _ q => q.imp fun _ q => ⟨k _ _ a10 q.1, q.2.mono v⟩
            t1 := x.t1.imp fun _ q => ⟨k _ _ (by decide) q.1, q.2⟩
            t2 := e }

/-- a code object with its table of places -/
theorem gen_code {M : Model} {A : Around} {E : Value → Shared → Prop} {s : Shared} {env : Env} {c P : Addr} {pos : Pos} {qn : Str} {scope : Scope} {Q : Value → Shared → Prop} (hc : env.code = .ref c)
    (ho : ∃ o vs file tf flags tg inF text tt, s.heap.get? c = some o ∧ o.cls = .type "code" ∧ o.data = .fields vs ∧ vs[11]? = some (.ref P) ∧ vs.getD 18 .none = .str file tf ∧ vs.getD 7 .none = .int flags tg ∧ vs.getD 9 .none = .bool inF ∧ vs.getD 10 .none = .int text tt) (hne : c ≠ P)
    (ht : ∃ ps, s.heap.get? P = some { cls := .none, data := .fields ps } ∧ TriplesOk ps.toList)
    (q : ∀ v h' tk, (∀ b ob, b ≠ P → s.heap.get? b = some ob → h'.get? b = some ob) → (∃ ps, h'.get? P = some { cls := .none, data := .fields ps } ∧ TriplesOk ps.toList) → s.heap.objs.size ≤ h'.objs.size → Q v { s with heap := h', toks := tk }) :
    wpAny M A (genexprCode env pos qn scope) Q E s := by
  obtain ⟨o, vs, file, tf, flags, tg, inF, text, tt, e, hcls, hd, h11, h18, h7, h9, h10⟩ := ho
  obtain ⟨ps, ep, tr⟩ := ht
  have h11' : vs.getD 11 .none = .ref P := by
    rw [Array.getD_eq_getD_getElem?, h11]; rfl
  have ok : s.heap.IsCode c P ps := ⟨o, vs, file, tf, flags, tg, inF, text, tt, _, e, hd, h11', h18, h7, h9, h10, ep, rfl, tr, hne⟩
  cases hf : codeAmong pos ps.toList with
  | some c' => exact wpAny_genexprCode_hit hc ok hf (q c' s.heap s.toks (fun _ _ _ e => e) ⟨ps, ep, tr⟩ (Nat.le_refl _))
  | none =>
    refine wpAny_genexprCodeX hc ok ⟨⟨o, vs, e, hcls, hd, h11⟩, ep⟩ hf fun c' h' tk hx hge hlt hcode _ htab _ => ?_
    obtain ⟨_, _, _, _, _, _, _, _, _, op, _, _, _, _, _, _, _, hop, hpd, tr', _⟩ := hcode
    exact q _ h' tk (fun b ob hb e => hx b ob hb e) ⟨_, htab.2, tr'⟩ (Nat.le_trans hge (Nat.le_of_lt hlt))
end Mine
end

section
open PySem PySem.W PySem.Calls PySem.Spec PyProof.Rows PyProof.Rows.LCg
set_option Elab.async false
set_option maxRecDepth 100000
set_option maxHeartbeats 2000000
set_option linter.unusedVariables false
namespace Mine
theorem fillite10 : (fun (_ : Params → Frag) => True) hd.heap_39 ∧ PySem.Challenge.rw_xp0030_01.prog = PySem.Challenge.rw_xp0030_01.prog := by
  k_fill
  exact ⟨trivial, rfl⟩
noncomputable abbrev gro (p : Str × Str) : Ro := fun y => if y = "fws" then some (.str p.1) else if y = "part" then some (.str p.2) else none
theorem gnames : ("fws" : Str) ≠ "part" := by decide +kernel
section
variable {prog : Program} {w : World} {A : Around} {E : Value → Shared → Prop} {hb : Heap} {W : List Addr} {o : Ob} {room : Int} {lines : List Str} {cur : List (Str × Str)} {s s₀ : Shared} {Q : Value → Shared → Prop} {env : Env} {ρ : Ro} {D U : Nat}

theorem gen_acc {elt : Expr} {px pa pb pt pos : Pos} {kt : Nat} {scope : Scope} {c P : Addr} (Fe : Nat → Value → Prop) (M : Fm o hb W env ρ s₀ s room lines cur) (C : Cx (hd.heap_39 w.params) A D U hb) (hlc : cur.length ≤ 900)
    (hself : ρ "self" = some (rawD o.x)) (kself : env.kindOf "self" = some .local) (hc : env.code = .ref c) (hP : P = 147 ∨ P = 154)
    (ho : ∃ o vs file tf flags tg inF text tt, hb.get? c = some o ∧ o.cls = .type "code" ∧ o.data = .fields vs ∧ vs[11]? = some (.ref P) ∧ vs.getD 18 .none = .str file tf ∧ vs.getD 7 .none = .int flags tg ∧ vs.getD 9 .none = .bool inF ∧ vs.getD 10 .none = .int text tt)
    (hco : scope.isCoroutine = false) (hclos : closureFor scope env = pure []) (hcell : ∀ y ∈ scope.names, y.2 ≠ .cell) (hnf : ∀ y ∈ scope.names, y.2 ≠ .free) (h0 : scope.names.lookup (".0" : Str) = some NameKind.local)
    (hxa : scope.names.lookup ("fws" : Str) = some .local) (hxb : scope.names.lookup ("part" : Str) = some .local) (hkind : scope.kind = .function)
    (hF : ∀ (A' : Around) (E' : Value → Shared → Prop) i p (s₂ : Shared) L code, A'.handled = none → cur[i]? = some p → Frm hb (genEnv scope [] L code builtinsNs env) [L] [] s₂.heap (gro p) →
      wpAny (model prog w) A' (eval elt (genEnv scope [] L code builtinsNs env)) (fun y s₃ => Fe i y ∧ Keeps s₂ s₃) E' s₂)
    (q : ∀ a s', Fm o hb W env ρ s₀ s' room lines cur → Chg [P] s s' → Gen prog w A (s.heap.objs.size - 1) a cur.length (fun j y => ∃ i, (List.range cur.length)[j]? = some i ∧ Fe i y) s' → Q (.ref a) s')
    (hs : ∀ x, genFold (.Name "self" px) env x = pure x) :
    wpAny (model prog w) A (eval (.GeneratorExp elt [⟨.Tuple [.Name "fws" pa, .Name "part" pb] kt pt, .Name "self" px, [], 0⟩] scope pos) env) Q E s := by
  have hroom : A.depth < recursionLimit := by have := C.dp; (first | lia | omega)
  refine wpAny_GeneratorExp_walksQT C.hh hco hclos hcell h0 hxa hxb gnames hkind hroom (nm_raw (a := o.x) M.F hself ?_ kself) hs
  obtain ⟨vs, n, hx, r⟩ := M.ws.x
  have hlen := r.length
  rw [List.length_map, Array.length_toList] at hlen
  have X := C.wl.mono M.F.keep
  have PO : P ∈ o.all := by rcases hP with rfl | rfl <;> simp
  have PW := (M.off P PO).1
  have Pb := (M.off P PO).2.2.2
  have xW := (M.off o.x (by simp)).1
  have xP : o.x ≠ P := by
    obtain ⟨_, _, ⟨_, _, a5, a6⟩, _⟩ := Ob.ne M.nd
    rcases hP with rfl | rfl
    · exact a5
    · exact a6
  have tP : ∃ ps, s.heap.get? P = some { cls := .none, data := .fields ps } ∧ TriplesOk ps.toList := by
    rcases hP with rfl | rfl
    · exact M.ws.t1
    · exact M.ws.t2
  obtain ⟨ps, eP, tr⟩ := tP
  have tvis : ∀ b ∈ taddr vs.toList, b ∉ W := fun b hb' => by
    obtain ⟨v, hv, e⟩ := List.mem_filterMap.mp hb'
    obtain ⟨d, hd, rd⟩ := r.mem v hv
    obtain ⟨p, _, rfl⟩ := List.mem_map.mp hd
    cases rd with
    | tuple e1 c dd sq rr => cases e; exact (hide_get e1).2
  have tlt : ∀ b ∈ taddr vs.toList, b < s.heap.objs.size := taddr_lt (hide_le W s.heap) r
  have tup0 : Tup s.heap vs.toList cur := tup_of (hide_le W s.heap) r
  have hfree : ∀ a, s.heap.objs.size ≤ a → hb.get? a = none := fun a ha => by
    cases e : hb.get? a with
    | none => rfl
    | some ob => exact absurd (ltA (M.F.keep a ob e)) (by (first | lia | omega))
  obtain ⟨oc, vsc, file, tf, flags, tg, inF, text, tt, ec, hcls, hd11, h11, h18, h7, h9, h10⟩ := ho
  have cP : c ≠ P := fun q => by rw [q, Pb] at ec; cases ec
  have ec' := M.F.keep _ _ ec
  obtain ⟨h, g, d, t, os⟩ := s
  refine acc_pyIter X.X hx ?_
  have hlt : o.x < h.objs.size := Heap.lt_size hx
  have Plt : P < h.objs.size := Heap.lt_size eP
  refine ⟨X.lim.push _, gen_code hc ⟨oc, vsc, file, tf, flags, tg, inF, text, tt, le_push _ _ _ _ ec', hcls, hd11, h11, h18, h7, h9, h10⟩ cP ⟨ps, le_push _ _ _ _ eP, tr⟩ fun code h₃ tk₃ k₃ e₃ sz₃ => ?_⟩
  dsimp only at k₃ e₃ sz₃ ⊢
  rw [Heap.size_push] at sz₃
  have k03 : ∀ b ob, b ≠ P → h.get? b = some ob → h₃.get? b = some ob := fun b ob hbP e => k₃ b ob hbP (le_push _ _ _ _ e)
  have kb3 : Le hb h₃ := fun b ob e => k03 b ob (fun q => by rw [q, Pb] at e; cases e) (M.F.keep b ob e)
  have X3 := C.wl.mono kb3
  obtain ⟨mg, mb, Tg, Tb, Tl, Te, bm, ob, b1, b2, b3, b4, b5, b6⟩ := X3.T
  refine wpAny_builtinsFor (by rw [M.F.gl]; exact Tg) b1 b2 b3 b4 b5 b6 ?_
  have eI : h₃.get? h.objs.size = some (itObj o.x 0) := k₃ _ _ (Nat.ne_of_gt Plt) (Heap.get?_push_size _ rfl)
  have hcs : cStatics < h.objs.size := by
    obtain ⟨_, hn, _⟩ := X.lim
    exact hn.lt
  refine ⟨h.objs.size, h.objs.size :: o.x :: taddr vs.toList, [h.objs.size], cur.length, _, _, _, fun _ => true, Fe, rfl, fun A' hA => acc_walksU (dx := o.dx) hA h.objs.size (Nat.ne_of_lt hlt) (vs := vs) (cur := cur) hlen, (fun i vals hv => let ⟨p, t, u, _, e⟩ := hv; ⟨_, _, e⟩),
    ⟨⟨_, eI, rfl, rfl⟩, ⟨n, k03 _ _ xP hx⟩, tup0.at fun b hb' ob e => k03 b ob (fun q => tvis b hb' (q ▸ PW)) e⟩, fun b hb' => ?_, X3.lim, fun hm => ?_, fun href hhref => ?_, fun a h₅ tk gs hgb hag hsz₅ hk₅ Wk hat => ?_⟩
  · rcases List.mem_cons.mp hb' with rfl | hb'
    · exact Nat.lt_of_lt_of_le (Nat.lt_succ_self _) sz₃
    · rcases List.mem_cons.mp hb' with rfl | hb'
      · exact Nat.lt_of_lt_of_le (Nat.lt_succ_of_lt hlt) sz₃
      · exact Nat.lt_of_lt_of_le (Nat.lt_succ_of_lt (tlt b hb')) sz₃
  · exact absurd (List.mem_singleton.mp hm) (Nat.ne_of_lt hcs)
  · -- the element
    refine ⟨fun A' E' i va vb s₂ m₂ _ _ _ _ _ _ => wpAny_pure ⟨rfl, _, _, rfl, fun _ _ e => e⟩, fun A' E' i va vb s₂ m₂ hA hPt _ hn₂ ha hb₂ kp => ?_⟩
    obtain ⟨p, t1, u1, hp, hv⟩ := hPt
    have hva : va = .str p.1 t1 ∧ vb = .str p.2 u1 := by
      have := congrArg Array.toList hv
      simp at this
      exact this
    obtain ⟨rfl, rfl⟩ := hva
    refine hF A' E' i p s₂ _ _ hA hp ⟨hkind, M.F.gl, rfl, fun b ob e => ?_, ⟨m₂, hn₂, fun x d hx hr => ?_, (fun _ _ _ hm => nomatch hm)⟩, (fun _ _ e => nomatch e), (fun _ _ _ hm => nomatch hm), List.mem_singleton.mpr rfl, (fun _ _ e => nomatch e), ?_, fun x hx => ?_, fun a ha => ?_⟩
    · have eh := M.F.keep b ob e
      have hbl := ltA eh
      exact kp b (List.mem_range.mpr (Nat.lt_of_lt_of_le (Nat.lt_succ_of_lt hbl) sz₃)) (fun q => absurd (List.mem_singleton.mp q) (Nat.ne_of_lt hbl)) ob (hhref b ob (kb3 b ob e))
    · by_cases q1 : x = "fws"
      · subst q1
        simp only [gro, if_true, Option.some.injEq] at hr
        subst hr
        exact ⟨_, ha, .str ..⟩
      · by_cases q2 : x = "part"
        · subst q2
          simp only [gro, q1, if_false, if_true, Option.some.injEq] at hr
          subst hr
          exact ⟨_, hb₂, .str ..⟩
        · simp [gro, q1, q2] at hr
    · exact hfree _ (Nat.le_of_lt (Nat.lt_of_lt_of_le (Nat.lt_succ_self _) sz₃))
    · exfalso
      rcases hx with hx | hx
      · exact hcell _ (mem_of_lookup hx) rfl
      · exact hnf _ (mem_of_lookup hx) rfl
    · rw [List.mem_singleton.mp ha]
      obtain ⟨ob, _, _, e, _⟩ := hn₂
      exact ⟨ob, e⟩
  · have hpass : passing (fun _ => true) cur.length 0 = List.range cur.length := by
      unfold passing
      rw [List.drop_zero, List.filter_eq_self.mpr (fun _ _ => rfl)]
    rw [hpass, List.length_range] at Wk
    have kall : ∀ b ob', b ≠ P → h.get? b = some ob' → h₅.get? b = some ob' := fun b ob' hbP e => hk₅ _ _ (k03 b ob' hbP e)
    have chg : Chg [P] (⟨h, g, d, t, os⟩ : Shared) { heap := h₅, gens := g.push gs, drawn := d, toks := tk, os := os } := ⟨fun b ob' hb' e => kall b ob' (fun q => hb' (by simp [q])) e, rfl, fun G => G.push hgb⟩
    have e₅ : ∃ ps, h₅.get? P = some { cls := .none, data := .fields ps } ∧ TriplesOk ps.toList := let ⟨ps', ep', tr'⟩ := e₃; ⟨ps', hk₅ _ _ ep', tr'⟩
    have ws5 : WS o W h₅ room lines cur := M.ws.tab M.nd hP PW kall e₅
    refine q a _ (M.step (chg.mono fun b hb' => by rw [List.mem_singleton.mp hb']; exact PO) ws5) chg ⟨_, _, _, _, Wk, hat, (fun i s' st => st.1.typeIs), List.mem_cons_self, fun b hb' => ?_, fun b hb' => ?_⟩
    · show b < h₅.objs.size
      rw [hsz₅]
      rcases List.mem_cons.mp hb' with rfl | hb'
      · exact Nat.lt_succ_self _
      · rcases List.mem_cons.mp hb' with rfl | hb'
        · exact Nat.lt_succ_of_lt hag
        · exact Nat.lt_succ_of_lt (Nat.lt_trans (List.mem_range.mp hb') hag)
    · have hpos : 0 < h.objs.size := Nat.lt_of_le_of_lt (Nat.zero_le _) hlt
      show h.objs.size - 1 < b
      rcases List.mem_cons.mp hb' with rfl | hb'
      · exact Nat.lt_of_lt_of_le (Nat.sub_lt hpos Nat.one_pos) (Nat.le_of_lt (Nat.lt_of_lt_of_le (Nat.lt_succ_self _) sz₃))
      · rw [List.mem_singleton.mp hb']; exact Nat.sub_lt hpos Nat.one_pos
end
end Mine
end

section
open PySem PySem.W PySem.Calls PySem.Spec PyProof.Rows PyProof.Rows.LCg
set_option Elab.async false
set_option maxRecDepth 100000
set_option maxHeartbeats 2000000
set_option linter.unusedVariables false
namespace Mine
theorem fillite11 : (fun (_ : Params → Frag) => True) hd.heap_39 ∧ PySem.Challenge.rw_xp0030_01.prog = PySem.Challenge.rw_xp0030_01.prog := by
  k_fill
  exact ⟨trivial, rfl⟩
theorem args_sum2 (a b : Value) : argsOk "sum" ⟨[a, b], []⟩ := by unfold argsOk; kernel_rfl
theorem gen_tok {prog : Program} {w : World} {A : Around} {K a : Addr} {n : Nat} {F : Nat → Value → Prop} {s : Shared} {tk : Nat} (X : Gen prog w A K a n F s) (h : s.toks ≤ tk) : Gen prog w A K a n F { s with toks := tk } :=
  let ⟨fp, wr, g, St, W, h1, h2, h3, h4, h5⟩ := X; ⟨fp, wr, g, St, W, W.frame 0 s s.heap tk h1 h (fun _ _ _ e => e), h2, h3, h4, h5⟩
theorem gro_a (p : Str × Str) : gro p "fws" = some (.str p.1) := by simp [gro]
theorem gro_b (p : Str × Str) : gro p "part" = some (.str p.2) := by
  have : ("part" : Str) ≠ "fws" := Ne.symm gnames
  simp [gro, this]
theorem rng {n j i : Nat} (h : (List.range n)[j]? = some i) : i = j := by
  rcases Nat.lt_or_ge j n with q | q
  · rw [List.getElem?_range q] at h; exact (Option.some.inj h).symm
  · rw [List.getElem?_eq_none (by simpa using q)] at h; cases h

section
variable {prog : Program} {w : World} {A : Around} {E : Value → Shared → Prop} {s : Shared}
theorem sum2_gen {K a : Addr} {n : Nat} {F : Nat → Value → Prop} {u : Tok} {Q : Value → Shared → Prop} (X : Gen prog w A K a n F s) (val : Nat → Int) (hval : ∀ j v, F j v → ∃ t, v = .int (val j) t) (hfit : ∀ j, j < n → InLong (val j) ∧ InLong (preSum val (j + 1)))
    (hQ : ∀ s' t', (AllBare s.gens → AllBare s'.gens) → s'.os = s.os → (∀ b o, b ≤ K → s.heap.get? b = some o → s'.heap.get? b = some o) → Q (.int (preSum val n) t') s') : wpAny (model prog w) A (PySem.call (.builtin "sum") [.ref a, .int 0 u]) Q E s := by
  obtain ⟨fp, wr, g, St, W, hst, _, _, hfp, hwr⟩ := X
  have W := W.in4_1
  refine call_function_tree PySem.F.kind_sum PySem.F.plain_sum PySem.F.entry_sum (args_sum2 _ _) ?_
  unfold Builtin.«sum»
  simp only [List.length_cons, List.length_nil]
  rw [if_neg (by decide)]
  refine wpAny_bind (wpAny_of_eq (show Builtin.Builtins.bindParams "sum" ["start"] 0 { pos := [.int 0 u] } = pure [some (.int 0 u)] from rfl) ?_)
  refine wpAny_bind (W.self 0 _ _ _ hst ?_)
  refine wpAny_bind (wpAny_rule ?_)
  refine wpAny_bind (wpAny_mkInt ?_)
  refine wpAny_bind (wpAny_pure ?_)
  simp only [List.forIn_cons, List.forIn_nil]
  refine wpAny_bind (wpAny_bind (wpAny_bind (wpAny_isInstance (T := "int") (b := false) (typeIs_int _ _ _) PySem.sub_int_str ?_)))
  simp only [Bool.false_eq_true, if_false]
  refine wpAny_pure (wpAny_bind (wpAny_bind (wpAny_isInstance (T := "int") (b := false) (typeIs_int _ _ _) PySem.sub_int_bytes ?_)))
  simp only [Bool.false_eq_true, if_false]
  refine wpAny_pure (wpAny_bind (wpAny_bind (wpAny_isInstance (T := "int") (b := false) (typeIs_int _ _ _) PySem.sub_int_bytearray ?_)))
  simp only [Bool.false_eq_true, if_false]
  refine wpAny_pure (wpAny_pure ?_)
  refine wpAny_bind (wpAny_newObj_type ?_)
  have hSf : s.heap.objs.size ∉ fp := fun hm => Nat.lt_irrefl _ (hfp _ hm)
  refine wpAny_pure ⟨plainId_quiet PySem.F.plain_sum_loop _, codeAny_sum_loopS W val hval hfit s.heap.objs.size hSf n 0 _ s.toks 0 rfl (Nat.zero_le _)
    (W.frame 0 s _ _ hst (by first | exact Nat.le_refl _ | exact Nat.le_succ _ | (first | lia | omega)) fun b _ o e => Heap.get?_push_of_some _ e) (Heap.get?_push_size _ rfl) fun s' t' hm => ?_⟩
  have hm' : Moved wr (GenOnlyQ g) s s' := hm.drop_new (by first | exact Nat.le_refl _ | exact Nat.le_succ _ | (first | lia | omega))
  exact hQ s' t' (fun G => G.movedS hm') hm'.os fun b o hb e => hm'.heap b o (fun hmem => Nat.lt_irrefl _ (Nat.lt_of_lt_of_le (hwr b hmem) hb)) e
end

noncomputable def lenAt (cur : List (Str × Str)) (i : Nat) : Int := (((cur.getD i ("", "")).1.length + (cur.getD i ("", "")).2.length : Nat) : Int)
noncomputable def lenOf (cur : List (Str × Str)) : Nat := (cur.map fun p => p.1.length + p.2.length).sum
theorem preSum_lenAt (cur : List (Str × Str)) : ∀ n, n ≤ cur.length → preSum (lenAt cur) n = (((cur.take n).map fun p => p.1.length + p.2.length).sum : Nat)
  | 0, _ => rfl
  | n + 1, h => by
    rw [preSum, preSum_lenAt cur n (by (first | lia | omega)), List.take_add_one, List.getElem?_eq_getElem (by (first | lia | omega)), List.map_append, List.sum_append]
    simp only [lenAt, List.getD_eq_getElem?_getD, List.getElem?_eq_getElem (show n < cur.length by (first | lia | omega)), Option.getD_some, Option.toList_some, List.map_cons, List.map_nil, List.sum_cons, List.sum_nil, Nat.add_zero, Int.natCast_add]
theorem sum_le (f : Str × Str → Nat) (B : Nat) : ∀ l : List (Str × Str), (∀ p ∈ l, f p ≤ B) → (l.map f).sum ≤ l.length * B
  | [], _ => by simp
  | a :: l, h => by
    rw [List.map_cons, List.sum_cons, List.length_cons, Nat.succ_mul]
    have := h a (List.mem_cons_self ..)
    have := sum_le f B l fun p hp => h p (List.mem_cons_of_mem _ hp)
    (first | lia | omega)

section
variable {prog : Program} {w : World} {A : Around} {E : Value → Shared → Prop} {hb : Heap} {W : List Addr} {o : Ob} {room : Int} {lines : List Str} {cur : List (Str × Str)} {s : Shared} {Q : Value → Shared → Prop}
set_option maxHeartbeats 4000000 in
theorem len_m (m : Md (hd.heap_39 w.params) A 4 60 hb W o s.heap room lines cur) (hz : cur.length ≤ 900) (hs : ∀ p ∈ cur, p.1.length ≤ 1000 ∧ p.2.length ≤ 1000)
    (q : ∀ t s', Chg o.all s s' → WS o W s'.heap room lines cur → Q (.int (lenOf cur : Nat) t) s') : wpAny (model prog w) A (PySem.call (.ref 152) [.ref o.x]) Q E s := by
  k_dflt (refine' enter_m (D := 3) (U := 57) ["self"] (ds := [rawD o.x]) m (.cons (.raw _) .nil) ?ho ?hcd ?hbind rfl ?k1 ?k2 ?k3 ?k4 ?h ?c1 ?c2 ?c3)
  case ho => k_is
  case hcd => k_is
  case hbind => exact fun _ => BindsTo.of_eq (by kernel_rfl)
  case k1 => decide
  case k2 => decide
  case k3 => decide
  case k4 => decide
  case c1 => rfl
  case c2 => rfl
  case c3 => rfl
  intro A' L W' s₁ E' C' M inW g01 _
  refine wpAny_execs_cons (wpAny_Return_some (wpAny_Call_NameR (name_boot M.F C'.wl le_rfl (by kernel_rfl) (by k_is) (by boot_by_name) ?_)))
  refine PyProof.Rows.callWith_builtin1 (spliced_cons ?_) (by kernel_rfl) (by kernel_rfl)
  refine gen_acc (fun i y => ∃ t, y = .int (lenAt cur i) t) M C' hz (by kernel_rfl) (by kernel_rfl) rfl (.inl rfl) ?ho (by rfl) (by rfl) (by decide) (by decide) (by kernel_rfl) (by kernel_rfl) (by kernel_rfl) rfl ?hF (fun a s₂ M2 c2 G => ?_) (by intro _; kernel_rfl)
  case ho => exact ⟨_, _, _, _, _, _, _, _, _, C'.wl.X 151 _ (by k_is), rfl, rfl, rfl, rfl, rfl, rfl, rfl⟩
  case hF =>
    intro A2 E2 i p s₂ L2 code hA hp F
    have hpm := List.mem_of_getElem? hp
    have hlp := hs p hpm
    refine wpAny_BinOp (wpAny_Call_NameR (name_boot F C'.wl le_rfl (by kernel_rfl) (by k_is) (by boot_by_name) ?_))
    refine PyProof.Rows.callWith_builtin1 (spliced_cons (nm_loc F (d := .str p.1) (gro_a p) (fun v rv => Calls.spliced_nil ?_))) (by kernel_rfl) (by kernel_rfl)
    cases rv
    refine P.len_str (by (first | lia | omega)) ?_
    refine wpAny_Call_NameR (name_boot F C'.wl le_rfl (by kernel_rfl) (by k_is) (by boot_by_name) ?_)
    refine PyProof.Rows.callWith_builtin1 (spliced_cons (nm_loc F (d := .str p.2) (gro_b p) (fun v rv => Calls.spliced_nil ?_))) (by kernel_rfl) (by kernel_rfl)
    cases rv
    refine P.len_str (by (first | lia | omega)) (add_int ?_)
    have e : lenAt cur i = (p.1.length : Int) + (p.2.length : Int) := by
      simp only [lenAt, List.getD_eq_getElem?_getD, hp, Option.getD_some, Int.natCast_add]
    exact ⟨⟨_, congrArg (fun z => Value.int z _) e.symm⟩, _, _, rfl, fun _ _ e => e⟩
  -- self._initial_size, and the sum
  obtain ⟨vs2, n2, hx2, _⟩ := M2.ws.x
  obtain ⟨kd, h1, t0, u0, hdx⟩ := M2.ws.dx
  have X2 := C'.wl.mono M2.F.keep
  obtain ⟨h2, g, d, t, os⟩ := s₂
  refine spliced_cons (Attribute_Name_ (nm_raw (a := o.x) M2.F (by kernel_rfl) (acc_getBy (v := .int 0 u0) X2.X hx2 (looks_dict hdx (by kernel_rfl)) (by k_is) (by rfl) (Calls.spliced_nil ?_))) (by with_unfolding_all rfl))
  refine sum2_gen (gen_tok G (Nat.le_succ t)) (lenAt cur) (fun j v hv => ?_) (fun j hj => ?_) fun s₃ t₃ g₃ o₃ k₃ => ?_
  · obtain ⟨i, hi, t, rfl⟩ := hv
    rw [rng hi]; exact ⟨t, rfl⟩
  · have h1 : ∀ p ∈ cur.take (j + 1), p.1.length + p.2.length ≤ 2000 := fun p hp => by have := hs p (List.mem_of_mem_take hp); (first | lia | omega)
    have h2 := sum_le (fun p => p.1.length + p.2.length) 2000 (cur.take (j + 1)) h1
    have h3 : (cur.take (j + 1)).length ≤ cur.length := by rw [List.length_take]; exact Nat.min_le_right _ _
    rw [preSum_lenAt cur (j + 1) hj]
    unfold InLong
    refine ⟨⟨?_, ?_⟩, ?_, ?_⟩
    · unfold lenAt; (first | lia | omega)
    · have := hs cur[j] (List.getElem_mem hj)
      simp only [lenAt, List.getD_eq_getElem?_getD, List.getElem?_eq_getElem hj, Option.getD_some]; (first | lia | omega)
    · (first | lia | omega)
    · (first | lia | omega)
  · rw [preSum_lenAt cur cur.length (Nat.le_refl _), List.take_length]
    have hK : ∀ b, b < s₁.heap.objs.size → b ≤ s₁.heap.objs.size - 1 := fun b hb' => Nat.le_sub_one_of_lt hb'
    have kall : ∀ b ob, b ≠ 147 → s₁.heap.get? b = some ob → s₃.heap.get? b = some ob := fun b ob hne e => k₃ b ob (hK b (ltA e)) (c2.heap b ob (by simpa using hne) e)
    obtain ⟨ps1, e1, _⟩ := M.ws.t1
    obtain ⟨ps, e2, tr2⟩ := M2.ws.t1
    have ws3 := (M.ws.tab M.nd (.inl rfl) (M.off 147 (by simp)).1 kall ⟨ps, k₃ _ _ (hK _ (ltA e1)) e2, tr2⟩).back inW
    exact q _ _ ⟨fun b ob hb' e => kall b ob (fun q => hb' (by simp [q])) (g01.heap b ob e), o₃.trans (c2.os.trans g01.os), fun G0 => g₃ (c2.gens (g01.gens G0))⟩ ws3
end
end Mine
end

section
open PySem PySem.W PySem.Calls PySem.Spec PyProof.Rows PyProof.Rows.LCg
set_option Elab.async false
set_option maxRecDepth 100000
set_option maxHeartbeats 2000000
set_option linter.unusedVariables false
namespace Mine
theorem fillite12 : (fun (_ : Params → Frag) => True) hd.heap_39 ∧ PySem.Challenge.rw_xp0030_01.prog = PySem.Challenge.rw_xp0030_01.prog := by
  k_fill
  exact ⟨trivial, rfl⟩
theorem joinOk_of {sep : Str} {ts : List Str} {B : Nat} (hB : ∀ y ∈ ts, y.length ≤ B) (h : ts.length * B + ts.length * sep.length ≤ 16777216) : JoinOk sep ts = true := by
  unfold JoinOk
  rw [StrLaws.joinFits hB h]; rfl
section
variable {prog : Program} {w : World} {A : Around} {E : Value → Shared → Prop} {s : Shared}
theorem join_gen {K a : Addr} {n : Nat} {F : Nat → Value → Prop} {sep : Str} {t : Tok} {Q : Value → Shared → Prop} (X : Gen prog w A K a n F s) (tx : Nat → Str) (htx : ∀ j v, F j v → ∃ u, v = .str (tx j) u) (hok : JoinOk sep ((List.range n).map tx) = true)
    (hQ : ∀ s' t', (AllBare s.gens → AllBare s'.gens) → s'.os = s.os → (∀ b o, b ≤ K → s.heap.get? b = some o → s'.heap.get? b = some o) → Q (.str (Txt.join sep ((List.range n).map tx)) t') s') (hsz : n ≤ 1000) : wpAny (model prog w) A (PySem.call (.builtin "str.join") [.str sep t, .ref a]) Q E s := by
  obtain ⟨fp, wr, g, St, W, hst, hT, ha, hfp, hwr⟩ := X
  have W := W.in4_2
  refine SC.joinGen W hT hst hfp ha (fun j v hv => let ⟨u, e⟩ := htx j v hv; ⟨_, u, e⟩) (fun s' lt hm hacc => ?_) (by rw [sizeLine_eq]; (first | lia | omega))
  have hl : lt.map (·.1) = (List.range n).map tx := by
    apply List.ext_getElem?
    intro j
    have hsz : lt.length = n := by simpa [strValues] using hacc.1
    by_cases hj : j < n
    · have hj' : j < lt.length := hsz ▸ hj
      obtain ⟨u, hv⟩ := htx j _ (hacc.2 j (.str lt[j].1 lt[j].2) (by simp [strValues, List.getElem?_eq_getElem hj']))
      injection hv with h1 _
      simp [List.getElem?_eq_getElem hj', hj, h1]
    · rw [List.getElem?_eq_none (by simpa [hsz] using Nat.le_of_not_lt hj), List.getElem?_eq_none (by simpa using Nat.le_of_not_lt hj)]
  rw [hl]
  exact ⟨hok, fun t' k => hQ { s' with toks := k } t' (fun G => AllBare.movedS (s := s) (s' := s') G hm) hm.os fun b o hb e => hm.heap b o (fun hmem => Nat.lt_irrefl _ (Nat.lt_of_lt_of_le (hwr b hmem) hb)) e⟩
/-- joining a tuple of two texts -/
theorem join_two {a b : Str} {T : Addr} {n : Nat} {t ta tb : Tok} {Q : Value → Shared → Prop} (ht : s.heap.get? T = some { cls := .type "tuple", data := .seq #[.str a ta, .str b tb] n }) (ha : a.length ≤ 1000) (hb : b.length ≤ 1000)
    (hq : ∀ t' k, Q (.str (Txt.join "" [a, b]) t') { s with toks := k }) : wpAny (model prog w) A (PySem.call (.builtin "str.join") [.str "" t, .ref T]) Q E s := by
  have hok : JoinOk "" [a, b] = true := joinOk_of (B := 1000) (by simp [ha, hb]) (by show 2 * 1000 + 2 * ("" : Str).length ≤ 16777216; decide +kernel)
  unfold JoinOk at hok
  rw [Bool.not_eq_true'] at hok
  exact call_meets PySem.F.slot_str_join (typeIs_str _ _ _) PySem.F.entry_str_join (PySem.F.args_str_join_2 _ _) (meets_str_join_tuple "" t T [(a, ta), (b, tb)] hok) ⟨⟨_, n, ht, rfl, rfl⟩, post_join [(a, ta), (b, tb)] ⟨joinFit_length hok, hq⟩⟩
end
noncomputable def pairTxt (p : Str × Str) : Str := Txt.join "" [p.1, p.2]
noncomputable def strOf (cur : List (Str × Str)) : Str := Txt.join "" (cur.map pairTxt)
theorem txts_eq (cur : List (Str × Str)) : ((List.range cur.length).map fun i => pairTxt (cur.getD i ("", ""))) = cur.map pairTxt := by
  apply List.ext_getElem?
  intro j
  by_cases hj : j < cur.length
  · simp [hj, List.getElem?_eq_getElem hj]
  · rw [List.getElem?_eq_none (by simpa using Nat.le_of_not_lt hj), List.getElem?_eq_none (by simpa using Nat.le_of_not_lt hj)]
theorem pairTxt_len (p : Str × Str) (h1 : p.1.length ≤ 1000) (h2 : p.2.length ≤ 1000) : (pairTxt p).length ≤ 2000 := by
  unfold pairTxt
  have := StrLaws.join_length_le "" [p.1, p.2]
  show (Builtin.Str.glued "" [p.1, p.2]).length ≤ 2000
  rw [StrLaws.glued_eq_join]
  have e : ("" : Str).length = 0 := by decide +kernel
  simp [e] at this
  (first | lia | omega)

section
variable {prog : Program} {w : World} {A : Around} {E : Value → Shared → Prop} {hb : Heap} {W : List Addr} {o : Ob} {room : Int} {lines : List Str} {cur : List (Str × Str)} {s : Shared} {Q : Value → Shared → Prop}
set_option maxHeartbeats 4000000 in
theorem str_m (m : Md (hd.heap_39 w.params) A 4 60 hb W o s.heap room lines cur) (hz : cur.length ≤ 900) (hs : ∀ p ∈ cur, p.1.length ≤ 1000 ∧ p.2.length ≤ 1000)
    (q : ∀ t s', Chg o.all s s' → WS o W s'.heap room lines cur → Q (.str (strOf cur) t) s') : wpAny (model prog w) A (PySem.call (.ref 159) [.ref o.x]) Q E s := by
  k_dflt (refine' enter_m (D := 3) (U := 57) ["self"] (ds := [rawD o.x]) m (.cons (.raw _) .nil) ?ho ?hcd ?hbind rfl ?k1 ?k2 ?k3 ?k4 ?h ?c1 ?c2 ?c3)
  case ho => k_is
  case hcd => k_is
  case hbind => exact fun _ => BindsTo.of_eq (by kernel_rfl)
  case k1 => decide
  case k2 => decide
  case k3 => decide
  case k4 => decide
  case c1 => rfl
  case c2 => rfl
  case c3 => rfl
  intro A' L W' s₁ E' C' M inW g01 _
  refine wpAny_execs_cons (wpAny_Return_some (MethodCall_ (name_glob M.F C'.wl le_rfl (by kernel_rfl) (by k_is) ?_) (by rfl)))
  refine GM.join ?_
  refine callWith_method1 (spliced_cons ?_) (by kernel_rfl) (by kernel_rfl)
  refine gen_acc (fun i y => ∃ t, y = .str (pairTxt (cur.getD i ("", ""))) t) M C' hz (by kernel_rfl) (by kernel_rfl) rfl (.inr rfl) ?ho (by rfl) (by rfl) (by decide) (by decide) (by kernel_rfl) (by kernel_rfl) (by kernel_rfl) rfl ?hF (fun a s₂ M2 c2 G => ?_) (by intro _; kernel_rfl)
  case ho => exact ⟨_, _, _, _, _, _, _, _, _, C'.wl.X 158 _ (by k_is), rfl, rfl, rfl, rfl, rfl, rfl, rfl⟩
  case hF =>
    intro A2 E2 i p s₂ L2 code hA hp F
    have hpm := List.mem_of_getElem? hp
    have hlp := hs p hpm
    refine MethodCall_ (name_glob F C'.wl le_rfl (by kernel_rfl) (by k_is) ?_) (by rfl)
    refine GM.join ?_
    refine callWith_method1 (spliced_cons ?_) (by kernel_rfl) (by kernel_rfl)
    refine Tuple_ (k := 0) (spliced_cons (nm_loc F (d := .str p.1) (gro_a p) (fun v rv => ?_)))
    cases rv
    refine spliced_cons (nm_loc F (d := .str p.2) (gro_b p) (fun v rv => Calls.spliced_nil ?_))
    cases rv
    refine wpAny_newTuple (Calls.spliced_nil ?_) (by rw [sizeLine_eq]; simp)
    refine join_two (Heap.get?_push_size _ rfl) hlp.1 hlp.2 fun t' k => ?_
    have e : cur.getD i ("", "") = p := by rw [List.getD_eq_getElem?_getD, hp]; rfl
    exact ⟨⟨_, by rw [e]; rfl⟩, _, _, rfl, fun _ _ e => le_push _ _ _ _ e⟩
  refine Calls.spliced_nil ?_
  refine join_gen G (fun i => pairTxt (cur.getD i ("", ""))) (fun j v hv => ?_) ?_ (fun s₃ t₃ g₃ o₃ k₃ => ?_) (by (first | lia | omega))
  · obtain ⟨i, hi, t, rfl⟩ := hv
    rw [rng hi]; exact ⟨t, rfl⟩
  · rw [txts_eq]
    refine joinOk_of (B := 2000) (fun y hy => ?_) ?_
    · obtain ⟨p, hp, rfl⟩ := List.mem_map.mp hy
      exact pairTxt_len p (hs p hp).1 (hs p hp).2
    · have e : ("" : Str).length = 0 := by decide +kernel
      rw [List.length_map, e]; (first | lia | omega)
  · rw [txts_eq]
    have hK : ∀ b, b < s₁.heap.objs.size → b ≤ s₁.heap.objs.size - 1 := fun b hb' => Nat.le_sub_one_of_lt hb'
    have kall : ∀ b ob, b ≠ 154 → s₁.heap.get? b = some ob → s₃.heap.get? b = some ob := fun b ob hne e => k₃ b ob (hK b (ltA e)) (c2.heap b ob (by simpa using hne) e)
    obtain ⟨ps1, e1, _⟩ := M.ws.t2
    obtain ⟨ps, e2, tr2⟩ := M2.ws.t2
    have ws3 := (M.ws.tab M.nd (.inr rfl) (M.off 154 (by simp)).1 kall ⟨ps, k₃ _ _ (hK _ (ltA e1)) e2, tr2⟩).back inW
    exact q _ _ ⟨fun b ob hb' e => kall b ob (fun q => hb' (by simp [q])) (g01.heap b ob e), o₃.trans (c2.os.trans g01.os), fun G0 => g₃ (c2.gens (g01.gens G0))⟩ ws3
end
end Mine
end

section
open PySem PySem.W PySem.Calls PySem.Spec PyProof.Rows PyProof.Rows.LCg
set_option Elab.async false
set_option maxRecDepth 100000
set_option maxHeartbeats 2000000
set_option linter.unusedVariables false
namespace Mine
theorem fillite13 : (fun (_ : Params → Frag) => True) hd.heap_39 ∧ PySem.Challenge.rw_xp0030_01.prog = PySem.Challenge.rw_xp0030_01.prog := by
  k_fill
  exact ⟨trivial, rfl⟩
theorem Cx.in1 {K : Frag} {A : Around} {D U : Nat} {hb : Heap} (C : Cx K A D (U + 1) hb) : Cx K A.in1 D U hb := ⟨C.wl, C.hh, C.dp, by have := C.un; show A.units + 1 + U < cLine; (first | lia | omega)⟩
theorem Md.in1 {K : Frag} {A : Around} {D U : Nat} {hb h : Heap} {W : List Addr} {o : Ob} {room : Int} {lines : List Str} {cur : List (Str × Str)} (m : Md K A D (U + 1) hb W o h room lines cur) : Md K A.in1 D U hb W o h room lines cur := ⟨m.cx.in1, m.le, m.th, m.off, m.nd, m.ws⟩
theorem Md.mono {K : Frag} {A : Around} {D U D' U' : Nat} {hb h : Heap} {W : List Addr} {o : Ob} {room : Int} {lines : List Str} {cur : List (Str × Str)} (m : Md K A D U hb W o h room lines cur) (hD : D' ≤ D := by decide) (hU : U' ≤ U := by decide) : Md K A D' U' hb W o h room lines cur := ⟨m.cx.mono le_rfl hD hU, m.le, m.th, m.off, m.nd, m.ws⟩
section
variable {prog : Program} {w : World} {A : Around} {E : Value → Shared → Prop} {hb : Heap} {W : List Addr} {o : Ob} {room : Int} {lines : List Str} {cur : List (Str × Str)} {s : Shared} {Q : Value → Shared → Prop}

theorem acc_inst {h : Heap} {x dx : Addr} {vs : Array Value} {n : Nat} {es : List DictEntry} {k : Nat} (hx : h.get? x = some (accObj dx vs n)) (hd : h.get? dx = some (dictOf es k)) : InstAt h x (accObj dx vs n) 185 (some (dictOf es k)) := ⟨hx, rfl, rfl, hd⟩

/-- len of the accumulator, in the built-in's own frame -/
theorem len_body {R : PySem.Fin → Shared → Prop} {E' : Value → Shared → Prop} (m : Md (hd.heap_39 w.params) A 4 60 hb W o s.heap room lines cur) (hz : cur.length ≤ 900) (hs : ∀ p ∈ cur, p.1.length ≤ 1000 ∧ p.2.length ≤ 1000)
    (q : ∀ t s', Chg o.all s s' → WS o W s'.heap room lines cur → R (.done (.ret (.int (lenOf cur : Nat) t))) s') : wpAny (model prog w) A (Builtin.«len» ⟨[.ref o.x], []⟩) R E' s := by
  obtain ⟨vs, n, hx, r⟩ := m.ws.x
  obtain ⟨kd, h1, t0, u0, hdx⟩ := m.ws.dx
  have X := m.cx.wl.mono m.le
  unfold Builtin.«len»
  refine wpAny_bind (m := oneArg "len" _) (wpAny_pure ?_)
  refine wpAny_bind (m := callSpecial? (.ref o.x) (Str.ofString "__len__")) (special_fn X.X (acc_inst hx hdx) (by k_is) (by k_is) (len_m m hz hs fun t s' c ws => ?_))
  have hl : lenOf cur ≤ cur.length * 2000 := sum_le _ 2000 cur fun p hp => by have := hs p hp; (first | lia | omega)
  refine wpAny_bind (wpAny_holding (wpAny_pure ?_))
  refine wpAny_bind (wpAny_letGo ?_)
  show wpAny _ _ (if ((lenOf cur : Nat) : Int) < 0 then _ else _) _ _ _
  rw [if_neg (by (first | lia | omega))]
  show wpAny _ _ (if ((lenOf cur : Nat) : Int) ≥ 2 ^ 63 then _ else _) _ _ _
  rw [if_neg (by (first | lia | omega))]
  refine wpAny_bind (wpAny_mkInt (wpAny_pure ?_))
  exact q _ _ (c.trans (Grow.tok _ _).chg) ws
theorem len_bi (m : Md (hd.heap_39 w.params) A 4 61 hb W o s.heap room lines cur) (hz : cur.length ≤ 900) (hs : ∀ p ∈ cur, p.1.length ≤ 1000 ∧ p.2.length ≤ 1000)
    (q : ∀ t s', Chg o.all s s' → WS o W s'.heap room lines cur → Q (.int (lenOf cur : Nat) t) s') : wpAny (model prog w) A (PySem.call (.builtin "len") [.ref o.x]) Q E s := by
  refine Calls.call_function_entry _root_.PySem.kind_len _root_.PySem.plain_len _root_.PySem.entry_len (args_len1 _) ?_
  exact len_body m.in1 hz hs fun t s' c ws => ⟨_, rfl, q t s' c ws⟩
theorem truthy_x {Q : Bool → Shared → Prop} (m : Md (hd.heap_39 w.params) A 4 61 hb W o s.heap room lines cur) (hz : cur.length ≤ 900) (hs : ∀ p ∈ cur, p.1.length ≤ 1000 ∧ p.2.length ≤ 1000)
    (q : ∀ s', Chg o.all s s' → WS o W s'.heap room lines cur → Q (decide (lenOf cur ≠ 0)) s') : wpAny (model prog w) A (truthy (.ref o.x)) Q E s := by
  obtain ⟨vs, n, hx, r⟩ := m.ws.x
  obtain ⟨kd, h1, t0, u0, hdx⟩ := m.ws.dx
  have X := m.cx.wl.mono m.le
  have I := acc_inst hx hdx
  unfold truthy
  refine wpAny_bind (m := callSpecial? (.ref o.x) (Str.ofString "__bool__")) (wpAny_bind (wpAny_bind (I.type.here ((looks_findIn X.X (by k_is : findIn (hd.heap_39 w.params) (.ref 185) "__bool__" = some none)).here (wpAny_pure ?_)))))
  refine wpAny_bind (wpAny_bind (I.type.here ((looks_findIn X.X (by k_is : findIn (hd.heap_39 w.params) (.ref 185) "__len__" = some (some (.ref 152)))).here ?_)))
  rw [if_neg (by simp)]
  refine wpAny_bind (wpAny_runValue (codeAny_builtin _root_.PySem.entry_len ?_))
  rw [Around.under_plainId _root_.PySem.plain_len _]
  refine len_body m.in1 hz hs fun t s' c ws => ?_
  have e : (((lenOf cur : Nat) : Int) != 0) = decide (lenOf cur ≠ 0) := by
    rw [Bool.eq_iff_iff]
    simp
  refine wpAny_pure ?_
  rw [e]
  exact q s' c ws
theorem str_b (m : Md (hd.heap_39 w.params) A 4 63 hb W o s.heap room lines cur) (hz : cur.length ≤ 900) (hs : ∀ p ∈ cur, p.1.length ≤ 1000 ∧ p.2.length ≤ 1000)
    (q : ∀ t s', Chg o.all s s' → WS o W s'.heap room lines cur → Q (.str (strOf cur) t) s') : wpAny (model prog w) A (PySem.call (.type "str") [.ref o.x]) Q E s := by
  obtain ⟨vs, n, hx, r⟩ := m.ws.x
  obtain ⟨kd, h1, t0, u0, hdx⟩ := m.ws.dx
  have X := m.cx.wl.mono m.le
  refine kso_call (by have := m.cx.un; show A.units + 1 + 1 < cLine; (first | lia | omega)) X.X (acc_inst hx hdx) (by k_is) (by k_is) ?_
  have m2 : Md (hd.heap_39 w.params) A 4 62 hb W o s.heap room lines cur := m.mono
  exact str_m m2.in1.in1 hz hs fun t s' c ws => q t s' c ws
end
end Mine
end

section
open PySem PySem.W PySem.Calls PySem.Spec PyProof.Rows PyProof.Rows.LCg
set_option Elab.async false
set_option maxRecDepth 100000
set_option maxHeartbeats 2000000
set_option linter.unusedVariables false
namespace Mine
theorem fillite14 : (fun (_ : Params → Frag) => True) hd.heap_39 ∧ PySem.Challenge.rw_xp0030_01.prog = PySem.Challenge.rw_xp0030_01.prog := by
  k_fill
  exact ⟨trivial, rfl⟩
section
variable {prog : Program} {w : World} {A : Around} {E : Value → Shared → Prop} {hb : Heap} {W : List Addr} {o : Ob} {room : Int} {lines : List Str} {cur : List (Str × Str)} {s s₀ : Shared} {Q : Value → Shared → Prop} {env : Env} {ρ : Ro} {D U : Nat}

/-- a read of an attribute of the accumulator -/
theorem rd_ini {x : Str} {px pos : Pos} (M : Fm o hb W env ρ s₀ s room lines cur) (C : Cx (hd.heap_39 w.params) A D U hb) (hr : ρ x = some (rawD o.x)) (q : ∀ u s', Fm o hb W env ρ s₀ s' room lines cur → Grow s s' → Q (.int 0 u) s') (hx : env.kindOf x = some .local := by kernel_rfl)
    (he : eval (.Attribute (.Name x px) "_initial_size" pos) env = (do
      let o ← eval (.Name x px) env
      standAt pos.atName
      let r ← holding [o] (getAttr o "_initial_size" true)
      letTemporaryGo (.Name x px) o r
      pure r) := by with_unfolding_all rfl) (hd : (x == ("__debug__" : Str)) = false := by kernel_rfl) : wpAny (model prog w) A (eval (.Attribute (.Name x px) "_initial_size" pos) env) Q E s := by
  obtain ⟨vs, n, hx', r⟩ := M.ws.x
  obtain ⟨kd, h1, t0, u0, hdx⟩ := M.ws.dx
  have X := C.wl.mono M.F.keep
  obtain ⟨h2, g, d, t, os⟩ := s
  exact Attribute_Name_ (nm_raw (a := o.x) M.F hr (acc_getBy (v := .int 0 u0) X.X hx' (looks_dict hdx (by kernel_rfl)) (by k_is) (by rfl) (q _ _ (M.grow (Grow.tok _ _)) (Grow.tok _ _))) hx hd) he

set_option maxHeartbeats 4000000 in
theorem onlyws_m (m : Md (hd.heap_39 w.params) A 5 70 hb W o s.heap room lines cur) (hz : cur.length ≤ 900) (hs : ∀ p ∈ cur, p.1.length ≤ 1000 ∧ p.2.length ≤ 1000) (hpos : lenOf cur ≠ 0) (hsp : Txt.isspace (strOf cur) = false)
    (q : ∀ s', Chg o.all s s' → WS o W s'.heap room lines cur → Q (.bool false) s') : wpAny (model prog w) A (PySem.call (.ref 174) [.ref o.x]) Q E s := by
  k_dflt (refine' enter_m (D := 4) (U := 67) ["self"] (ds := [rawD o.x]) m (.cons (.raw _) .nil) ?ho ?hcd ?hbind rfl ?k1 ?k2 ?k3 ?k4 ?h ?c1 ?c2 ?c3)
  case ho => k_is
  case hcd => k_is
  case hbind => exact fun _ => BindsTo.of_eq (by kernel_rfl)
  case k1 => decide
  case k2 => decide
  case k3 => decide
  case k4 => decide
  case c1 => rfl
  case c2 => rfl
  case c3 => rfl
  intro A' L W' s₁ E' C' M inW _ _
  refine wpAny_execs_cons (wpAny_Return_some (BoolOp_and (wpAny_Compare1 (rd_ini M C' (by kernel_rfl) fun u s₂ M2 _ => wpAny_Constant_int (eq_int (wpAny_truthy_bool ?_))) (by kernel_rfl))))
  simp only [show ((0 : Int) == 0) = true from rfl, if_true]
  have M3 := M2.grow (Grow.tok s₂ (s₂.toks + 1))
  refine BoolOp_one (BoolOp_or (wpAny_UnaryOp (nm_raw (a := o.x) M3.F (by kernel_rfl) (not_of (truthy_x (M3.md C') hz hs fun s₃ c3 ws3 => wpAny_truthy_bool ?_)))))
  have e : (!decide (lenOf cur ≠ 0)) = false := by simp [hpos]
  rw [e]
  simp only [Bool.false_eq_true, if_false]
  have M4 := M3.step c3 ws3
  refine BoolOp_one (MethodCall_ (wpAny_Call_NameR (name_boot M4.F C'.wl le_rfl (by kernel_rfl) (by k_is) (by boot_by_name) ?_)) (by rfl))
  refine PyProof.Rows.callWith_type1 (spliced_cons (nm_raw (a := o.x) M4.F (by kernel_rfl) (Calls.spliced_nil ?_))) (by kernel_rfl) (by kernel_rfl)
  refine str_b (M4.md C') hz hs fun t s₅ c5 ws5 => ?_
  have M5 := M4.step c5 ws5
  refine GM.isspace ?_
  refine callWith_method0 ?_
  refine SC.isspace ?_
  rw [hsp]
  exact q _ M5.chg (M5.ws.back inW)
end
end Mine
end

section
open PySem PySem.W PySem.Calls PySem.Spec PyProof.Rows PyProof.Rows.LCg
set_option Elab.async false
set_option maxRecDepth 100000
set_option maxHeartbeats 2000000
set_option linter.unusedVariables false
namespace Mine
theorem fillite15 : (fun (_ : Params → Frag) => True) hd.heap_39 ∧ PySem.Challenge.rw_xp0030_01.prog = PySem.Challenge.rw_xp0030_01.prog := by
  k_fill
  exact ⟨trivial, rfl⟩
section
variable {prog : Program} {w : World} {A : Around} {E : Value → Shared → Prop} {hb : Heap} {W : List Addr} {o : Ob} {room : Int} {lines : List Str} {cur : List (Str × Str)} {s s₀ : Shared} {Q : Value → Shared → Prop} {env : Env} {ρ : Ro} {D U : Nat}

theorem star_pair {v : Value} {p : Str × Str} {Q : List Value → Shared → Prop} (rv : Rp (hideAll s.heap W) v (encP p)) (h : ∀ t u h', Le s.heap h' → Q [.str p.1 t, .str p.2 u] { s with heap := h' }) : StarOf (model prog w) A E v Q s := by
  cases rv with
  | tuple e c dd sq rr =>
    rename_i a ob xs n
    generalize hxs : xs.toList = ys at rr
    cases rr with
    | cons r1 rr =>
      cases r1
      cases rr with
      | cons r2 rr =>
        cases r2; cases rr
        rename_i t1 t2
        have D := (hide_get e).1
        have hsz : xs.size ≤ sizeLine := by rw [← Array.length_toList, hxs, sizeLine_eq]; simp
        have z : wpAny (model prog w) A (collect (.ref a)) Q E s := by
          refine wpAny_collect_seq a (.inr rfl) D c sq (fun h' hk => ?_) hsz
          rw [hxs]
          exact h t1 t2 h' hk
        unfold StarOf notIterableAtAll
        exact wpAny_bind (wpAny_specialOf ⟨_, D, c⟩ PySem.F.slot_tuple_iter.lookup (wpAny_pure ⟨rfl, z⟩))

/-- reads of the writer's attributes -/
theorem rd_wv {name : Str} {v : Value} {x : Str} {px pos : Pos} (M : Fm o hb W env ρ s₀ s room lines cur) (C : Cx (hd.heap_39 w.params) A D U hb) (hr : ρ x = some (rawD o.z)) {es : List DictEntry} {ke : Nat} (e : s.heap.get? o.dz = some (dictOf es ke)) (hv : getL name es = some (some v)) (hf : findIn (hd.heap_39 w.params) (.ref 101) name = some none) (hh : handedIn v = true)
    (q : ∀ s', Fm o hb W env ρ s₀ s' room lines cur → Grow s s' → Q v s') (hx : env.kindOf x = some .local := by kernel_rfl)
    (he : eval (.Attribute (.Name x px) name pos) env = (do
      let o ← eval (.Name x px) env
      standAt pos.atName
      let r ← holding [o] (getAttr o name true)
      letTemporaryGo (.Name x px) o r
      pure r) := by with_unfolding_all rfl) (hd : (x == ("__debug__" : Str)) = false := by kernel_rfl) : wpAny (model prog w) A (eval (.Attribute (.Name x px) name pos) env) Q E s := by
  have hz := M.ws.z
  have X := C.wl.mono M.F.keep
  obtain ⟨h2, g, d, t, os⟩ := s
  exact Attribute_Name_ (nm_raw (a := o.z) M.F hr (wr_getBy X.X hz (looks_dict e hv) hf hh (q _ (M.grow (Grow.tok _ _)) (Grow.tok _ _))) hx hd) he
theorem rd_wr {name : Str} {v : Value} {x : Str} {px pos : Pos} (M : Fm o hb W env ρ s₀ s room lines cur) (C : Cx (hd.heap_39 w.params) A D U hb) (hr : ρ x = some (rawD o.z)) (hv : ∀ es, DzS room o.l o.x es → getL name es = some (some v)) (hf : findIn (hd.heap_39 w.params) (.ref 101) name = some none) (hh : handedIn v = true)
    (q : ∀ s', Fm o hb W env ρ s₀ s' room lines cur → Grow s s' → Q v s') (hx : env.kindOf x = some .local := by kernel_rfl)
    (he : eval (.Attribute (.Name x px) name pos) env = (do
      let o ← eval (.Name x px) env
      standAt pos.atName
      let r ← holding [o] (getAttr o name true)
      letTemporaryGo (.Name x px) o r
      pure r) := by with_unfolding_all rfl) (hd : (x == ("__debug__" : Str)) = false := by kernel_rfl) : wpAny (model prog w) A (eval (.Attribute (.Name x px) name pos) env) Q E s := by
  obtain ⟨es, ke, e, ds⟩ := M.ws.dz
  exact rd_wv M C hr e (hv _ ds) hf hh q hx he hd
theorem rd_cur {x : Str} {px pos : Pos} (M : Fm o hb W env ρ s₀ s room lines cur) (C : Cx (hd.heap_39 w.params) A D U hb) (hr : ρ x = some (rawD o.z)) (q : ∀ s', Fm o hb W env ρ s₀ s' room lines cur → Grow s s' → Q (.ref o.x) s') (hx : env.kindOf x = some .local := by kernel_rfl)
    (he : eval (.Attribute (.Name x px) "_current_line" pos) env = (do
      let o ← eval (.Name x px) env
      standAt pos.atName
      let r ← holding [o] (getAttr o "_current_line" true)
      letTemporaryGo (.Name x px) o r
      pure r) := by with_unfolding_all rfl) (hd : (x == ("__debug__" : Str)) = false := by kernel_rfl) : wpAny (model prog w) A (eval (.Attribute (.Name x px) "_current_line" pos) env) Q E s :=
  rd_wr M C hr (fun es d => (dz_gets d).1) (by k_is) rfl q hx he hd
theorem rd_lines {x : Str} {px pos : Pos} (M : Fm o hb W env ρ s₀ s room lines cur) (C : Cx (hd.heap_39 w.params) A D U hb) (hr : ρ x = some (rawD o.z)) (q : ∀ s', Fm o hb W env ρ s₀ s' room lines cur → Grow s s' → Q (.ref o.l) s') (hx : env.kindOf x = some .local := by kernel_rfl)
    (he : eval (.Attribute (.Name x px) "_lines" pos) env = (do
      let o ← eval (.Name x px) env
      standAt pos.atName
      let r ← holding [o] (getAttr o "_lines" true)
      letTemporaryGo (.Name x px) o r
      pure r) := by with_unfolding_all rfl) (hd : (x == ("__debug__" : Str)) = false := by kernel_rfl) : wpAny (model prog w) A (eval (.Attribute (.Name x px) "_lines" pos) env) Q E s :=
  rd_wr M C hr (fun es d => (dz_gets d).2.1) (by k_is) rfl q hx he hd
theorem rd_room {x : Str} {px pos : Pos} (M : Fm o hb W env ρ s₀ s room lines cur) (C : Cx (hd.heap_39 w.params) A D U hb) (hr : ρ x = some (rawD o.z)) (q : ∀ u s', Fm o hb W env ρ s₀ s' room lines cur → Grow s s' → Q (.int room u) s') (hx : env.kindOf x = some .local := by kernel_rfl)
    (he : eval (.Attribute (.Name x px) "_maxlen" pos) env = (do
      let o ← eval (.Name x px) env
      standAt pos.atName
      let r ← holding [o] (getAttr o "_maxlen" true)
      letTemporaryGo (.Name x px) o r
      pure r) := by with_unfolding_all rfl) (hd : (x == ("__debug__" : Str)) = false := by kernel_rfl) : wpAny (model prog w) A (eval (.Attribute (.Name x px) "_maxlen" pos) env) Q E s := by
  obtain ⟨es, ke, e, ds⟩ := M.ws.dz
  obtain ⟨u, eu⟩ := (dz_gets ds).2.2.1
  exact rd_wv M C hr e eu (by k_is) rfl (q u) hx he hd
theorem rd_chars {x : Str} {px pos : Pos} (M : Fm o hb W env ρ s₀ s room lines cur) (C : Cx (hd.heap_39 w.params) A D U hb) (hr : ρ x = some (rawD o.z)) (q : ∀ u s', Fm o hb W env ρ s₀ s' room lines cur → Grow s s' → Q (.str " " u) s') (hx : env.kindOf x = some .local := by kernel_rfl)
    (he : eval (.Attribute (.Name x px) "_splitchars" pos) env = (do
      let o ← eval (.Name x px) env
      standAt pos.atName
      let r ← holding [o] (getAttr o "_splitchars" true)
      letTemporaryGo (.Name x px) o r
      pure r) := by with_unfolding_all rfl) (hd : (x == ("__debug__" : Str)) = false := by kernel_rfl) : wpAny (model prog w) A (eval (.Attribute (.Name x px) "_splitchars" pos) env) Q E s := by
  obtain ⟨es, ke, e, ds⟩ := M.ws.dz
  obtain ⟨u, eu⟩ := (dz_gets ds).2.2.2
  exact rd_wv M C hr e eu (by k_is) rfl (q u) hx he hd

/-- a method of the accumulator, looked up -/
theorem x_method {name : Str} {f : Addr} {pl : Sem Bool} {Q : Value × List Value → Shared → Prop} (M : Fm o hb W env ρ s₀ s room lines cur) (C : Cx (hd.heap_39 w.params) A D U hb) (hn : ∀ k h1 t u, lookIn name (dictOf [⟨h1, .str "_initial_size" t, .int 0 u⟩] k) = some none) (hf : findIn (hd.heap_39 w.params) (.ref 185) name = some (some (.ref f))) (ht : typeIn (hd.heap_39 w.params) (.ref f) = some (.type "function"))
    (hq : Q (.ref f, [.ref o.x]) s) : wpAny (model prog w) A (getMethod (.ref o.x) name pl) Q E s := by
  obtain ⟨vs, n, hx', r⟩ := M.ws.x
  obtain ⟨kd, h1, t0, u0, hdx⟩ := M.ws.dx
  have X := C.wl.mono M.F.keep
  obtain ⟨h2, g, d, t, os⟩ := s
  exact acc_method X.X hx' (looks_dict hdx (hn _ _ _ _)) hf ht hq
theorem z_method {name : Str} {f : Addr} {pl : Sem Bool} {Q : Value × List Value → Shared → Prop} (M : Fm o hb W env ρ s₀ s room lines cur) (C : Cx (hd.heap_39 w.params) A D U hb) (hn : ∀ es, DzS room o.l o.x es → getL name es = some none) (hf : findIn (hd.heap_39 w.params) (.ref 101) name = some (some (.ref f))) (ht : typeIn (hd.heap_39 w.params) (.ref f) = some (.type "function"))
    (hq : Q (.ref f, [.ref o.z]) s) : wpAny (model prog w) A (getMethod (.ref o.z) name pl) Q E s := by
  obtain ⟨es, ke, e, ds⟩ := M.ws.dz
  have hz := M.ws.z
  have X := C.wl.mono M.F.keep
  obtain ⟨h2, g, d, t, os⟩ := s
  exact wr_method X.X hz (looks_dict e (hn _ ds)) hf ht hq
/-- appending to the lines -/
theorem l_append {v : Value} {a : Str} (M : Fm o hb W env ρ s₀ s room lines cur) (hl : lines.length ≤ 900) (rv : Rp (hideAll s.heap W) v (.str a))
    (q : ∀ s', Fm o hb W env ρ s₀ s' room (lines ++ [a]) cur → Chg o.all s s' → Q .none s') : wpAny (model prog w) A (PySem.call (.builtin "list.append") [.ref o.l, v]) Q E s := by
  obtain ⟨vs, n, e, r⟩ := M.ws.l
  have hlen := r.length
  rw [List.length_map, Array.length_toList] at hlen
  have lW := (M.off o.l (by simp)).1
  refine append_at e (fun h' sb hl' => ?_) (by rw [sizeLine_eq]; (first | lia | omega))
  have ws' : WS o W h' room (lines ++ [a]) cur := M.ws.setL M.nd lW sb hl' (by
    rw [Array.toList_push, List.map_append]
    exact r.snoc rv)
  have c : Chg o.all s { s with heap := h' } := .same (by simp) sb
  exact q _ (M.step c ws') c
end
end Mine
end

section
open PySem PySem.W PySem.Calls PySem.Spec PyProof.Rows PyProof.Rows.LCg
set_option Elab.async false
set_option maxRecDepth 100000
set_option maxHeartbeats 2000000
set_option linter.unusedVariables false
namespace Mine
theorem fillite16 : (fun (_ : Params → Frag) => True) hd.heap_39 ∧ PySem.Challenge.rw_xp0030_01.prog = PySem.Challenge.rw_xp0030_01.prog := by
  k_fill
  exact ⟨trivial, rfl⟩
section
variable {prog : Program} {w : World} {A : Around} {E : Value → Shared → Prop} {h : Heap} {g : Array GenState} {d : Drawn} {t : Nat} {os : OsState} {x dx : Addr} {vs : Array Value} {n : Nat}
theorem fn_set_lk : typeLookup (.type "function") "__set__" = pure none := by rw [typeLookup_type, builtinLookup_eq_fast]; kernel_rfl
theorem fn_del_lk : typeLookup (.type "function") "__delete__" = pure none := by rw [typeLookup_type, builtinLookup_eq_fast]; kernel_rfl
theorem acc_entryF {name : Str} {tk : Tok} {f : Addr} {Q : Fin → Shared → Prop} (X : (hd.heap_39 w.params).In h) (hx : h.get? x = some (accObj dx vs n)) (hN : Looks (model prog w) h (nsGet dx name) none) (hf : findIn (hd.heap_39 w.params) (.ref 185) name = some (some (.ref f))) (ht : typeIn (hd.heap_39 w.params) (.ref f) = some (.type "function"))
    (hnm : (["__module__", "__name__", "__qualname__", "__doc__", "__annotations__"] : List Str).contains name = false)
    (hq : Q (.done (.ret (.ref h.objs.size))) ⟨h.push (methodObj (.ref f) (.ref x)), g, d, t, os⟩) :
    wpAny (model prog w) A (Builtin.«object.__getattribute__» ⟨[.ref x, .str name tk], []⟩) Q E ⟨h, g, d, t, os⟩ := by
  have L1 : Looks (model prog w) h (typeLookup (.ref 185) name) (some (.ref f)) := looks_findIn X hf
  have hT : Looks (model prog w) h (typeOf (.ref x)) (.ref 185) := (Looks.ld hx).andThen .now
  have L4 : Looks (model prog w) h (typeOf (.ref f)) (.type "function") := looks_typeIn X ht
  have hC := X 185 _ (by k_is)
  have hlk := KF.slot_fn.lookup
  have hl1 := fn_set_lk
  have hl2 := fn_del_lk
  repeat (any_goals (first | assumption | with_reducible refine Looks.at (by assumption) ?_ | with_reducible refine wpAny_onRaise ?_ | (with_reducible refine wpAny_of_eq hlk ?_) | (with_reducible refine wpAny_of_eq hl1 ?_) | (with_reducible refine wpAny_of_eq hl2 ?_) | wp_step))
  rw [hnm, if_neg (by decide)]
  repeat (any_goals (first | assumption | with_reducible refine Looks.at (by assumption) ?_ | with_reducible refine wpAny_onRaise ?_ | (with_reducible refine wpAny_of_eq hlk ?_) | (with_reducible refine wpAny_of_eq hl1 ?_) | (with_reducible refine wpAny_of_eq hl2 ?_) | wp_step))
  exact fn_get X ht (wpAny_pure hq)
theorem acc_getF {name : Str} {f : Addr} {ex : Bool} {Q : Value → Shared → Prop} (X : (hd.heap_39 w.params).In h) (hx : h.get? x = some (accObj dx vs n)) (hN : Looks (model prog w) h (nsGet dx name) none) (hf : findIn (hd.heap_39 w.params) (.ref 185) name = some (some (.ref f))) (ht : typeIn (hd.heap_39 w.params) (.ref f) = some (.type "function"))
    (hnm : (["__module__", "__name__", "__qualname__", "__doc__", "__annotations__"] : List Str).contains name = false)
    (hq : Q (.ref h.objs.size) ⟨h.push (methodObj (.ref f) (.ref x)), g, d, t + 1, os⟩) :
    wpAny (model prog w) A (getAttr (.ref x) name ex) Q E ⟨h, g, d, t, os⟩ := by
  have L1 : Looks (model prog w) h (typeLookup (.ref 185) "__getattribute__") (some (.builtin "list.__getattribute__")) := looks_findIn X (by k_is)
  have L2 : Looks (model prog w) h (typeLookup (.ref 185) "__getattr__") none := looks_findIn X (by k_is)
  have L3 : Looks (model prog w) h (isSubtype (.ref 185) (.type "list")) true := looks_subIn X (by k_is)
  have hT : Looks (model prog w) h (typeOf (.ref x)) (.ref 185) := (Looks.ld hx).andThen .now
  have hI : Looks (model prog w) h (isInstance (.ref x) (.type "list")) true := hT.andThen L3
  have f3 := slot_list_ga.bind (.ref x)
  have key : ∀ tk R, R (.ok (.ret (.ref h.objs.size))) ⟨h.push (methodObj (.ref f) (.ref x)), g, d, t + 1, os⟩ → codeAny (model prog w) A (.call (.builtin "list.__getattribute__") ⟨[.ref x, .str name tk], []⟩) R ⟨h, g, d, t + 1, os⟩ := fun tk R hr => by
    refine codeAny_call_builtin slot_list_ga.plain entry_list_ga (@check_slot (model prog w) _ _ ⟨h, g, d, t + 1, os⟩ "list.__getattribute__" "list" "__getattribute__" (.ref x) [.str name tk] [] _ (by decide +kernel) (by decide +kernel) hI (args_list_ga _ _) ?_)
    exact acc_entryF X hx hN hf ht hnm hr
  repeat (any_goals (first | assumption | with_reducible refine Looks.at (by assumption) ?_ | with_reducible refine wpAny_onRaise ?_ | wp_step))
  rw [show (ex && onTheHeap (Value.builtin "list.__getattribute__")) = false from Bool.and_false _, if_neg (by decide)]
  repeat (any_goals (first | assumption | with_reducible refine Looks.at (by assumption) ?_ | with_reducible refine wpAny_onRaise ?_ | wp_step))
  refine key _ _ ?_
  show wpAny _ _ (handedOut _) _ _ _
  rw [handedOut_of rfl]
  exact wpAny_pure hq
end
section
variable {M : Model} {A : Around} {E : Value → Shared → Prop} {s : Shared} {env : Env}
theorem StarMethod_ {o e : Expr} {name : Str} {apos pos p : Pos} {Q : Value → Shared → Prop}
    (h : wpAny M A (eval o env) (fun ov s₁ => wpAny M A (getAttr ov name true) (fun f s₂ => wpAny M A (callWith pos f [] (backTo pos (starEach [.Starred e p] env)) []) Q E s₂) E s₁) E s)
    (he : eval (.Call (.Attribute o name apos) [.Starred e p] [] pos) env = (do
      let ov ← eval o env
      standAt apos.atName
      let (f, first) ← holding [ov] (do let f ← getAttr ov name true; pure (f, []))
      callWith pos f first (backTo pos (starEach [.Starred e p] env)) []) := by rfl) :
    wpAny M A (eval (.Call (.Attribute o name apos) [.Starred e p] [] pos) env) Q E s := by
  rw [he]
  refine wpAny_bind (wpAny_mono h (fun ov s₁ h₁ => wpAny_bind (wpAny_standAt (wpAny_bind (wpAny_holding (wpAny_bind (wpAny_mono h₁ (fun f s₂ h₂ => wpAny_pure ?_) fun _ _ x => x)))))) fun _ _ x => x)
  exact h₂
end
section
variable {prog : Program} {w : World} {A : Around} {E : Value → Shared → Prop} {hb : Heap} {W : List Addr} {o : Ob} {room : Int} {lines : List Str} {cur : List (Str × Str)} {s s₀ : Shared} {Q : Value → Shared → Prop} {env : Env} {ρ : Ro} {D U : Nat}
/-- push called with a pair spread out -/
theorem push_star {e : Expr} {pos pp : Pos} {p : Str × Str} (M : Fm o hb W env ρ s₀ s room lines cur) (C : Cx (hd.heap_39 w.params) A D U hb) (hz : cur.length ≤ 900) (hD : 2 ≤ D) (hU : 40 ≤ U)
    (he : ∀ s', Fm o hb W env ρ s₀ s' room lines cur → ∀ (Q' : Value → Shared → Prop), (∀ v, Rp (hideAll s'.heap W) v (encP p) → Q' v s') → wpAny (model prog w) A (eval e env) Q' E s')
    (q : ∀ s', Fm o hb W env ρ s₀ s' room lines (cur ++ [p]) → Q .none s') : wpAny (model prog w) A (getAttr (.ref o.x) "push" true) (fun f s₂ => wpAny (model prog w) A (callWith pos f [] (backTo pos (starEach [.Starred e pp] env)) []) Q E s₂) E s := by
  obtain ⟨vs, n, hx, r⟩ := M.ws.x
  obtain ⟨kd, h1, t0, u0, hdx⟩ := M.ws.dx
  have X := C.wl.mono M.F.keep
  obtain ⟨hh, g, d, t, os⟩ := s
  refine acc_getF X.X hx (looks_dict hdx (by kernel_rfl)) (by k_is) (by k_is) (by decide +kernel) ?_
  have M2 : Fm o hb W env ρ s₀ ⟨hh.push (methodObj (.ref 129) (.ref o.x)), g, d, t + 1, os⟩ room lines cur := M.grow ⟨le_push _ _, rfl, id⟩
  have hq2 : (hh.push (methodObj (.ref 129) (.ref o.x))).get? hh.objs.size = some (methodObj (.ref 129) (.ref o.x)) := Heap.get?_push_size _ rfl
  generalize hh.push (methodObj (.ref 129) (.ref o.x)) = h2 at M2 hq2
  generalize hh.objs.size = u at hq2
  have hst : starEach [.Starred e pp] env = [(true, eval e env)] := by rfl
  rw [hst]
  refine ks_call (P := MethP (hd.heap_39 w.params) u 129 (.ref o.x)) rfl (keeps_M (by k_is)) (ks_lone (he _ M2 _ fun v rv => star_pair rv fun t' u' h' le => ⟨⟨le _ _ hq2, ((C.wl.mono M2.F.keep).mono le).X⟩, ?_⟩))
  have M3 : Fm o hb W env ρ s₀ ⟨h', g, d, t + 1, os⟩ room lines cur := M2.grow ⟨le, rfl, id⟩
  refine wpAny_call (method_call (le _ _ hq2) (push_c (a := p.1) (b := p.2) (M3.md C hD hU) hz (.str ..) (.str ..) fun s₈ c8 ws8 => q _ (M3.step c8 ws8)))
end
end Mine
end

section
open PySem PySem.W PySem.Calls PySem.Spec PyProof.Rows PyProof.Rows.LCg
set_option Elab.async false
set_option maxRecDepth 100000
set_option maxHeartbeats 2000000
set_option linter.unusedVariables false
namespace Mine
theorem fillite17 : (fun (_ : Params → Frag) => True) hd.heap_39 ∧ PySem.Challenge.rw_xp0030_01.prog = PySem.Challenge.rw_xp0030_01.prog := by
  k_fill
  exact ⟨trivial, rfl⟩
section
variable {prog : Program} {w : World} {A : Around} {E : Value → Shared → Prop} {hb : Heap} {W : List Addr} {o : Ob} {room : Int} {lines : List Str} {cur : List (Str × Str)} {s : Shared} {Q : Value → Shared → Prop}
theorem depth_encP (p : Str × Str) : (encP p).depth = 1 := by
  unfold encP; rfl
theorem lay_blank : (encP (" ", "")).canLay0 = true := by decide +kernel
set_option maxHeartbeats 8000000 in
theorem newline_m {p : Str × Str} (P : Pr prog) (m : Md (hd.heap_39 w.params) A 7 90 hb W o s.heap room lines (cur ++ [p])) (hz : cur.length ≤ 800) (hl : lines.length ≤ 800) (hs : ∀ q ∈ cur ++ [p], q.1.length ≤ 1000 ∧ q.2.length ≤ 1000) (hpos : lenOf (cur ++ [p]) ≠ 0) (hsp : Txt.isspace (strOf (cur ++ [p])) = false)
    (hcl : (encP p).canLay0 = true) (hne : PyData.eqv (encP p) (encP (" ", "")) = false)
    (q : ∀ s', Chg o.all s s' → WS o W s'.heap room (lines ++ [strOf (cur ++ [p])]) [] → Q .none s') : wpAny (model prog w) A (PySem.call (.ref 63) [.ref o.z]) Q E s := by
  k_dflt (refine' enter_m (D := 6) (U := 87) ["self"] (ds := [rawD o.z]) m (.cons (.raw _) .nil) ?ho ?hcd ?hbind rfl ?k1 ?k2 ?k3 ?k4 ?h ?c1 ?c2 ?c3)
  case ho => k_is
  case hcd => k_is
  case hbind => exact fun _ => BindsTo.of_eq (by kernel_rfl)
  case k1 => decide
  case k2 => decide
  case k3 => decide
  case k4 => decide
  case c1 => rfl
  case c2 => rfl
  case c3 => rfl
  intro A' L W' s₁ E' C' M inW _ _
  have hz' : (cur ++ [p]).length ≤ 900 := by simp; (first | lia | omega)
  -- end_of_line = self._current_line.pop()
  refine wpAny_execs_cons (wpAny_Assign_Name (MethodCall_ (rd_cur M C' (by kernel_rfl) fun s₂ M2 _ => ?_) (by rfl)) (by kernel_rfl))
  refine x_method M2 C' (fun _ _ _ _ => by kernel_rfl) (by k_is) (by k_is) ?_
  refine callWith_K0 (C'.wl.mono M2.F.keep).X (by k_is) ?_
  refine pop_m P (M2.md C') (by (first | lia | omega)) fun v s₃ c3 ws3 rv => ?_
  have M3 := M2.step c3 ws3
  refine M3.set (x := "end_of_line") rv fun s₄ M4 => ?_
  -- if end_of_line != (' ', ''): push it back
  refine wpAny_execs_cons (wpAny_If (EvB.cmp (W := W') (a := encP p) (b := encP (" ", "")) (c := true) (ev_loc M4.F) (Ev.tup (k := 0) M4.F.th (evs_cons .str (evs_cons .str evs_nil)) (by simp)) ?_ (by kernel_rfl) s₄ _ _ le_rfl fun s₅ g₅ => ?_))
  · have h := op_nev (prog := prog) (w := w) (A := A') (W := W') (h := s₄.heap) (a := encP p) (b := encP (" ", "")) hcl lay_blank (by rw [depth_encP]; exact Nat.le_trans (Nat.min_le_left ..) (by decide)) (by have := C'.un; (first | lia | omega))
    rw [hne] at h
    exact h
  simp only [if_true]
  have M5 := M4.grow g₅
  refine wpAny_execs_cons (wpAny_Expr (StarMethod_ (rd_cur M5 C' (by kernel_rfl) fun s₆ M6 _ => ?_) (by rfl)) (by kernel_rfl) (by rfl))
  refine push_star (p := p) M6 C' (by (first | lia | omega)) (by decide) (by decide) (fun s' M' Q' q' => nm_loc M'.F (d := encP p) (by kernel_rfl) q') fun s₈ M8 => ?_
  refine wpAny_execs_nil ?_
  dsimp only
  -- if len(self._current_line) > 0
  refine wpAny_execs_cons (wpAny_If (wpAny_isTrue_Compare1 (wpAny_Call_NameR (name_boot M8.F C'.wl le_rfl (by kernel_rfl) (by k_is) (by boot_by_name) (PyProof.Rows.callWith_builtin1 (spliced_cons (rd_cur M8 C' (by kernel_rfl) fun s₉ M9 _ => Calls.spliced_nil ?_)) (by kernel_rfl) (by kernel_rfl)))) (by kernel_rfl)))
  refine len_bi (M9.md C') hz' hs fun t s₁₀ c10 ws10 => ?_
  have M10 := M9.step c10 ws10
  refine wpAny_Constant_int (gt_int (wpAny_truthy_bool ?_))
  have M11 := M10.grow (Grow.tok s₁₀ (s₁₀.toks + 1))
  have hgt : decide ((0 : Int) < ((lenOf (cur ++ [p]) : Nat) : Int)) = true := by rw [decide_eq_true_eq]; (first | lia | omega)
  rw [hgt]
  simp only [if_true]
  -- if is_onlyws() and ..
  refine wpAny_execs_cons (wpAny_If (isTrue_and (isTrue_plain (MethodCall_ (rd_cur M11 C' (by kernel_rfl) fun s₁₂ M12 _ => ?_) (by rfl)) (by kernel_rfl))))
  refine x_method M12 C' (fun _ _ _ _ => by kernel_rfl) (by k_is) (by k_is) ?_
  refine callWith_K0 (C'.wl.mono M12.F.keep).X (by k_is) ?_
  refine onlyws_m (M12.md C') hz' hs hpos hsp fun s₁₃ c13 ws13 => wpAny_truthy_bool ?_
  have M13 := M12.step c13 ws13
  simp only [Bool.false_eq_true, if_false]
  -- self._lines.append(str(self._current_line))
  refine wpAny_execs_cons (wpAny_Expr (MethodCall_ (rd_lines M13 C' (by kernel_rfl) fun s₁₄ M14 _ => ?_) (by rfl)) (by kernel_rfl) (by rfl))
  obtain ⟨lv, ln, le14, _⟩ := M14.ws.l
  refine Calls.getMethod_list_append le14 rfl rfl ?_
  refine callWith_method1 (spliced_cons ?_) (by kernel_rfl) (by kernel_rfl)
  refine wpAny_Call_NameR (name_boot M14.F C'.wl le_rfl (by kernel_rfl) (by k_is) (by boot_by_name) (PyProof.Rows.callWith_type1 (spliced_cons (rd_cur M14 C' (by kernel_rfl) fun s₁₅ M15 _ => Calls.spliced_nil ?_)) (by kernel_rfl) (by kernel_rfl)))
  refine str_b (M15.md C') hz' hs fun t s₁₆ c16 ws16 => Calls.spliced_nil ?_
  have M16 := M15.step c16 ws16
  refine l_append M16 (by (first | lia | omega)) (.str ..) fun s₁₇ M17 _ => ?_
  refine wpAny_execs_nil ?_
  dsimp only
  refine wpAny_execs_nil ?_
  dsimp only
  -- self._current_line.reset()
  refine wpAny_execs_cons (wpAny_Expr (MethodCall_ (rd_cur M17 C' (by kernel_rfl) fun s₁₈ M18 _ => ?_) (by rfl)) (by kernel_rfl) (by rfl))
  refine x_method M18 C' (fun _ _ _ _ => by kernel_rfl) (by k_is) (by k_is) ?_
  refine callWith_K0 (C'.wl.mono M18.F.keep).X (by k_is) ?_
  refine reset0_m (M18.md C') hz' fun s₁₉ c19 ws19 => ?_
  have M19 := M18.step c19 ws19
  exact wpAny_execs_nil (q _ M19.chg (M19.ws.back inW))
end
end Mine
end

section
open PySem PySem.W PySem.Calls PySem.Spec PyProof.Rows PyProof.Rows.LCg
set_option Elab.async false
set_option maxRecDepth 100000
set_option maxHeartbeats 2000000
set_option linter.unusedVariables false
namespace Mine
section
variable {prog : Program} {w : World} {A : Around} {E : Value → Shared → Prop} {s : Shared} {env : Env}
/-- a loop whose first turn breaks -/
theorem For_brk {x : Str} {px pos : Pos} {iter : Expr} {body orelse : List Stmt} {Q : Flow → Shared → Prop}
    (h : wpAny (model prog w) A (eval iter env) (fun v s₁ => wpAny (model prog w) A (pyIter v) (fun it s₂ => ∀ E' : Value → Shared → Prop, wpAny (model prog w) A (pyNext it) (fun r s₃ => ∃ u, r = some u ∧ wpAny (model prog w) A (storeName env x u) (fun _ s₄ => wpAny (model prog w) A (execs body env) (fun f s₅ => f = .brk ∧ Q .next s₅) E' s₄) E' s₃) E' s₂) E s₁) E s)
    (hs : ∀ x, foldedSetIterable iter env x = pure x := by intro _; kernel_rfl) : wpAny (model prog w) A (exec (.For (.Name x px) iter body orelse pos) env) Q E s := by
  refine wpAny_For (wpAny_mono h (fun v s₁ h₁ => wpAny_mono h₁ (fun it s₂ h₂ => ?_) fun _ _ e => e) fun _ _ e => e) hs
  refine codeAny_forLoop (fun n s' => s' = s₂) (fun n s' e => ?_) 0 rfl (fun v => rfl)
  subst e
  refine wpAny_mono (h₂ _) (fun r s₃ h₃ => ?_) fun _ _ e => e
  obtain ⟨u, rfl, h₃⟩ := h₃
  refine wpAny_assign_Name (wpAny_mono h₃ (fun _ s₄ h₄ => wpAny_mono h₄ (fun f s₅ h₅ => ?_) fun _ _ e => e) fun _ _ e => e)
  obtain ⟨rfl, h₅⟩ := h₅
  exact h₅
theorem first_blank {t : Tok} {K : (Value → Shared → Prop) → Value → Shared → Prop} (hh : A.handled = none) (k : ∀ E' u h' tk, Le s.heap h' → K E' (.str " " u) { s with heap := h', toks := tk }) :
    wpAny (model prog w) A (pyIter (.str " " t)) (fun it s₂ => ∀ E' : Value → Shared → Prop, wpAny (model prog w) A (pyNext it) (fun r s₃ => ∃ u, r = some u ∧ K E' u s₃) E' s₂) E s := by
  refine wpAny_pyIter_str fun o St hW hst E' => (hW A hh).item 0 _ _ _ (by decide) hst fun v h' tk hP hst' kk => ?_
  obtain ⟨c, u, e, rfl⟩ := hP
  have hc : c = 32 := by
    have : (some 32 : Option Nat) = some c := e
    exact (Option.some.inj this).symm
  subst hc
  exact ⟨_, rfl, k E' u h' tk fun b ob eb => kk b ob (fun q => by rw [List.mem_singleton.mp q] at eb; exact absurd (ltA eb) (Nat.lt_irrefl _)) (le_push _ _ _ _ eb)⟩
theorem first_down {r : Addr} {a : Int} {t u v : Tok} {K : (Value → Shared → Prop) → Value → Shared → Prop} (hr : IsRange s.heap r a 0 (-1) t u v) (h1 : 1 ≤ a) (h2 : a ≤ 1000) (k : ∀ E' u h' tk, Le s.heap h' → K E' (.int a u) { s with heap := h', toks := tk }) :
    wpAny (model prog w) A (pyIter (.ref r)) (fun it s₂ => ∀ E' : Value → Shared → Prop, wpAny (model prog w) A (pyNext it) (fun r s₃ => ∃ u, r = some u ∧ K E' u s₃) E' s₂) E s := by
  have e : Builtin.Range.rangeSize a 0 (-1) = a := by
    unfold Builtin.Range.rangeSize
    simp
    (first | lia | omega)
  have sm : Builtin.Range.small a 0 (-1) = true := by
    unfold Builtin.Range.small
    rw [e]
    simp [Builtin.Range.rangeFitsLong]
    (first | lia | omega)
  refine wpAny_pyIter_range hr sm ?_
  rw [e]
  intro E'
  refine wpAny_pyNext_range_item (Heap.get?_push_size _ rfl) (by (first | lia | omega)) fun h' _ sb => ⟨_, rfl, k E' _ h' _ fun b ob eb => ?_⟩
  have hne : b ≠ s.heap.objs.size := Nat.ne_of_lt (ltA eb)
  exact (sb.2 b hne).trans (le_push _ _ _ _ eb)
end
end Mine
end

section
open PySem PySem.W PySem.Calls PySem.Spec PyProof.Rows PyProof.Rows.LCg
set_option Elab.async false
set_option maxRecDepth 100000
set_option maxHeartbeats 2000000
set_option linter.unusedVariables false
namespace Mine
noncomputable abbrev sp (wd : Str) : Str × Str := (" ", wd)
theorem fillite19 : (fun (_ : Params → Frag) => True) hd.heap_39 ∧ PySem.Challenge.rw_xp0030_01.prog = PySem.Challenge.rw_xp0030_01.prog := by
  k_fill
  exact ⟨trivial, rfl⟩
section
variable {prog : Program} {w : World} {A : Around} {E : Value → Shared → Prop} {hb : Heap} {W : List Addr} {o : Ob} {room : Int} {lines : List Str} {cur : List (Str × Str)} {s : Shared} {Q : Value → Shared → Prop}
theorem ev_neg1 {W : List Addr} {h₀ : Heap} {env : Env} {k : Nat} {p pos : Pos} : Ev prog w A W h₀ (eval (.UnaryOp .USub (.Constant (.int 1) k p) pos) env) (.int (-1)) := fun s _ _ _ hQ =>
  UnaryOp_ (wpAny_Constant_int (neg_int (hQ _ _ (Grow.tok s _) (.int ..))))
theorem ev_down {W : List Addr} {h₀ : Heap} {env : Env} {k k2 : Nat} {p p2 p3 pos : Pos} : Evs prog w A W h₀ (backTo pos (starEach [.Constant (.int 0) k p, .UnaryOp .USub (.Constant (.int 1) k2 p2) p3] env)) [.int 0, .int (-1)] :=
  evs_cons Ev.int (evs_cons ev_neg1 evs_nil)
set_option maxHeartbeats 16000000 in
theorem append_m {wd : Str} {u v : Value} (P : Pr prog) (m : Md (hd.heap_39 w.params) A 6 75 hb W o s.heap room lines cur) (hz : cur.length ≤ 800) (hl : lines.length ≤ 800) (hs : ∀ q ∈ cur ++ [sp wd], q.1.length ≤ 1000 ∧ q.2.length ≤ 1000)
    (hne : room < (lenOf (cur ++ [sp wd]) : Nat) → cur ≠ []) (ru : Rp (hideAll s.heap W) u (.str " ")) (rv : Rp (hideAll s.heap W) v (.str wd))
    (q₁ : ∀ s', Chg o.all s s' → room < (lenOf (cur ++ [sp wd]) : Nat) → WS o W s'.heap room (lines ++ [strOf cur]) [sp wd] → Q .none s')
    (q₂ : ∀ s', Chg o.all s s' → ¬ room < (lenOf (cur ++ [sp wd]) : Nat) → WS o W s'.heap room lines (cur ++ [sp wd]) → Q .none s') : wpAny (model prog w) A (PySem.call (.ref 98) [.ref o.z, u, v]) Q E s := by
  k_dflt (refine' enter_m (D := 5) (U := 72) ["self", "fws", "string"] (ds := [rawD o.z, .str " ", .str wd]) m (.cons (.raw _) (.cons ru (.cons rv .nil))) ?ho ?hcd ?hbind rfl ?k1 ?k2 ?k3 ?k4 ?h ?c1 ?c2 ?c3)
  case ho => k_is
  case hcd => k_is
  case hbind => exact fun _ => BindsTo.of_eq (by kernel_rfl)
  case k1 => decide
  case k2 => decide
  case k3 => decide
  case k4 => decide
  case c1 => rfl
  case c2 => rfl
  case c3 => rfl
  intro A' L W' s₁ E' C' M inW _ _
  have hz' : (cur ++ [sp wd]).length ≤ 900 := by simp; (first | lia | omega)
  -- self._current_line.push(fws, string)
  refine wpAny_execs_cons (wpAny_Expr (MethodCall_ (rd_cur M C' (by kernel_rfl) fun s₂ M2 _ => ?_) (by rfl)) (by kernel_rfl) (by rfl))
  refine x_method M2 C' (fun _ _ _ _ => by kernel_rfl) (by k_is) (by k_is) ?_
  have X2 := C'.wl.mono M2.F.keep
  refine callWith_K X2.X (by k_is) (spliced_cons (nm_loc M2.F (d := .str " ") (by kernel_rfl) fun a ra => spliced_cons (nm_loc M2.F (d := .str wd) (by kernel_rfl) fun b rb => Calls.spliced_nil ⟨X2.X, ?_⟩))) (by kernel_rfl) (by kernel_rfl)
  refine push_m (a := " ") (b := wd) (M2.md C') (by (first | lia | omega)) ra rb fun s₃ c3 ws3 => ?_
  have M3 := M2.step c3 ws3
  -- if len(self._current_line) > self._maxlen
  refine wpAny_execs_cons (wpAny_If (wpAny_isTrue_Compare1 (wpAny_Call_NameR (name_boot M3.F C'.wl le_rfl (by kernel_rfl) (by k_is) (by boot_by_name) (PyProof.Rows.callWith_builtin1 (spliced_cons (rd_cur M3 C' (by kernel_rfl) fun s₄ M4 _ => Calls.spliced_nil ?_)) (by kernel_rfl) (by kernel_rfl)))) (by kernel_rfl)))
  refine len_bi (M4.md C') hz' hs fun t s₅ c5 ws5 => ?_
  have M5 := M4.step c5 ws5
  refine rd_room M5 C' (by kernel_rfl) fun t2 s₆ M6 _ => gt_int (wpAny_truthy_bool ?_)
  by_cases hov : room < (lenOf (cur ++ [sp wd]) : Nat)
  · rw [decide_eq_true hov]
    simp only [if_true]
    have hc0 : cur.length ≠ 0 := fun e => hne hov (List.length_eq_zero_iff.mp e)
    -- for ch in self._splitchars
    refine wpAny_execs_cons (For_brk (rd_chars M6 C' (by kernel_rfl) fun t3 s₇ M7 _ => first_blank C'.hh fun E₁ t4 h₈ tk₈ le₈ => ?_))
    have M8 : Fm o hb W' _ _ s { s₇ with heap := h₈, toks := tk₈ } room lines (cur ++ [sp wd]) := M7.grow ⟨le₈, rfl, id⟩
    refine M8.set (x := "ch") (.str " " t4) fun s₉ M9 => ?_
    -- for i in range(self._current_line.part_count() - 1, 0, -1)
    refine wpAny_execs_cons (For_brk (wpAny_Call_NameR (name_boot M9.F C'.wl le_rfl (by kernel_rfl) (by k_is) (by boot_by_name) (PyProof.Rows.callWith_type1 (spliced_cons (wpAny_BinOp (MethodCall_ (rd_cur M9 C' (by kernel_rfl) fun s₁₀ M10 _ => ?_) (by rfl)))) (by kernel_rfl) (by kernel_rfl)))))
    refine x_method M10 C' (fun _ _ _ _ => by kernel_rfl) (by k_is) (by k_is) ?_
    refine callWith_K0 (C'.wl.mono M10.F.keep).X (by k_is) ?_
    obtain ⟨vs, n, hx, r⟩ := M10.ws.x
    have hlen := r.length
    rw [List.length_map, Array.length_toList, List.length_append, List.length_singleton] at hlen
    refine count_m P (C'.mono le_rfl (by decide) (by decide)) M10.F.keep hx (by (first | lia | omega)) fun t5 s₁₁ g₁₁ => ?_
    have M11 := M10.grow g₁₁
    refine wpAny_Constant_int (sub_int (ev_down (W := W') (h₀ := s₁₁.heap) _ _ _ le_rfl fun us s₁₂ g₁₂ r₁₂ => ?_))
    have ha : ((vs.size : Int) - 1) = ((cur.length : Nat) : Int) := by (first | lia | omega)
    rw [ha]
    have M12 := M11.grow ((Grow.tok s₁₁ (s₁₁.toks + 1 + 1)).trans g₁₂)
    obtain ⟨u1, u2, rfl, r1, r2⟩ := r₁₂.of2
    cases r1; cases r2
    refine call_range_3 (by decide) ?_ (Or.inl (PyProof.noPylong_small (by (first | lia | omega))))
    refine first_down (IsRange.new ..) (by (first | lia | omega)) (by (first | lia | omega)) fun E₂ t6 h₁₄ tk₁₄ le₁₄ => ?_
    have M14 : Fm o hb W' _ _ s { s₁₂ with heap := h₁₄, toks := tk₁₄ } room lines (cur ++ [sp wd]) := M12.grow ⟨(le_push _ _).trans le₁₄, rfl, id⟩
    refine M14.set (x := "i") (.int ((cur.length : Nat) : Int) t6) fun s₁₅ M15 => ?_
    -- if ch.isspace()
    refine wpAny_execs_cons (wpAny_If (isTrue_plain (MethodCall_ (nm_loc M15.F (d := .str " ") (by kernel_rfl) fun cv rc => ?_) (by rfl)) (by kernel_rfl)))
    cases rc
    refine GM.isspace (callWith_method0 (SC.isspace (wpAny_truthy_bool ?_)))
    rw [show Txt.isspace (" " : Str) = true by kernel_rfl]
    simp only [if_true]
    -- fws = self._current_line[i][0]
    refine wpAny_execs_cons (wpAny_Assign_Name (Subscript_ (Subscript_ (rd_cur M15 C' (by kernel_rfl) fun s₁₆ M16 _ => nm_loc M16.F (d := .int ((cur.length : Nat) : Int)) (by kernel_rfl) fun iv ri => ?_))) (by kernel_rfl))
    cases ri
    obtain ⟨vs2, n2, hx2, r2⟩ := M16.ws.x
    rw [List.map_append] at r2
    obtain ⟨vs3, pv, rfl, r3, rp⟩ := snoc_arr r2
    have hlen3 := r3.length
    rw [List.length_map, Array.length_toList] at hlen3
    have X16 := C'.wl.mono M16.F.keep
    obtain ⟨h6, gg, d6, t7, os6⟩ := s₁₆
    refine acc_tail X16.X hx2 (acc_getItem_int X16.X hx2 (by (first | lia | omega)) (by (first | lia | omega)) (v := pv) (by rw [Int.toNat_natCast, ← hlen3]; simp) ?_) (by with_unfolding_all rfl)
    refine wpAny_Constant_int ?_
    refine item_tuple (W := W') (ds := [.str " ", .str wd]) (i := 0) (d := .str " ") (h := h6) rfl (by simp) (by intro _ _; kernel_rfl) _ _ _ _ _ le_rfl rp (.int ..) fun fv s₁₇ g₁₇ rf => ?_
    have M17 := (M16.grow (Grow.tok _ (t7 + 1))).grow g₁₇
    refine M17.set (x := "fws") rf fun s₁₈ M18 => ?_
    -- if fws and fws[0] == ch: break
    refine wpAny_execs_cons (wpAny_If (isTrue_and (isTrue_plain (nm_loc M18.F (d := .str " ") (by kernel_rfl) fun a2 ra2 => ?_) (by kernel_rfl))))
    cases ra2
    refine PySem.P.truthy_str (by decide +kernel) ?_
    rw [show ((((" " : Str).length : Nat) : Int) != 0) = true by decide +kernel]
    simp only [if_true]
    have M19 := M18.grow (Grow.tok s₁₈ (s₁₈.toks + 1 + 1))
    refine isTrue_and (EvB.cmp (W := W') (h₀ := s₁₈.heap) (a := .str " ") (b := .str " ") (c := true) (Ev.sub (b := .int ((0 : Nat) : Int)) (ev_loc M18.F) Ev.int (item_text (x := " ") (i := 0) (y := " ") (by decide +kernel) (by kernel_rfl) (by decide +kernel))) (ev_loc M18.F) ?_ (by kernel_rfl) _ _ _ le_rfl fun s₂₀ g₂₀ => ?_)
    · have h := op_eqv (prog := prog) (w := w) (A := A') (W := W') (h := s₁₈.heap) (a := .str " ") (b := .str " ") (by decide +kernel) (by decide +kernel) (by decide +kernel) (by have := C'.un; (first | lia | omega))
      rw [show PyData.eqv (.str " ") (.str " ") = true by decide +kernel] at h
      exact h
    simp only [if_true]
    refine isTrue_and_nil ?_
    have M20 := M19.grow g₂₀
    refine wpAny_execs_cons (wpAny_Break ?_)
    refine ⟨rfl, ?_⟩
    refine wpAny_execs_cons (wpAny_Break ⟨rfl, ?_⟩)
    -- remainder = self._current_line.pop_from(i)
    refine wpAny_execs_cons (wpAny_Assign_Name (MethodCall_ (rd_cur M20 C' (by kernel_rfl) fun s₂₁ M21 _ => ?_) (by rfl)) (by kernel_rfl))
    refine x_method M21 C' (fun _ _ _ _ => by kernel_rfl) (by k_is) (by k_is) ?_
    have X21 := C'.wl.mono M21.F.keep
    refine callWith_K X21.X (by k_is) (spliced_cons (nm_loc M21.F (d := .int ((cur.length : Nat) : Int)) (by kernel_rfl) fun a3 ra3 => Calls.spliced_nil ⟨X21.X, ?_⟩)) (by kernel_rfl) (by kernel_rfl)
    refine popFrom_m (i := cur.length) (M21.md C') (by simp) hz' ra3 fun rv s₂₂ c22 ws22 rr => ?_
    rw [List.take_left] at ws22
    rw [List.drop_left] at rr
    have M22 := M21.step c22 ws22
    refine M22.set (x := "remainder") rr fun s₂₃ M23 => ?_
    -- self._lines.append(str(self._current_line))
    refine wpAny_execs_cons (wpAny_Expr (MethodCall_ (rd_lines M23 C' (by kernel_rfl) fun s₂₄ M24 _ => ?_) (by rfl)) (by kernel_rfl) (by rfl))
    obtain ⟨lv, ln, le24, _⟩ := M24.ws.l
    refine Calls.getMethod_list_append le24 rfl rfl ?_
    refine callWith_method1 (spliced_cons ?_) (by kernel_rfl) (by kernel_rfl)
    refine wpAny_Call_NameR (name_boot M24.F C'.wl le_rfl (by kernel_rfl) (by k_is) (by boot_by_name) (PyProof.Rows.callWith_type1 (spliced_cons (rd_cur M24 C' (by kernel_rfl) fun s₂₅ M25 _ => Calls.spliced_nil ?_)) (by kernel_rfl) (by kernel_rfl)))
    refine str_b (M25.md C') (by (first | lia | omega)) (fun q hq => hs q (List.mem_append_left _ hq)) fun t s₂₆ c26 ws26 => Calls.spliced_nil ?_
    have M26 := M25.step c26 ws26
    refine l_append M26 (by (first | lia | omega)) (.str ..) fun s₂₇ M27 _ => ?_
    -- self._current_line.reset(remainder)
    refine wpAny_execs_cons (wpAny_Expr (MethodCall_ (rd_cur M27 C' (by kernel_rfl) fun s₂₈ M28 _ => ?_) (by rfl)) (by kernel_rfl) (by rfl))
    refine x_method M28 C' (fun _ _ _ _ => by kernel_rfl) (by k_is) (by k_is) ?_
    have X28 := C'.wl.mono M28.F.keep
    refine callWith_K X28.X (by k_is) (spliced_cons (nm_loc M28.F (d := .list ([sp wd].map encP)) (by kernel_rfl) fun a4 ra4 => Calls.spliced_nil ⟨X28.X, ?_⟩)) (by kernel_rfl) (by kernel_rfl)
    refine reset1_m (ps := [sp wd]) (M28.md C') (by (first | lia | omega)) (by simp) ra4 fun s₂₉ c29 ws29 => ?_
    have M29 := M28.step c29 ws29
    exact wpAny_execs_nil (wpAny_execs_nil (q₁ _ M29.chg hov (M29.ws.back inW)))
  · rw [decide_eq_false hov]
    simp only [Bool.false_eq_true, if_false]
    exact wpAny_execs_nil (wpAny_execs_nil (q₂ _ M6.chg hov (M6.ws.back inW)))
end
end Mine
end

section
open PySem PySem.W PySem.Calls PySem.Spec PyProof.Rows PyProof.Rows.LCg
set_option Elab.async false
set_option maxRecDepth 100000
set_option maxHeartbeats 2000000
set_option linter.unusedVariables false
namespace Mine
theorem fillite20 : (fun (_ : Params → Frag) => True) hd.heap_39 ∧ PySem.Challenge.rw_xp0030_01.prog = PySem.Challenge.rw_xp0030_01.prog := by
  k_fill
  exact ⟨trivial, rfl⟩
section
variable {prog : Program} {w : World} {A : Around} {E : Value → Shared → Prop} {h : Heap} {g : Array GenState} {d : Drawn} {t : Nat} {os : OsState} {R : Result → Shared → Prop}
theorem acc_mro {M : Model} (X : (hd.heap_39 w.params).In h) : Looks M h (mroOf (.ref 185)) [.ref 185, .type "list", .type "object"] := ((looks_clsIn X (by k_is)).andThen .now)
theorem acc_made {M : Model} (X : (hd.heap_39 w.params).In h) : Looks M h (Bind.madeBy (.ref 185)) (some "list.__new__") := by
  have hC := X 185 _ (by k_is)
  intro A Q E s k q
  unfold Bind.madeBy
  refine wpAny_bind (acc_mro X A _ E s k ?_)
  rw [List.forIn_cons]
  refine wpAny_bind (wpAny_bind (wpAny_bind (wpAny_bind (wpAny_loadPart (k _ _ hC) (wpAny_pure ?_)))))
  exact wpAny_pure (wpAny_pure (wpAny_pure q))
theorem acc_base {M : Model} (X : (hd.heap_39 w.params).In h) : Looks M h (Bind.staticBase (.ref 185)) (.ref 185) := by
  intro A Q E s k q
  unfold Bind.staticBase
  refine wpAny_bind (acc_mro X A _ E s k ?_)
  rw [List.forIn_cons]
  exact wpAny_bind (wpAny_bind (wpAny_bind (acc_made X A _ E s k (wpAny_pure (wpAny_pure (wpAny_pure q))))))
theorem lnew_kind : builtinKind "list.__new__" = some .builtinFn := by decide +kernel
theorem lnew_split : splitId "list.__new__" = some ("list", "__new__") := by decide +kernel
theorem acc_new {rest : List Value} (X : (hd.heap_39 w.params).In h) (hq : R (.ok (.ret (.ref (h.objs.size + 1)))) ⟨(h.push emptyDict).push (accObj h.objs.size #[] 0), g, d, t, os⟩) :
    codeAny (model prog w) A (.call (.builtin "list.__new__") ⟨.ref 185 :: rest, []⟩) R ⟨h, g, d, t, os⟩ := by
  have hC := X 185 _ (by k_is)
  have L3 : Looks (model prog w) h (isSubtype (.ref 185) (.type "list")) true := looks_subIn X (by k_is)
  have made := acc_made (M := model prog w) X
  have base := acc_base (M := model prog w) X
  refine codeAny_of_tree ?_
  show wpAny _ A.in1 (do checkBuiltinCall "list.__new__" ⟨.ref 185 :: rest, []⟩; again (.builtin "list.__new__" ⟨.ref 185 :: rest, []⟩)) _ _ _
  refine wpAny_bind ?_
  simp only [checkBuiltinCall, lnew_kind, lnew_split]
  repeat (any_goals (first | assumption | with_reducible refine Looks.at (by assumption) ?_ | (with_reducible refine ks_wpAny_isType_cls hC rfl ?_) | wp_step))
  refine ⟨plainId_quiet PySem.F.plain_list_new _, codeAny_builtin_stack PySem.F.entry_list_new rfl fun p st => ?_⟩
  rw [Around.under_plainId PySem.F.plain_list_new _]
  have hown := owner_list_new
  simp only [hown]
  have hC1 := Heap.get?_push_of_some (emptyDict) hC
  have hC2 := Heap.get?_push_of_some (accObj h.objs.size #[] 0) hC1
  repeat (any_goals (first | assumption | with_reducible refine Looks.at (by assumption) ?_ | (with_reducible refine ks_wpAny_isType_cls hC rfl ?_) | wp_step))
  show R (.ok (.ret (.ref (h.push emptyDict).objs.size))) _
  rw [Heap.size_push]
  exact hq
/-- a call of the accumulator's class -/
theorem acc_make {a : Value} (X : (hd.heap_39 w.params).In h)
    (hq : codeAny (model prog w) (A.under (.builtin "type.__call__" ⟨[.ref 185, a], []⟩)) (.call (.ref 122) ⟨[.ref (h.objs.size + 1), a], []⟩) (InitBack (h.objs.size + 1) R) ⟨(h.push emptyDict).push (accObj h.objs.size #[] 0), g, d, t, os⟩) :
    codeAny (model prog w) A (.call (.ref 185) ⟨[a], []⟩) R ⟨h, g, d, t, os⟩ := by
  have hC := X 185 _ (by k_is)
  have call : Looks (model prog w) h (specialOf (.ref 185) "__call__") (some (.builtin "type.__call__")) := looks_specialIn X (by k_is)
  have typ : Looks (model prog w) h (isInstance (.ref 185) (.type "type")) true := looks_instIn X (by k_is)
  have hm := acc_mro (M := model prog w) X
  have made := acc_made (M := model prog w) X
  refine codeAny_of_tree ?_
  show wpAny _ _ (callAny (.ref 185) _) _ _ _
  refine nd_load hC ?_
  show wpAny _ _ (callAny.viaDunder (.ref 185) _) _ _ _
  unfold callAny.viaDunder
  refine wpAny_bind (call.at ?_)
  dsimp only
  rw [tc_bind]
  refine wpAny_bind (wpAny_pure (wpAny_bind (wpAny_pure ?_)))
  refine wpAny_pure (a := Fin.again (.call (.builtin "type.__call__") ⟨[.ref 185, a], []⟩)) ⟨rfl, ?_⟩
  refine codeAny_call_builtin_at (Code.quiet_builtin _ (by decide +kernel)) entry_typeCall (check_slot tc_kind tc_split typ (tc_args _ _ _) ?_)
  repeat (any_goals (first | assumption | with_reducible refine Looks.at (by assumption) ?_ | with_reducible refine wpAny_onRaise ?_ | wp_step))
  refine acc_new X ?_
  have X2 := (X.keeps (le_push h emptyDict)).keeps (le_push _ (accObj h.objs.size #[] 0))
  have hx : ((h.push emptyDict).push (accObj h.objs.size #[] 0)).get? (h.objs.size + 1) = some (accObj h.objs.size #[] 0) := by heap_get
  generalize (h.push emptyDict).push (accObj h.objs.size #[] 0) = h2 at X2 hx hq
  have t1 : Looks (model prog w) h2 (typeOf (.ref (h.objs.size + 1))) (.ref 185) := (Looks.ld hx).andThen .now
  have s1 : Looks (model prog w) h2 (isSubtype (.ref 185) (.ref 185)) true := looks_subIn X2 (by k_is)
  have i1 : Looks (model prog w) h2 (isInstance (.ref (h.objs.size + 1)) (.ref 185)) true := t1.andThen s1
  have l1 : Looks (model prog w) h2 (typeLookup (.ref 185) "__init__") (some (.ref 122)) := looks_findIn X2 (by k_is)
  have b1 : Looks (model prog w) h2 (bindSpecial (.ref 122) (.ref (h.objs.size + 1))) (.ref 122, [.ref (h.objs.size + 1)]) := bind_fn X2 _ (by k_is)
  dsimp only
  refine wpAny_bind (i1.here ?_)
  simp only [Bool.not_true, Bool.false_eq_true, if_false]
  unfold callSpecial? specialOf
  repeat (any_goals (first | assumption | with_reducible refine Looks.at (by assumption) ?_ | with_reducible refine wpAny_onRaise ?_ | wp_step))
  refine codeAny_mono hq fun r s' z => ?_
  rcases r with e | (v | _ | _ | _) <;> first | exact z | exact z.elim | skip
  obtain ⟨rfl, z⟩ := z
  exact wpAny_pure (wpAny_pure z)
end
end Mine
end

section
open PySem PySem.W PySem.Calls PySem.Spec PyProof.Rows PyProof.Rows.LCg
set_option Elab.async false
set_option maxRecDepth 100000
set_option maxHeartbeats 2000000
set_option linter.unusedVariables false
namespace Mine
theorem fillite21 : (fun (_ : Params → Frag) => True) hd.heap_39 ∧ PySem.Challenge.rw_xp0030_01.prog = PySem.Challenge.rw_xp0030_01.prog := by
  k_fill
  exact ⟨trivial, rfl⟩
section
variable {prog : Program} {w : World} {A : Around} {E : Value → Shared → Prop} {hb : Heap} {x dx : Addr}
set_option maxHeartbeats 8000000 in
theorem acc_init {t0 : Tok} {s : Shared} {Q : Value → Shared → Prop} (P : Pr prog) (C : Cx (hd.heap_39 w.params) A 2 20 hb) (hle : Le hb s.heap) (hx : s.heap.get? x = some (accObj dx #[] 0)) (hdx : s.heap.get? dx = some (dictOf [] 0)) (bx : hb.get? x = none) (bdx : hb.get? dx = none)
    (hq : ∀ s' n k h1 t u, Chg [x, dx] s s' → s'.heap.get? x = some (accObj dx #[] n) → s'.heap.get? dx = some (dictOf [⟨h1, .str "_initial_size" t, .int 0 u⟩] k) → Q .none s') :
    codeAny (model prog w) A (.call (.ref 122) ⟨[.ref x, .int 0 t0], []⟩) (Back Q E) s := by
  have hne : x ≠ dx := fun e => by rw [e, hdx] at hx; cases hx
  k_dflt (refine' enter_supc (D := 1) (U := 17) (binds := [("self", .ref x), ("initial_size", .int 0 t0)]) C hle ?ho ?hcd ?hbind ?hloc ?h ?k1 ?k2 ?k3 ?k4)
  case ho => k_is
  case hcd => k_is
  case hbind => exact fun X => BindsTo.of_defaults rfl (X _ _ (by k_is)) rfl (by rfl) (by rfl)
  case hloc => exact locs (by kernel_rfl)
  case k1 => decide
  case k2 => rfl
  case k3 => rfl
  case k4 => rfl
  intro A' L h₁ tk C' hn le hL
  have X := ((C'.wl.mono hle).mono le)
  have hself : (fun y => List.lookup y ([("self", Value.ref x), ("initial_size", .int 0 t0)] : List (Str × Value)).reverse) "self" = some (.ref x) := by kernel_rfl
  have hini : (fun y => List.lookup y ([("self", Value.ref x), ("initial_size", .int 0 t0)] : List (Str × Value)).reverse) "initial_size" = some (.int 0 t0) := by kernel_rfl
  have hLx : L ≠ x := fun e => by rw [e, hx] at hL; cases hL
  have hLd : L ≠ dx := fun e => by rw [e, hdx] at hL; cases hL
  -- self._initial_size = initial_size
  refine ks_wpAt_execs_cons (wpAt_of_wpAny (plainObj_wpAny_Assign_Attribute (wpAny_Name (wpAny_loadName_local (by kernel_rfl) (by kernel_rfl) hn hini (wpAny_Name (wpAny_loadName_local (by kernel_rfl) (by kernel_rfl) hn hself ?_) (by kernel_rfl))) (by kernel_rfl)) (by kernel_rfl)))
  refine acc_setAttr X.X (le _ _ hx) (le _ _ hdx) (by kernel_rfl) (by simp) (by k_is) fun h2 e2 sb2 => ?_
  dsimp only
  have le2 : Le hb h2 := fun b ob e => (sb2.2 b fun z => by rw [z, bdx] at e; cases e).trans (le _ _ (hle _ _ e))
  have X2 := C'.wl.mono le2
  have hx2 : h2.get? x = some (accObj dx #[] 0) := (sb2.2 x hne).trans (le _ _ hx)
  have hn2 := hn.sameBut sb2 hLd
  -- super().__init__()
  refine ks_wpAt_execs_cons (ks_wpAt_Expr_any (sup_call P X2 hn2 hx2 (by k_is) rfl hself (by k_is) rfl (by kernel_rfl) (by kernel_rfl) (by kernel_rfl) (by kernel_rfl) rfl fun so h' le' hso => ?_))
  refine sup_method (X2.mono le').X (le' _ _ hx2) hso (by kernel_rfl) ty_init wd_get_lk (by kernel_rfl) (fun A t R => wd_init (X2.mono le').X (le' _ _ hx2)) ?_
  refine callWith_b0 ⟨.inr rfl, _, rfl⟩ (Heap.get?_push_size _ rfl) (sup_init ((X2.mono le').mono (le_push _ _)).X (Heap.get?_push_size _ rfl) (le_push _ _ _ _ (le' _ _ hx2)) fun h3 n3 e3 sb3 => ?_)
  have hd3 : h3.get? dx = _ := (sb3.2 dx (Ne.symm hne)).trans (le_push _ _ _ _ (le' _ _ e2))
  exact wpAt_of_wpAny (wpAny_execs_nil (hq _ n3 _ _ _ _ ⟨fun b ob hb e => (sb3.2 b fun z => hb (by rw [z]; simp)).trans (le_push _ _ _ _ (le' _ _ ((sb2.2 b fun z => hb (by rw [z]; simp)).trans (le _ _ e)))), rfl, id⟩ e3 hd3))
end
end Mine
end

section
open PySem PySem.W PySem.Calls PySem.Spec PyProof.Rows PyProof.Rows.LCg
set_option Elab.async false
set_option maxRecDepth 100000
set_option maxHeartbeats 2000000
set_option linter.unusedVariables false
namespace Mine
theorem fillite22 : (fun (_ : Params → Frag) => True) hd.heap_39 ∧ PySem.Challenge.rw_xp0030_01.prog = PySem.Challenge.rw_xp0030_01.prog := by
  k_fill
  exact ⟨trivial, rfl⟩
theorem Cx.tc {K : Frag} {A : Around} {D U : Nat} {hb : Heap} {args : Args} (C : Cx K A (D + 1) (U + 1) hb) (hw : (Code.builtin "type.__call__" args).weight = 1) (hu : (Code.builtin "type.__call__" args).cUnits = 1) : Cx K (A.under (.builtin "type.__call__" args)) D U hb := ⟨C.wl, C.hh, by
  have := C.dp
  show A.depth + (Code.builtin "type.__call__" args).weight + D < recursionLimit
  (first | lia | omega), by
  have := C.un
  show A.units + (Code.builtin "type.__call__" args).cUnits + U < cLine
  (first | lia | omega)⟩
theorem dict_ne_list (e : Value.type "dict" = Value.type "list") : False := by injection e with e; exact absurd e (by decide)
/-- the writer's frame while it is being made -/
structure Wi (hb : Heap) (W : List Addr) (env : Env) (ρ : Ro) (s₀ : Shared) (z dz : Addr) (s : Shared) (es : List DictEntry) (k : Nat) : Prop where
  F : Frm hb env W [] s.heap ρ
  off : Off [dz] hb W env
  hz : s.heap.get? z = some (wrObj dz)
  hdz : s.heap.get? dz = some (dictOf es k)
  chg : Chg [dz] s₀ s
section
variable {hb : Heap} {W : List Addr} {env : Env} {ρ : Ro} {s₀ s s' : Shared} {z dz : Addr} {es es' : List DictEntry} {k k' : Nat}
theorem Wi.grow (m : Wi hb W env ρ s₀ z dz s es k) (g : Grow s s') : Wi hb W env ρ s₀ z dz s' es k := ⟨m.F.grow g.heap, m.off, g.heap _ _ m.hz, g.heap _ _ m.hdz, m.chg.trans g.chg⟩
theorem Wi.set {h' : Heap} {tk : Nat} (m : Wi hb W env ρ s₀ z dz s es k) (e : h'.get? dz = some (dictOf es' k')) (sb : Heap.SameBut dz s.heap h') : Wi hb W env ρ s₀ z dz { s with heap := h', toks := tk } es' k' :=
  have hne : z ≠ dz := fun q => by have := m.hz; rw [q, m.hdz] at this; cases this
  ⟨m.F.chg m.off (fun b ob hb' e' => (sb.2 b fun q => hb' (by rw [q]; simp)).trans e') (fun a ha => by rw [List.mem_singleton.mp ha]; exact ⟨_, e⟩), m.off, (sb.2 z hne).trans m.hz, e, m.chg.trans (.same (by simp) sb)⟩
end
section
variable {prog : Program} {w : World} {A : Around} {E : Value → Shared → Prop} {hb : Heap} {W : List Addr} {z dz : Addr} {room : Int}
theorem fresh_at {h : Heap} {a : Addr} (ha : h.objs.size ≤ a) : h.get? a = none := by
  cases e : h.get? a with
  | none => rfl
  | some o => exact absurd (Heap.lt_size e) (Nat.not_lt.mpr ha)
theorem none_le {h h' : Heap} {a : Addr} (k : Le h h') (e : h'.get? a = none) : h.get? a = none := by
  cases q : h.get? a with
  | none => rfl
  | some o => rw [k a o q] at e; cases e
/-- an accumulator is made -/
theorem acc_call {t0 : Tok} {h : Heap} {g : Array GenState} {d : Drawn} {t : Nat} {os : OsState} {Q : Value → Shared → Prop} (P : Pr prog) (C : Cx (hd.heap_39 w.params) A 3 22 hb) (hle : Le hb h)
    (hq : ∀ s' x dx n k h1 t' u, h.get? x = none → h.get? dx = none → Grow ⟨h, g, d, t, os⟩ s' → s'.heap.get? x = some (accObj dx #[] n) → s'.heap.get? dx = some (dictOf [⟨h1, .str "_initial_size" t', .int 0 u⟩] k) → Q (.ref x) s') :
    wpAny (model prog w) A (PySem.call (.ref 185) [.int 0 t0]) Q E ⟨h, g, d, t, os⟩ := by
  have X := C.wl.mono hle
  refine wpAny_call (acc_make X.X ?_)
  have le9 : Le h ((h.push emptyDict).push (accObj h.objs.size #[] 0)) := (le_push _ _).trans (le_push _ _)
  have hx9 : ((h.push emptyDict).push (accObj h.objs.size #[] 0)).get? (h.objs.size + 1) = some (accObj h.objs.size #[] 0) := by heap_get
  have hd9 : ((h.push emptyDict).push (accObj h.objs.size #[] 0)).get? h.objs.size = some (dictOf [] 0) := by heap_get
  have nd8 : h.get? h.objs.size = none := fresh_at (Nat.le_refl _)
  have nx8 : h.get? (h.objs.size + 1) = none := fresh_at (Nat.le_succ _)
  generalize (h.push emptyDict).push (accObj h.objs.size #[] 0) = h9 at le9 hx9 hd9
  generalize h.objs.size + 1 = x at hx9 nx8
  generalize h.objs.size = dx at hx9 hd9 nd8
  refine codeAny_mono (acc_init (E := E) (Q := fun v s' => v = .none ∧ Q (.ref x) s') P (Cx.tc (C.mono le_rfl (by decide) (by decide)) (by kernel_rfl) (by kernel_rfl)) (hle.trans le9) hx9 hd9 (none_le hle nx8) (none_le hle nd8) fun s' n k h1 t' u c ex ed => ⟨rfl, hq s' x dx n k h1 t' u nx8 nd8 ⟨fun b o e => ?_, c.os, c.gens⟩ ex ed⟩) fun r s' y => ?_
  · refine c.heap b o (fun q => ?_) (le9 _ _ e)
    rcases List.mem_cons.mp q with rfl | q
    · rw [nx8] at e; cases e
    · rw [List.mem_singleton.mp q, nd8] at e; cases e
  · rcases r with e | (_ | _ | _ | v) <;> first | exact y | exact y.elim | exact ⟨y.1, y.2⟩
set_option maxHeartbeats 16000000 in
theorem wr_init {s : Shared} {a0 a1 a2 a3 : Value} {Q : Value → Shared → Prop} (P : Pr prog) (C : Cx (hd.heap_39 w.params) A 6 60 hb) (hle : Le hb s.heap) (hth : There W s.heap) (hW : dz ∈ W) (bdz : hb.get? dz = none)
    (hz : s.heap.get? z = some (wrObj dz)) (hdz : s.heap.get? dz = some (dictOf [] 0))
    (r0 : Rp (hideAll s.heap W) a0 (.int 0)) (r1 : Rp (hideAll s.heap W) a1 (.int room)) (r2 : Rp (hideAll s.heap W) a2 (.str " ")) (r3 : Rp (hideAll s.heap W) a3 (.str " "))
    (hq : ∀ s' x dx l, Chg [dz] s s' → s.heap.get? x = none → s.heap.get? dx = none → s.heap.get? l = none →
      (∃ es k, s'.heap.get? dz = some (dictOf es k) ∧ DzS room l x es) →
      (∃ n, s'.heap.get? x = some (accObj dx #[] n)) → (∃ k h1 t u, s'.heap.get? dx = some (dictOf [⟨h1, .str "_initial_size" t, .int 0 u⟩] k)) →
      (∃ n, s'.heap.get? l = some { cls := .type "list", data := .seq #[] n }) → Q .none s') :
    codeAny (model prog w) A (.call (.ref 42) ⟨[.ref z, a0, a1, a2, a3], []⟩) (Back Q E) s := by
  k_dflt (refine' enter_cd (O := [dz]) (D := 5) (U := 57) ["self", "headerlen", "maxlen", "continuation_ws", "splitchars"] (ds := [rawD z, .int 0, .int room, .str " ", .str " "]) C hle hth (.cons (.raw _) (.cons r0 (.cons r1 (.cons r2 (.cons r3 .nil))))) ?hO ?ho ?hcd ?hbind rfl ?k1 ?k2 ?k3 ?k4 ?h ?c1 ?c2 ?c3)
  case hO => exact fun a ha => by rw [List.mem_singleton.mp ha]; exact ⟨hW, bdz⟩
  case ho => k_is
  case hcd => k_is
  case hbind => exact fun _ => BindsTo.of_eq (by kernel_rfl)
  case k1 => decide
  case k2 => decide
  case k3 => decide
  case k4 => decide
  case c1 => rfl
  case c2 => rfl
  case c3 => rfl
  intro A' L W' s₁ E' C' F off g1 hL inW hW'
  have m1 : Wi hb W' _ _ s z dz s₁ [] 0 := ⟨F, off, g1.heap _ _ hz, g1.heap _ _ hdz, g1.chg⟩
  -- self._maxlen = maxlen
  have X1 := C'.wl.mono m1.F.keep
  refine wpAny_execs_cons (plainObj_wpAny_Assign_Attribute (nm_loc m1.F (d := .int room) (by kernel_rfl) fun v1 q1 => nm_raw (a := z) m1.F (by kernel_rfl) ?_) (by kernel_rfl))
  cases q1
  obtain ⟨hh1, gg1, d1, t1, os1⟩ := s₁
  refine wr_setAttr X1.X m1.hz m1.hdz (by kernel_rfl) (by simp) (by k_is) fun h2 e2 sb2 => ?_
  dsimp only
  have m2 := m1.set (tk := t1 + 2) e2 sb2
  -- self._continuation_ws = continuation_ws
  have X2 := C'.wl.mono m2.F.keep
  refine wpAny_execs_cons (plainObj_wpAny_Assign_Attribute (nm_loc m2.F (d := .str " ") (by kernel_rfl) fun v2 q2 => nm_raw (a := z) m2.F (by kernel_rfl) ?_) (by kernel_rfl))
  cases q2
  refine wr_setAttr X2.X m2.hz m2.hdz (by kernel_rfl) (Nat.le_of_ble_eq_true (by kernel_rfl)) (by k_is) fun h3 e3 sb3 => ?_
  dsimp only
  have m3 := m2.set (tk := t1 + 2 + 2) e3 sb3
  -- self._continuation_ws_len = len(continuation_ws)
  refine wpAny_execs_cons (plainObj_wpAny_Assign_Attribute (Ev.run (d := .int 1) (bt (op_lenS (x := " ") (by decide +kernel)) m3.F C' (evs_cons (ev_loc m3.F) evs_nil)) le_rfl fun v3 s₄ g₄ q3 => ?_) (by kernel_rfl))
  have m4 := m3.grow g₄
  refine nm_raw (a := z) m4.F (by kernel_rfl) ?_
  have X4 := C'.wl.mono m4.F.keep
  cases q3
  obtain ⟨hh4, gg4, d4, t4, os4⟩ := s₄
  refine wr_setAttr X4.X m4.hz m4.hdz (by kernel_rfl) (Nat.le_of_ble_eq_true (by kernel_rfl)) (by k_is) fun h5 e5 sb5 => ?_
  dsimp only
  have m5 := m4.set (tk := t4 + 2) e5 sb5
  -- self._splitchars = splitchars
  have X5 := C'.wl.mono m5.F.keep
  refine wpAny_execs_cons (plainObj_wpAny_Assign_Attribute (nm_loc m5.F (d := .str " ") (by kernel_rfl) fun v5 q5 => nm_raw (a := z) m5.F (by kernel_rfl) ?_) (by kernel_rfl))
  cases q5
  refine wr_setAttr X5.X m5.hz m5.hdz (by kernel_rfl) (Nat.le_of_ble_eq_true (by kernel_rfl)) (by k_is) fun h6 e6 sb6 => ?_
  dsimp only
  have m6 := m5.set (tk := t4 + 2 + 2) e6 sb6
  -- self._lines = []
  refine wpAny_execs_cons (plainObj_wpAny_Assign_Attribute (List_ (Calls.spliced_nil (wpAny_newList ?_ (Nat.zero_le _)))) (by kernel_rfl))
  have m7 : Wi hb W' _ _ s z dz ⟨h6.push { cls := .type "list", data := .seq ([] : List Value).toArray }, gg4, d4, t4 + 2 + 2, os4⟩ _ _ := m6.grow (Grow.push _ _)
  refine nm_raw (a := z) m7.F (by kernel_rfl) ?_
  have hl7 : (h6.push { cls := .type "list", data := .seq ([] : List Value).toArray }).get? h6.objs.size = some { cls := .type "list", data := .seq ([] : List Value).toArray } := Heap.get?_push_size _ rfl
  have X7 := C'.wl.mono m7.F.keep
  refine wr_setAttr X7.X m7.hz m7.hdz (by kernel_rfl) (Nat.le_of_ble_eq_true (by kernel_rfl)) (by k_is) fun h8 e8 sb8 => ?_
  dsimp only
  have m8 := m7.set (tk := t4 + 2 + 2 + 2) e8 sb8
  have hl8 : h8.get? h6.objs.size = some { cls := .type "list", data := .seq ([] : List Value).toArray } := (sb8.2 _ fun q => by rw [q, m7.hdz] at hl7; exact dict_ne_list (congrArg Obj.cls (Option.some.inj hl7))).trans hl7
  -- self._current_line = _Accumulator(headerlen)
  have X8 := C'.wl.mono m8.F.keep
  refine wpAny_execs_cons (plainObj_wpAny_Assign_Attribute (wpAny_Call_NameR (name_glob m8.F C'.wl le_rfl (by kernel_rfl) (by k_is) (callWith_K X8.X (by k_is) (spliced_cons (nm_loc m8.F (d := .int 0) (by kernel_rfl) fun v8 q8 => Calls.spliced_nil ⟨X8.X, ?_⟩)) (by kernel_rfl) (by kernel_rfl)))) (by kernel_rfl))
  cases q8
  refine acc_call P (C'.mono le_rfl (by decide) (by decide)) m8.F.keep fun s₉ x dx n9 k9 g9 t9 u9 nx nd gr ex ed => ?_
  have m9 := m8.grow gr
  refine nm_raw (a := z) m9.F (by kernel_rfl) ?_
  have X9 := C'.wl.mono m9.F.keep
  obtain ⟨hh9, gg9, d9, t10, os9⟩ := s₉
  refine wr_setAttr X9.X m9.hz m9.hdz (by kernel_rfl) (Nat.le_of_ble_eq_true (by kernel_rfl)) (by k_is) fun h10 e10 sb10 => ?_
  dsimp only
  have m10 := m9.set (tk := t10 + 2) e10 sb10
  have hl9 := gr.heap _ _ hl8
  have old : ∀ a, h8.get? a = none → a ≠ dz := fun a e q => by rw [q] at e; have := m8.hdz; rw [show (h8.get? dz) = none from e] at this; cases this
  have nl6 : h6.get? h6.objs.size = none := fresh_at (Nat.le_refl _)
  have nldz : h6.objs.size ≠ dz := fun q => by rw [q] at nl6; have := m6.hdz; rw [show (h6.get? dz) = none from nl6] at this; cases this
  have none_of : ∀ {a : Addr} {h : Heap}, (∀ b o, b ∉ [dz] → s.heap.get? b = some o → h.get? b = some o) → a ≠ dz → h.get? a = none → s.heap.get? a = none := fun {a h} k hne e => by
    cases q : s.heap.get? a with
    | none => rfl
    | some o => rw [k a o (by simpa using hne) q] at e; cases e
  refine wpAny_execs_nil (hq _ x dx h6.objs.size m10.chg (none_of m8.chg.heap (old _ nx) nx) (none_of m8.chg.heap (old _ nd) nd) (none_of m6.chg.heap nldz nl6) ⟨_, _, m10.hdz, _, _, _, _, _, _, _, _, _, _, _, _, _, _, _, _, by rfl⟩ ⟨_, (sb10.2 _ (old _ nx)).trans ex⟩ ⟨_, _, _, _, (sb10.2 _ (old _ nd)).trans ed⟩ ⟨_, (sb10.2 _ nldz).trans hl9⟩)
end
end Mine
end

section
open PySem PySem.W PySem.Calls PySem.Spec PyProof.Rows PyProof.Rows.LCg
set_option Elab.async false
set_option maxRecDepth 100000
set_option maxHeartbeats 2000000
set_option linter.unusedVariables false
namespace Mine
theorem fillite23 : (fun (_ : Params → Frag) => True) hd.heap_39 ∧ PySem.Challenge.rw_xp0030_01.prog = PySem.Challenge.rw_xp0030_01.prog := by
  k_fill
  exact ⟨trivial, rfl⟩
theorem strs_of {g : Heap} : ∀ {vs : List Value} {ts : List Str}, RpL g vs (ts.map .str) → ∃ l : List (Str × Tok), vs = strValues l ∧ l.map (·.1) = ts := by
  intro vs ts
  induction ts generalizing vs with
  | nil => intro r; cases r; exact ⟨[], rfl, rfl⟩
  | cons t ts ih =>
    intro r
    cases r with
    | cons a r =>
      cases a
      obtain ⟨l, e1, e2⟩ := ih r
      rename_i tk
      exact ⟨(t, tk) :: l, by rw [e1]; rfl, by simp [e2]⟩
section
variable {prog : Program} {w : World} {A : Around} {E : Value → Shared → Prop} {hb : Heap} {W : List Addr} {o : Ob} {room : Int} {lines : List Str} {cur : List (Str × Str)} {s : Shared} {Q : Value → Shared → Prop}
set_option maxHeartbeats 8000000 in
theorem wstr_m {p : Str × Str} {sv : Value} (P : Pr prog) (m : Md (hd.heap_39 w.params) A 8 95 hb W o s.heap room lines (cur ++ [p])) (hz : cur.length ≤ 800) (hl : lines.length ≤ 800) (hs : ∀ q ∈ cur ++ [p], q.1.length ≤ 1000 ∧ q.2.length ≤ 1000) (hpos : lenOf (cur ++ [p]) ≠ 0) (hsp : Txt.isspace (strOf (cur ++ [p])) = false)
    (hcl : (encP p).canLay0 = true) (hne : PyData.eqv (encP p) (encP (" ", "")) = false) (rs : Rp (hideAll s.heap W) sv (.str "\n")) (hok : JoinOk "\n" (lines ++ [strOf (cur ++ [p])]) = true)
    (q : ∀ t s', Chg o.all s s' → WS o W s'.heap room (lines ++ [strOf (cur ++ [p])]) [] → Q (.str (Txt.join "\n" (lines ++ [strOf (cur ++ [p])])) t) s') : wpAny (model prog w) A (PySem.call (.ref 49) [.ref o.z, sv]) Q E s := by
  k_dflt (refine' enter_m (D := 7) (U := 92) ["self", "linesep"] (ds := [rawD o.z, .str "\n"]) m (.cons (.raw _) (.cons rs .nil)) ?ho ?hcd ?hbind rfl ?k1 ?k2 ?k3 ?k4 ?h ?c1 ?c2 ?c3)
  case ho => k_is
  case hcd => k_is
  case hbind => exact fun _ => BindsTo.of_eq (by kernel_rfl)
  case k1 => decide
  case k2 => decide
  case k3 => decide
  case k4 => decide
  case c1 => rfl
  case c2 => rfl
  case c3 => rfl
  intro A' L W' s₁ E' C' M inW _ _
  -- self.newline()
  refine wpAny_execs_cons (wpAny_Expr (MethodCall_ (nm_raw (a := o.z) M.F (by kernel_rfl) ?_) (by rfl)) (by kernel_rfl) (by rfl))
  refine z_method M C' (fun es d => (dz_none d).1) (by k_is) (by k_is) ?_
  refine callWith_K0 (C'.wl.mono M.F.keep).X (by k_is) ?_
  refine newline_m P (M.md C') hz hl hs hpos hsp hcl hne fun s₂ c2 ws2 => ?_
  have M2 := M.step c2 ws2
  -- return linesep.join(self._lines)
  refine wpAny_execs_cons (wpAny_Return_some (MethodCall_ (nm_loc M2.F (d := .str "\n") (by kernel_rfl) fun lv rl => ?_) (by rfl)))
  cases rl
  refine GM.join ?_
  refine callWith_method1 (spliced_cons (rd_lines M2 C' (by kernel_rfl) fun s₃ M3 _ => Calls.spliced_nil ?_)) (by kernel_rfl) (by kernel_rfl)
  obtain ⟨vs, n, el, r⟩ := M3.ws.l
  obtain ⟨l, e1, e2⟩ := strs_of r
  refine SC.join (l := l) ⟨_, el, rfl, n, ?_⟩ e2 hok fun t' k => ?_
  · rw [← e1]
  have M4 := M3.grow (Grow.tok s₃ k)
  exact q _ _ M4.chg (M4.ws.back inW)
end
end Mine
end

section
open PySem PySem.StrLaws
set_option Elab.async false
set_option linter.unusedVariables false
namespace Mine
/-! ## texts: joining, splitting, counting -/
theorem join_cons2 (sep p q : Str) (r : List Str) : (Str.join sep (p :: q :: r)).cps.toList = p.cps.toList ++ sep.cps.toList ++ (Str.join sep (q :: r)).cps.toList := by
  show (p ++ sep ++ Str.join sep (q :: r)).cps.toList = _
  simp only [Str.cps_append, Array.toList_append]
theorem join_count (c : Nat) : ∀ (p : Str) (r : List Str), (∀ q ∈ p :: r, c ∉ q.cps.toList) → (Str.join ⟨#[c]⟩ (p :: r)).cps.toList.count c = r.length
  | p, [], h => by
    show p.cps.toList.count c = 0
    exact List.count_eq_zero.mpr (h p (List.mem_cons_self ..))
  | p, q :: r, h => by
    rw [join_cons2, List.count_append, List.count_append, join_count c q r fun a ha => h a (List.mem_cons_of_mem _ ha), List.count_eq_zero.mpr (h p (List.mem_cons_self ..))]
    show 0 + [c].count c + r.length = r.length + 1
    rw [List.count_singleton_self]; (first | lia | omega)
theorem partsFrom_length (x : Str) (w : Nat) : ∀ (cuts : List Nat) (a : Nat), (partsFrom x w a cuts).length = cuts.length + 1
  | [], _ => rfl
  | c :: r, a => by show (partsFrom x w (c + w) r).length + 1 = _; rw [partsFrom_length x w r]; rfl
theorem count_one (x : Str) (c : Nat) : Txt.count x ⟨#[c]⟩ = ((x.cps.toList.count c : Nat) : Int) := by
  obtain ⟨f, hG, hn⟩ := occ_tight x ⟨#[c]⟩ (Nat.le_refl 1)
  obtain ⟨f', hC⟩ := occ_chain x ⟨#[c]⟩ (x.length + 1)
  have fr := parts_free x c _ 0 f hG hn
  have jn := join_partsFrom x ⟨#[c]⟩ _ 0 f' hC
  rw [sub_whole] at jn
  unfold Txt.count
  generalize Builtin.Str.occurrences x ⟨#[c]⟩ 0 x.length (x.length + 1) = cuts at fr jn
  obtain ⟨p, r, e⟩ := partsFrom_ne x (⟨#[c]⟩ : Str).length 0 cuts
  have hl := partsFrom_length x (⟨#[c]⟩ : Str).length cuts 0
  rw [e] at fr jn hl
  rw [← jn, join_count c p r fr]
  simp only [List.length_cons] at hl
  (first | lia | omega)
theorem tw_join (c : Nat) (a : Str) (r : List Str) (h : c ∉ a.cps.toList) : (Str.join ⟨#[c]⟩ (a :: r)).cps.toList.takeWhile (· != c) = a.cps.toList := by
  have ha : ∀ x ∈ a.cps.toList, (x != c) = true := fun x hx => by
    rw [bne_iff_ne]; exact fun q => h (q ▸ hx)
  cases r with
  | nil =>
    have := List.takeWhile_append_of_pos (l₂ := []) ha
    rw [List.append_nil, List.takeWhile_nil, List.append_nil] at this
    exact this
  | cons q r =>
    rw [join_cons2, List.append_assoc, List.takeWhile_append_of_pos ha]
    show _ ++ ([c] ++ _).takeWhile _ = _
    simp
theorem split_ne (x y : Str) : ∃ b r, Txt.split x y = b :: r := by
  unfold Txt.split
  split
  · exact ⟨_, _, rfl⟩
  · split
    · exact ⟨_, _, rfl⟩
    · rw [partsBetween_eq]; exact partsFrom_ne ..
theorem split_first (c : Nat) (a : Str) (r : List Str) (h : c ∉ a.cps.toList) : ∃ r', Txt.split (Str.join ⟨#[c]⟩ (a :: r)) ⟨#[c]⟩ = a :: r' := by
  obtain ⟨b, r', e⟩ := split_ne (Str.join ⟨#[c]⟩ (a :: r)) ⟨#[c]⟩
  have hb := split_free (Str.join ⟨#[c]⟩ (a :: r)) c b (by rw [e]; exact List.mem_cons_self ..)
  have hj := join_split (Str.join ⟨#[c]⟩ (a :: r)) ⟨#[c]⟩
  rw [e] at hj
  have h1 := tw_join c b r' hb
  rw [hj, tw_join c a r h] at h1
  have : a = b := Str.ext' (Array.toList_inj.mp h1)
  exact ⟨r', by rw [e, this]⟩
theorem join_flat : ∀ ls : List Str, (Str.join "" ls).cps.toList = ls.flatMap (·.cps.toList)
  | [] => rfl
  | [p] => by show p.cps.toList = _; simp
  | p :: q :: r => by
    rw [join_cons2, join_flat (q :: r)]
    show p.cps.toList ++ [] ++ _ = _
    simp
theorem pair_flat (p : Str × Str) : (pairTxt p).cps.toList = p.1.cps.toList ++ p.2.cps.toList := by
  unfold pairTxt
  show (Builtin.Str.glued "" [p.1, p.2]).cps.toList = _
  rw [glued_eq_join, join_flat]; simp
theorem strOf_flat (cur : List (Str × Str)) : (strOf cur).cps.toList = cur.flatMap fun p => p.1.cps.toList ++ p.2.cps.toList := by
  unfold strOf
  show (Builtin.Str.glued "" (cur.map pairTxt)).cps.toList = _
  rw [glued_eq_join, join_flat, List.flatMap_map]
  congr 1; funext p; exact pair_flat p

/-! ## the words -/
structure Wd (wd : Str) : Prop where
  pos : 1 ≤ wd.length
  short : wd.length ≤ 10
  sp : 32 ∉ wd.cps.toList
  nl : 10 ∉ wd.cps.toList
  ink : ∃ c ∈ wd.cps.toList, Unicode.isSpace c = false
  lay : (encP (" ", wd)).canLay0 = true
  ne : PyData.eqv (encP (" ", wd)) (encP (" ", "")) = false
theorem sp_blank : (" " : Str).cps.toList = [32] := rfl
theorem row_count (ws : List Str) (h : ∀ wd ∈ ws, Wd wd) : (strOf (ws.map sp)).cps.toList.count 32 = ws.length := by
  rw [strOf_flat]
  induction ws with
  | nil => rfl
  | cons wd ws ih =>
    rw [List.map_cons, List.flatMap_cons, List.count_append, ih fun a ha => h a (List.mem_cons_of_mem _ ha), List.count_append]
    show [32].count 32 + wd.cps.toList.count 32 + ws.length = ws.length + 1
    rw [List.count_eq_zero.mpr (h wd (List.mem_cons_self ..)).sp, List.count_singleton_self]; (first | lia | omega)
theorem row_nl (ws : List Str) (h : ∀ wd ∈ ws, Wd wd) : 10 ∉ (strOf (ws.map sp)).cps.toList := by
  rw [strOf_flat]
  intro hm
  obtain ⟨p, hp, hc⟩ := List.mem_flatMap.mp hm
  obtain ⟨wd, hw, rfl⟩ := List.mem_map.mp hp
  rcases List.mem_append.mp hc with hc | hc
  · have : (10 : Nat) ∈ [32] := hc
    simp at this
  · exact (h wd hw).nl hc
theorem row_ink (ws : List Str) (wd : Str) (h : Wd wd) (hm : wd ∈ ws) : Txt.isspace (strOf (ws.map sp)) = false := by
  obtain ⟨c, hc, hs⟩ := h.ink
  unfold Txt.isspace
  rw [Bool.and_eq_false_iff]
  right
  rw [← Array.all_toList, List.all_eq_false]
  refine ⟨c, ?_, by rw [hs]; decide⟩
  rw [strOf_flat]
  exact List.mem_flatMap.mpr ⟨sp wd, List.mem_map.mpr ⟨wd, hm, rfl⟩, List.mem_append_right _ hc⟩
theorem row_len (ws : List Str) : lenOf (ws.map sp) = (ws.map fun wd => wd.length + 1).sum := by
  unfold lenOf
  rw [List.map_map]
  congr 1
  apply List.map_congr_left
  intro wd _
  show (" " : Str).length + wd.length = _
  have : (" " : Str).length = 1 := by decide +kernel
  (first | lia | omega)
/-- the lines, word by word -/
noncomputable def step1 (room : Int) (st : List Str × List Str) (wd : Str) : List Str × List Str :=
  if room < (lenOf ((st.2 ++ [wd]).map sp) : Nat) then (st.1 ++ [strOf (st.2.map sp)], [wd]) else (st.1, st.2 ++ [wd])
/-- the words of the first row -/
noncomputable def takeRow (room : Int) : List Str → List Str → List Str
  | acc, [] => acc
  | acc, wd :: ws => if room < (lenOf ((acc ++ [wd]).map sp) : Nat) then acc else takeRow room (acc ++ [wd]) ws
theorem first_kept (room : Int) (l : Str) : ∀ (ws : List Str) (ls cur : List Str), ∃ r, (ws.foldl (step1 room) (l :: ls, cur)).1 = l :: r
  | [], ls, cur => ⟨_, rfl⟩
  | wd :: ws, ls, cur => by
    rw [List.foldl_cons]
    unfold step1
    split
    · exact first_kept room l ws _ _
    · exact first_kept room l ws _ _
theorem first_row (room : Int) : ∀ (ws cur : List Str), ∃ r, (ws.foldl (step1 room) ([], cur)).1 ++ [strOf ((ws.foldl (step1 room) ([], cur)).2.map sp)] = strOf ((takeRow room cur ws).map sp) :: r
  | [], cur => ⟨[], rfl⟩
  | wd :: ws, cur => by
    rw [List.foldl_cons]
    unfold takeRow step1
    split
    · obtain ⟨r, e⟩ := first_kept room (strOf (cur.map sp)) ws [] [wd]
      show ∃ r, (ws.foldl (step1 room) ([strOf (cur.map sp)], [wd])).1 ++ _ = _
      rw [e]
      exact ⟨_, rfl⟩
    · exact first_row room ws (cur ++ [wd])
theorem takeRow_sub (room : Int) : ∀ (ws acc : List Str), ∀ wd ∈ takeRow room acc ws, wd ∈ acc ∨ wd ∈ ws
  | [], acc, wd, h => .inl h
  | w :: ws, acc, wd, h => by
    unfold takeRow at h
    split at h
    · exact .inl h
    · rcases takeRow_sub room ws _ wd h with h | h
      · rcases List.mem_append.mp h with h | h
        · exact .inl h
        · rw [List.mem_singleton.mp h]; exact .inr (List.mem_cons_self ..)
      · exact .inr (List.mem_cons_of_mem _ h)
/-- how many words the first row takes, by their lengths -/
noncomputable def rowN (room : Int) : Nat → List Nat → Nat
  | _, [] => 0
  | acc, n :: ns => if room < ((acc + (n + 1) : Nat) : Int) then 0 else 1 + rowN room (acc + (n + 1)) ns
theorem takeRow_len (room : Int) : ∀ (ws acc : List Str), (takeRow room acc ws).length = acc.length + rowN room (lenOf (acc.map sp)) (ws.map (·.length))
  | [], acc => rfl
  | wd :: ws, acc => by
    have e : lenOf ((acc ++ [wd]).map sp) = lenOf (acc.map sp) + (wd.length + 1) := by
      rw [row_len, row_len, List.map_append, List.sum_append]; simp
    unfold takeRow
    rw [List.map_cons]
    unfold rowN
    rw [e]
    split
    · rfl
    · rw [takeRow_len room ws, e, List.length_append, List.length_singleton]; (first | lia | omega)
end Mine
end

section
open PySem PySem.W PySem.Calls PySem.Spec PyProof.Rows PyProof.Rows.LCg
set_option Elab.async false
set_option maxRecDepth 100000
set_option maxHeartbeats 2000000
set_option linter.unusedVariables false
namespace Mine
theorem fillite24 : (fun (_ : Params → Frag) => True) hd.heap_39 ∧ PySem.Challenge.rw_xp0030_01.prog = PySem.Challenge.rw_xp0030_01.prog := by
  k_fill
  exact ⟨trivial, rfl⟩
/-- more objects are hidden, all new -/
theorem Frm.widen {hb h h' : Heap} {env : Env} {W W2 : List Addr} {ρ : Ro} (F : Frm hb env W [] h ρ) (k : Le h h') (inW : ∀ a ∈ W, a ∈ W2) (new : ∀ a ∈ W2, a ∈ W ∨ h.get? a = none) (th : There W2 h') : Frm hb env W2 [] h' ρ := by
  have v : Le (hideAll h W) (hideAll h' W2) := hide_new new fun b o _ e => k b o e
  refine ⟨F.fn, F.gl, F.bl, F.keep.trans k, ?_, fun x c e => ?_, (fun _ _ _ hm => nomatch hm), inW _ F.lw, fun x c e => ?_, F.lb, F.has, th⟩
  · obtain ⟨m, a, b, _⟩ := F.ns
    exact ⟨m, ns_le k a, fun x d hx hr => let ⟨v', e, r⟩ := b x d hx hr; ⟨v', e, r.mono v⟩, (fun _ _ _ hm => nomatch hm)⟩
  · obtain ⟨vo, a, b⟩ := F.cl x c e
    exact ⟨vo, a.keeps k, fun d hr => let ⟨v', e', r⟩ := b d hr; ⟨v', e', r.mono v⟩⟩
  · obtain ⟨p, q, r, s, t⟩ := F.cw x c e
    exact ⟨inW _ p, q, r, s, t⟩
section
variable {prog : Program} {w : World} {A : Around} {E : Value → Shared → Prop} {hb : Heap} {W : List Addr} {room : Int}
/-- a writer is made -/
theorem wr_call {h : Heap} {g : Array GenState} {d : Drawn} {t : Nat} {os : OsState} {a0 a1 a2 a3 : Value} {Q : Value → Shared → Prop} (P : Pr prog) (C : Cx (hd.heap_39 w.params) A 7 62 hb) (hle : Le hb h) (hth : There W h)
    (r0 : Rp (hideAll h W) a0 (.int 0)) (r1 : Rp (hideAll h W) a1 (.int room)) (r2 : Rp (hideAll h W) a2 (.str " ")) (r3 : Rp (hideAll h W) a3 (.str " "))
    (t1 : ∃ ps, h.get? 147 = some { cls := .none, data := .fields ps } ∧ TriplesOk ps.toList) (t2 : ∃ ps, h.get? 154 = some { cls := .none, data := .fields ps } ∧ TriplesOk ps.toList)
    (hq : ∀ s' (o : Ob), Grow ⟨h, g, d, t, os⟩ s' → o.all.Nodup → (∀ a ∈ [o.z, o.dz, o.x, o.dx, o.l], h.get? a = none) → WS o (o.z :: o.dz :: o.x :: o.dx :: o.l :: W) s'.heap room [] [] → Q (.ref o.z) s') :
    wpAny (model prog w) A (PySem.call (.ref 101) [a0, a1, a2, a3]) Q E ⟨h, g, d, t, os⟩ := by
  have X := C.wl.mono hle
  have Y := makes_of (M := model prog w) (C := 101) X.X (by k_is)
  refine wpAny_call (make_core Y (looks_findIn X.X (by k_is)) (fun self => bind_fn X.X self (by k_is)) (.inl (by kernel_rfl)) ?_)
  have le9 : Le h ((h.push emptyDict).push (instObj 101 h.objs.size)) := (le_push _ _).trans (le_push _ _)
  have hx9 : ((h.push emptyDict).push (instObj 101 h.objs.size)).get? (h.objs.size + 1) = some (wrObj h.objs.size) := by heap_get
  have hd9 : ((h.push emptyDict).push (instObj 101 h.objs.size)).get? h.objs.size = some (dictOf [] 0) := by heap_get
  have nd8 : h.get? h.objs.size = none := fresh_at (Nat.le_refl _)
  have nx8 : h.get? (h.objs.size + 1) = none := fresh_at (Nat.le_succ _)
  have hzd : h.objs.size + 1 ≠ h.objs.size := Nat.succ_ne_self _
  generalize (h.push emptyDict).push (instObj 101 h.objs.size) = h9 at le9 hx9 hd9
  generalize h.objs.size + 1 = z at hx9 nx8 hzd
  generalize h.objs.size = dz at hx9 hd9 nd8 hzd
  have new1 : ∀ a ∈ dz :: W, a ∈ W ∨ h.get? a = none := fun a ha => by
    rcases List.mem_cons.mp ha with rfl | ha
    · exact .inr nd8
    · exact .inl ha
  have v1 : Le (hideAll h W) (hideAll h9 (dz :: W)) := hide_new new1 fun b o _ e => le9 b o e
  have th1 : There (dz :: W) h9 := fun a ha => by
    rcases List.mem_cons.mp ha with rfl | ha
    · exact ⟨_, hd9⟩
    · obtain ⟨o, e⟩ := hth a ha; exact ⟨o, le9 _ _ e⟩
  refine codeAny_mono (wr_init (E := E) (Q := fun v s' => v = .none ∧ Q (.ref z) s') (W := dz :: W) (room := room) P (Cx.tc (C.mono le_rfl (by decide) (by decide)) (by kernel_rfl) (by kernel_rfl)) (hle.trans le9) th1 (List.mem_cons_self ..) (none_le hle nd8) hx9 hd9 (r0.mono v1) (r1.mono v1) (r2.mono v1) (r3.mono v1) fun s' x dx l c nx nd nl hdz hx hdx hl => ⟨rfl, ?_⟩) fun r s' y => ?_
  · have up : Le h s'.heap := fun b o e => c.heap b o (fun q => by rw [List.mem_singleton.mp q, nd8] at e; cases e) (le9 _ _ e)
    obtain ⟨p1, e147, T1⟩ := t1
    obtain ⟨p2, e154, T2⟩ := t2
    have z147 : ∀ a, h.get? a = none → a ≠ 147 := fun a e q => by rw [q, e147] at e; cases e
    have z154 : ∀ a, h.get? a = none → a ≠ 154 := fun a e q => by rw [q, e154] at e; cases e
    have zz : ∀ a, h9.get? a = none → a ≠ z := fun a e q => by rw [q, hx9] at e; cases e
    have zd : ∀ a, h9.get? a = none → a ≠ dz := fun a e q => by rw [q, hd9] at e; cases e
    obtain ⟨n1, ex⟩ := hx
    obtain ⟨k1, g1, tt1, uu1, edx⟩ := hdx
    obtain ⟨n2, el⟩ := hl
    have xdx : x ≠ dx := fun q => by rw [q, edx] at ex; have := congrArg Obj.cls (Option.some.inj ex); injection this
    have xl : x ≠ l := fun q => by rw [q, el] at ex; have := congrArg Obj.cls (Option.some.inj ex); injection this
    have dxl : dx ≠ l := fun q => by rw [q, el] at edx; exact dict_ne_list (congrArg Obj.cls (Option.some.inj edx)).symm
    have hX := none_le le9 nx
    have hDX := none_le le9 nd
    have hL := none_le le9 nl
    refine hq s' ⟨z, dz, x, dx, l⟩ ⟨up, c.os, c.gens⟩ ?_ ?_ ?_
    · simp only [Ob.all, List.nodup_cons, List.mem_cons, List.not_mem_nil, or_false, not_or, not_false_eq_true, List.nodup_nil, and_true]
      exact ⟨⟨hzd, (zz _ nx).symm, (zz _ nd).symm, (zz _ nl).symm, z147 _ nx8, z154 _ nx8⟩, ⟨(zd _ nx).symm, (zd _ nd).symm, (zd _ nl).symm, z147 _ nd8, z154 _ nd8⟩, ⟨xdx, xl, z147 _ hX, z154 _ hX⟩, ⟨dxl, z147 _ hDX, z154 _ hDX⟩, ⟨z147 _ hL, z154 _ hL⟩, by decide⟩
    · intro a ha
      simp only [List.mem_cons, List.not_mem_nil, or_false] at ha
      rcases ha with rfl | rfl | rfl | rfl | rfl
      · exact nx8
      · exact nd8
      · exact hX
      · exact hDX
      · exact hL
    · have keep : ∀ a, a ≠ dz → ∀ o, h9.get? a = some o → s'.heap.get? a = some o := fun a ha o e => c.heap a o (by simpa using ha) e
      exact { z := keep _ hzd _ hx9, dz := hdz, x := ⟨_, n1, ex, .nil⟩, dx := ⟨_, _, _, _, edx⟩, l := ⟨_, n2, el, .nil⟩, t1 := ⟨p1, up _ _ e147, T1⟩, t2 := ⟨p2, up _ _ e154, T2⟩ }
  · rcases r with e | (_ | _ | _ | v) <;> first | exact y | exact y.elim | exact ⟨y.1, y.2⟩
end
end Mine
end

section
open PySem PySem.W PySem.Calls PySem.Spec PyProof.Rows PyProof.Rows.LCg
set_option Elab.async false
set_option maxRecDepth 100000
set_option maxHeartbeats 2000000
set_option linter.unusedVariables false
namespace Mine
theorem fillite25 : (fun (_ : Params → Frag) => True) hd.heap_39 ∧ PySem.Challenge.rw_xp0030_01.prog = PySem.Challenge.rw_xp0030_01.prog := by
  k_fill
  exact ⟨trivial, rfl⟩
/-! ## the state of the writer, word by word -/
noncomputable def stAt (room : Int) (ws : List Str) (i : Nat) : List Str × List Str := (ws.take i).foldl (step1 room) ([], [])
theorem stAt_succ (room : Int) (ws : List Str) (i : Nat) (wd : Str) (h : ws[i]? = some wd) : stAt room ws (i + 1) = step1 room (stAt room ws i) wd := by
  unfold stAt
  rw [List.take_add_one, h]
  simp [List.foldl_append]
theorem stAt_all (room : Int) (ws : List Str) : stAt room ws ws.length = ws.foldl (step1 room) ([], []) := by
  unfold stAt; rw [List.take_length]
theorem strOf_len (ws : List Str) : (strOf (ws.map sp)).length = (ws.map fun wd => wd.length + 1).sum := by
  show (strOf (ws.map sp)).cps.size = _
  rw [← Array.length_toList, strOf_flat]
  induction ws with
  | nil => rfl
  | cons wd ws ih =>
    rw [List.map_cons, List.flatMap_cons, List.length_append, ih, List.map_cons, List.sum_cons, List.length_append]
    show [32].length + wd.cps.toList.length + _ = _
    rw [Array.length_toList]
    show 1 + wd.length + _ = _
    (first | lia | omega)
structure Okst (ws : List Str) (i : Nat) (st : List Str × List Str) : Prop where
  n1 : st.1.length ≤ i
  n2 : st.2.length ≤ i
  sub : ∀ wd ∈ st.2, wd ∈ ws
  ne : 0 < i → st.2 ≠ []
  l : ∀ a ∈ st.1, a.length ≤ 11 * i
theorem okst (room : Int) (ws : List Str) (hW : ∀ wd ∈ ws, Wd wd) : ∀ i, i ≤ ws.length → Okst ws i (stAt room ws i)
  | 0, _ => ⟨Nat.le_refl _, Nat.le_refl _, (fun _ h => nomatch h), (fun h => absurd h (Nat.lt_irrefl _)), (fun _ h => nomatch h)⟩
  | i + 1, h => by
    have ih := okst room ws hW i (by (first | lia | omega))
    obtain ⟨wd, hwd⟩ : ∃ wd, ws[i]? = some wd := ⟨_, List.getElem?_eq_getElem h⟩
    have hm : wd ∈ ws := List.mem_of_getElem? hwd
    rw [stAt_succ room ws i wd hwd]
    unfold step1
    split
    · refine ⟨by simp; exact ih.n1, by simp, fun a ha => by rw [List.mem_singleton.mp ha]; exact hm, fun _ => by simp, fun a ha => ?_⟩
      rcases List.mem_append.mp ha with ha | ha
      · have := ih.l a ha; (first | lia | omega)
      · rw [List.mem_singleton.mp ha, strOf_len]
        have key : ∀ l : List Str, (∀ wd ∈ l, wd.length ≤ 10) → (l.map fun wd => wd.length + 1).sum ≤ 11 * l.length := by
          intro l
          induction l with
          | nil => intro _; exact Nat.zero_le _
          | cons b l ihl =>
            intro hb
            have h1 := hb b (List.mem_cons_self ..)
            have h2 := ihl fun a ha => hb a (List.mem_cons_of_mem _ ha)
            rw [List.map_cons, List.sum_cons, List.length_cons]; (first | lia | omega)
        have := key (stAt room ws i).2 fun wd hw => (hW wd (ih.sub wd hw)).short
        have := ih.n2
        (first | lia | omega)
    · refine ⟨Nat.le_succ_of_le ih.n1, by simp; exact ih.n2, fun a ha => ?_, fun _ => by simp, fun a ha => by have := ih.l a ha; (first | lia | omega)⟩
      rcases List.mem_append.mp ha with ha | ha
      · exact ih.sub a ha
      · rw [List.mem_singleton.mp ha]; exact hm

section
variable {hb : Heap} {W W2 : List Addr} {o : Ob} {room : Int} {lines : List Str} {cur : List (Str × Str)} {s s' s₀ : Shared} {env : Env} {ρ : Ro}
theorem Fm.widen (m : Fm o hb W env ρ s₀ s room lines cur) (g : Grow s s') (inW : ∀ a ∈ W, a ∈ W2) (new : ∀ a ∈ W2, a ∈ W ∨ s.heap.get? a = none) (th : There W2 s'.heap) : Fm o hb W2 env ρ s₀ s' room lines cur :=
  ⟨m.F.widen g.heap inW new th, fun a ha => let ⟨p, q, r, t⟩ := m.off a ha; ⟨inW a p, q, r, t⟩, m.nd, m.ws.keep (fun a _ ob e => g.heap a ob e) (hide_new new fun b ob _ e => g.heap b ob e), m.chg.trans g.chg, m.hL⟩
/-- a hidden object of the frame's own has changed -/
theorem Fm.hid {I : Addr} {h' : Heap} {tk : Nat} (m : Fm o hb W env ρ s₀ s room lines cur) (hI : I ∈ W) (h1 : I ≠ env.locals) (h2 : ∀ y, env.cells.lookup y ≠ some I) (h3 : hb.get? I = none) (h4 : I ∉ o.all) (h5 : s₀.heap.get? I = none) (sb : Heap.SameBut I s.heap h') (e : ∃ ob, h'.get? I = some ob) :
    Fm o hb W env ρ s₀ { s with heap := h', toks := tk } room lines cur :=
  have off1 : Off [I] hb W env := fun a ha => by rw [List.mem_singleton.mp ha]; exact ⟨hI, h1, h2, h3⟩
  ⟨m.F.chg off1 (fun b ob hb' eb => (sb.2 b fun q => hb' (by rw [q]; simp)).trans eb) (fun a ha => by rw [List.mem_singleton.mp ha]; exact e), m.off, m.nd,
    m.ws.keep (fun a ha ob eb => (sb.2 a fun q => h4 (q ▸ ha)).trans eb) (Frm.hide_same hI sb), m.chg.own h5 sb, m.hL⟩
/-- the object is given up -/
theorem Fm.narrow {I : Addr} {h' : Heap} {tk : Nat} (m : Fm o hb (I :: W) env ρ s₀ s room lines cur) (hI : I ∉ W) (h1 : I ≠ env.locals) (h2 : ∀ y, env.cells.lookup y ≠ some I) (h3 : hb.get? I = none) (h4 : I ∉ o.all) (h5 : s₀.heap.get? I = none) (eb : ∀ b ob, b ≠ I → s.heap.get? b = some ob → h'.get? b = some ob) :
    Fm o hb W env ρ s₀ { s with heap := h', toks := tk } room lines cur := by
  have v : Le (hideAll s.heap (I :: W)) (hideAll h' W) := hide_mono (fun a ha => List.mem_cons_of_mem _ ha) fun b ob hb' e => eb b ob (fun q => hb' (by rw [q]; exact List.mem_cons_self ..)) e
  have inn : ∀ a, a ≠ I → a ∈ I :: W → a ∈ W := fun a ha hm => (List.mem_cons.mp hm).resolve_left ha
  obtain ⟨F, off, nd, ws, c, hL⟩ := m
  refine ⟨⟨F.fn, F.gl, F.bl, fun b ob e => eb b ob (fun q => by rw [q, h3] at e; cases e) (F.keep b ob e), ?_, fun x cc e => ?_, (fun _ _ _ hm => nomatch hm), inn _ (Ne.symm h1) F.lw, fun x cc e => ?_, F.lb, F.has, fun a ha => ?_⟩, fun a ha => ?_, nd, ws.keep (fun a ha ob e => eb a ob (fun q => h4 (q ▸ ha)) e) v, ⟨fun b ob hb' e => eb b ob (fun q => by rw [q, h5] at e; cases e) (c.heap b ob hb' e), c.os, c.gens⟩, hL⟩
  · obtain ⟨mm, a, b, _⟩ := F.ns
    exact ⟨mm, Heap.Ns.at' a fun ob e => eb _ ob (Ne.symm h1) e, fun x d hx hr => let ⟨v', e, r⟩ := b x d hx hr; ⟨v', e, r.mono v⟩, (fun _ _ _ hm => nomatch hm)⟩
  · obtain ⟨vo, ⟨ob, e1, e2⟩, b⟩ := F.cl x cc e
    exact ⟨vo, ⟨ob, eb _ ob (fun q => h2 x (q ▸ e)) e1, e2⟩, fun d hr => let ⟨v', e', r⟩ := b d hr; ⟨v', e', r.mono v⟩⟩
  · obtain ⟨p, q, r, s, t⟩ := F.cw x cc e
    exact ⟨inn _ (fun z => h2 x (z ▸ e)) p, q, r, s, t⟩
  · obtain ⟨ob, e⟩ := F.th a (List.mem_cons_of_mem _ ha)
    exact ⟨ob, eb a ob (fun q => hI (q ▸ ha)) e⟩
  · obtain ⟨p, q, r, t⟩ := off a ha
    exact ⟨inn _ (fun z => h4 (z ▸ ha)) p, q, r, t⟩
theorem Fm.setB {x : Str} {v : Value} {d : PyData} {Q : Unit → Shared → Prop} {E : Value → Shared → Prop} {prog : Program} {w : World} {A : Around} (m : Fm o hb W env ρ s₀ s room lines cur) (r : Rp (hideAll s.heap W) v d)
    (k : ∀ s', Fm o hb W env (upd ρ x d) s₀ s' room lines cur → Heap.SameBut env.locals s.heap s'.heap → Q () s') (hx : env.kindOf x = some .local := by kernel_rfl) : wpAny (model prog w) A (storeName env x v) Q E s :=
  st_set m.F m.chg m.hL r (fun h' tk F' c sb => k _ ⟨F', m.off, m.nd, m.ws.keep (fun a ha ob e => (sb.2 a (m.off a ha).2.1).trans e) (Frm.hide_same m.F.lw sb), c, m.hL⟩ sb) hx
theorem fm_made {s₂ s₃ : Shared} (F₂ : Frm hb env W [] s₂.heap ρ) (off : Off [147, 154] hb W env) (hle : Le hb s.heap) (G₂ : Grow s s₂) (g₃ : Grow s₂ s₃) (nd : o.all.Nodup) (new : ∀ a ∈ [o.z, o.dz, o.x, o.dx, o.l], s₂.heap.get? a = none)
    (ws3 : WS o (o.z :: o.dz :: o.x :: o.dx :: o.l :: W) s₃.heap room [] []) (hL : s.heap.get? env.locals = none) : Fm o hb (o.z :: o.dz :: o.x :: o.dx :: o.l :: W) env ρ s s₃ room [] [] := by
  have newO : ∀ a ∈ [o.z, o.dz, o.x, o.dx, o.l], s.heap.get? a = none := fun a ha => none_le G₂.heap (new a ha)
  have newB : ∀ a ∈ [o.z, o.dz, o.x, o.dx, o.l], hb.get? a = none := fun a ha => none_le hle (newO a ha)
  have inO : ∀ a, a ∈ o.all ↔ a ∈ [o.z, o.dz, o.x, o.dx, o.l] ∨ a ∈ [147, 154] := fun a => by
    simp only [Ob.all, List.mem_cons, List.not_mem_nil, or_false, or_assoc]
  have W2in : ∀ a, a ∈ (o.z :: o.dz :: o.x :: o.dx :: o.l :: W) ↔ a ∈ [o.z, o.dz, o.x, o.dx, o.l] ∨ a ∈ W := fun a => by
    simp only [List.mem_cons, List.not_mem_nil, or_false, or_assoc]
  refine ⟨F₂.widen g₃.heap (fun a ha => (W2in a).mpr (.inr ha)) (fun a ha => ((W2in a).mp ha).elim (fun x => .inr (new a x)) .inl) (fun a ha => ?_), fun a ha => ?_, nd, ws3, (G₂.trans g₃).chg, hL⟩
  · rcases (W2in a).mp ha with h | h
    · exact ws3.there a ((inO a).mpr (.inl h))
    · obtain ⟨ob, e⟩ := F₂.th a h; exact ⟨ob, g₃.heap _ _ e⟩
  · rcases (inO a).mp ha with h | h
    · refine ⟨(W2in a).mpr (.inl h), fun q => ?_, fun y q => ?_, newB a h⟩
      · obtain ⟨m, hm, _⟩ := F₂.ns
        obtain ⟨ob, _, _, e, _⟩ := hm
        rw [← q, new a h] at e; cases e
      · obtain ⟨vo, hc, _⟩ := F₂.cl y a q
        obtain ⟨ob, e, _⟩ := hc
        rw [new a h] at e; cases e
    · obtain ⟨p1, p2, p3, p4⟩ := off a h
      exact ⟨(W2in a).mpr (.inr p1), p2, p3, p4⟩
end
section
variable {prog : Program} {w : World} {A : Around} {E : Value → Shared → Prop} {hb : Heap} {W : List Addr} {room : Int}
theorem Evs.run {s : Shared} {Q : List Value → Shared → Prop} {ts : List (Bool × Sem Value)} {ds : List PyData} {h₀ : Heap} (x : Evs prog w A W h₀ ts ds) (hs : Le h₀ s.heap) (k : ∀ vs s', Grow s s' → RpL (hideAll s'.heap W) vs ds → Q vs s') : wpAny (model prog w) A (spliced ts) Q E s := x s Q E hs k
/-- what the last call leaves -/
theorem joined_small (ls : List Str) (hn : ls.length ≤ 20) (hl : ∀ a ∈ ls, a.length ≤ 200) : (Txt.join "\n" ls).length ≤ 5000 := by
  show (Builtin.Str.glued "\n" ls).length ≤ 5000
  rw [StrLaws.glued_eq_join]
  have h := StrLaws.join_length_le "\n" ls
  have e : ("\n" : Str).length = 1 := by decide +kernel
  have key : ∀ l : List Str, (∀ a ∈ l, a.length ≤ 200) → (l.map (·.length)).sum ≤ 200 * l.length := by
    intro l
    induction l with
    | nil => intro _; exact Nat.zero_le _
    | cons b l ih =>
      intro hb
      have h1 := hb b (List.mem_cons_self ..)
      have h2 := ih fun a ha => hb a (List.mem_cons_of_mem _ ha)
      rw [List.map_cons, List.sum_cons, List.length_cons]; (first | lia | omega)
  have := key ls hl
  rw [e] at h
  (first | lia | omega)
theorem split_small (x y : Str) (h : x.length ≤ 5000) : (Builtin.Str.partsBetween x (Builtin.Str.occurrences x y 0 x.length (x.length + 1)) y.length).length ≤ sizeLine := by
  rw [StrLaws.partsBetween_eq, partsFrom_length]
  have := StrLaws.occ_length_le x y 0 x.length (x.length + 1)
  rw [sizeLine_eq]
  (first | lia | omega)
set_option maxHeartbeats 16000000 in
theorem end_m {ws : List Str} {first : Nat} {s : Shared} {v0 v1 v2 : Value} {Q : Value → Shared → Prop} (P : Pr prog) (C : Cx (hd.heap_39 w.params) A 10 120 hb) (hle : Le hb s.heap) (hth : There W s.heap)
    (h147 : 147 ∈ W ∧ hb.get? 147 = none) (h154 : 154 ∈ W ∧ hb.get? 154 = none)
    (t1 : ∃ ps, s.heap.get? 147 = some { cls := .none, data := .fields ps } ∧ TriplesOk ps.toList) (t2 : ∃ ps, s.heap.get? 154 = some { cls := .none, data := .fields ps } ∧ TriplesOk ps.toList)
    (r0 : Rp (hideAll s.heap W) v0 (.list (ws.map .str))) (r1 : Rp (hideAll s.heap W) v1 (.int room)) (r2 : Rp (hideAll s.heap W) v2 (.int (first : Int)))
    (hW : ∀ wd ∈ ws, Wd wd) (hfit : ∀ wd ∈ ws, ((wd.length + 1 : Nat) : Int) ≤ room) (hn : ws.length ≤ 10) (hf : first < ws.length)
    (q : ∀ t s', Chg [147, 154] s s' → (∃ ps, s'.heap.get? 147 = some { cls := .none, data := .fields ps } ∧ TriplesOk ps.toList) → (∃ ps, s'.heap.get? 154 = some { cls := .none, data := .fields ps } ∧ TriplesOk ps.toList) →
      Q (.int ((first + rowN room 0 ((ws.drop first).map (·.length)) : Nat) : Int) t) s') :
    wpAny (model prog w) A (PySem.call (.ref 273) [v0, v1, v2]) Q E s := by
  k_dflt (refine' enter_def (O := [147, 154]) (D := 9) (U := 117) ["things", "room", "first"] (ds := [.list (ws.map .str), .int room, .int (first : Int)]) C hle hth (.cons r0 (.cons r1 (.cons r2 .nil))) ?hO ?ho ?hcd ?hbind rfl ?k1 ?k2 ?k3 ?k4 ?h ?c1 ?c2 ?c3)
  case hO => 
    intro a ha
    rcases List.mem_cons.mp ha with rfl | ha
    · exact h147
    · rw [List.mem_singleton.mp ha]; exact h154
  case ho => k_is
  case hcd => k_is
  case hbind => exact fun _ => BindsTo.of_eq (by kernel_rfl)
  case k1 => decide
  case k2 => decide
  case k3 => decide
  case k4 => decide
  case c1 => rfl
  case c2 => rfl
  case c3 => rfl
  intro A' L W' s₁ E' C' F off g hL inW hW'
  have X1 := C'.wl.mono F.keep
  -- writer = _ValueFormatter(0, room, ' ', ' ')
  refine wpAny_execs_cons (wpAny_Assign_Name (wpAny_Call_NameR (name_glob F C'.wl le_rfl (by kernel_rfl) (by k_is) (callWith_K X1.X (by k_is) (Evs.run (W := W') (h₀ := s₁.heap) (ds := [.int 0, .int room, .str " ", .str " "]) (evs_cons Ev.int (evs_cons (ev_loc F) (evs_cons Ev.str (evs_cons Ev.str evs_nil)))) le_rfl fun vs s₂ g₂ r₂ => ⟨(X1.mono g₂.heap).X, ?_⟩) (by kernel_rfl) (by kernel_rfl)))) (by kernel_rfl))
  obtain ⟨b0, b1, b2, b3, rfl, q0, q1, q2, q3⟩ := r₂.of4
  have F₂ := F.grow g₂.heap
  have G₂ := g.trans g₂
  obtain ⟨h2, gg2, d2, tk2, os2⟩ := s₂
  refine wr_call (room := room) P (C'.mono le_rfl (by decide) (by decide)) F₂.keep F₂.th q0 q1 q2 q3 (let ⟨p, e, t⟩ := t1; ⟨p, G₂.heap _ _ e, t⟩) (let ⟨p, e, t⟩ := t2; ⟨p, G₂.heap _ _ e, t⟩) fun s₃ o g₃ nd new ws3 => ?_
  have M3 := fm_made F₂ off hle G₂ g₃ nd new ws3 hL
  refine M3.set (x := "writer") (.raw o.z) fun s₄ M4 => ?_
  -- for thing in things[first:]
  generalize (o.z :: o.dz :: o.x :: o.dx :: o.l :: W') = W2 at M4
  refine wpAny_execs_cons (wpAny_For (Ev.run (W := W2) (h := s₄.heap) (d := .list ((ws.drop first).map .str)) (ev_slice (ds := ws.map .str) (lo := some (first : Int)) (hi := none) M4.F.th (ev_loc M4.F) (EvP.some (ev_loc M4.F)) EvP.none (by simp; (first | lia | omega)) (fun vs g r => by rw [List.map_drop]; exact sl_from first vs g r)) le_rfl fun lv s₅ g₅ rl => ?_) (by intro _; kernel_rfl))
  have M5 := M4.grow g₅
  have hfl : (ws.drop first).length = ws.length - first := List.length_drop ..
  have hsub : ∀ wd ∈ ws.drop first, wd ∈ ws := fun wd h => List.mem_of_mem_drop h
  generalize hws : ws.drop first = us at rl q hfl hsub
  generalize hds : us.map PyData.str = ds at rl
  cases rl with
  | list e c dd sq rr =>
    rename_i la lo lvs ln
    subst hds
    obtain ⟨e1, e2⟩ := hide_get e
    have hll := rr.length
    rw [List.length_map, Array.length_toList] at hll
    have hIsL : s₅.heap.IsList la lvs := ⟨lo, e1, c, ln, sq⟩
    refine wpAny_pyIter_list hIsL ?_
    have nI : s₅.heap.get? s₅.heap.objs.size = none := fresh_at (Nat.le_refl _)
    have hit : (s₅.heap.push { cls := .type "list_iterator", data := .fields #[.ref la, .int 0 0] }).IsListIter s₅.heap.objs.size la 0 := ⟨_, Heap.get?_push_size _ rfl, rfl, rfl⟩
    have up : Le s₅.heap (s₅.heap.push { cls := .type "list_iterator", data := .fields #[.ref la, .int 0 0] }) := le_push _ _
    generalize s₅.heap.push { cls := .type "list_iterator", data := .fields #[.ref la, .int 0 0] } = h6 at hit up
    generalize s₅.heap.objs.size = I at hit nI
    have IW2 : I ∉ W2 := fun hm => by obtain ⟨ob, eb⟩ := M5.F.th I hm; rw [nI] at eb; cases eb
    have IL : I ≠ _ := fun (q : I = L) => IW2 (q ▸ M5.F.lw)
    have IO : I ∉ o.all := fun hm => IW2 (M5.off I hm).1
    have Is : s.heap.get? I = none := by
      cases eq : s.heap.get? I with
      | none => rfl
      | some ob => have := M5.chg.heap I ob IO eq; rw [nI] at this; cases this
    have Ib : hb.get? I = none := none_le hle Is
    have laI : la ≠ I := fun q => by rw [q, nI] at e1; cases e1
    have laO : la ∉ o.all := fun hm => e2 (M5.off la hm).1
    have laL : la ≠ L := fun q => e2 (q ▸ M5.F.lw)
    have newI : ∀ a ∈ I :: W2, a ∈ W2 ∨ s₅.heap.get? a = none := fun a hm => by
      rcases List.mem_cons.mp hm with rfl | hm
      · exact .inr nI
      · exact .inl hm
    have v6 : Le (hideAll s₅.heap W2) (hideAll h6 (I :: W2)) := hide_new newI fun b ob _ eb => up b ob eb
    have M6 : Fm o hb (I :: W2) _ _ s { s₅ with heap := h6 } room [] [] := M5.widen (W2 := I :: W2) ⟨up, rfl, id⟩ (fun a h => List.mem_cons_of_mem _ h) newI (fun a hm => by
      rcases List.mem_cons.mp hm with rfl | hm
      · obtain ⟨ob, eb, _⟩ := hit; exact ⟨ob, eb⟩
      · obtain ⟨ob, eb⟩ := M5.F.th a hm; exact ⟨ob, up _ _ eb⟩)
    have rr6 := rr.mono v6
    have il6 : h6.IsList la lvs := ⟨lo, up _ _ e1, c, ln, sq⟩
    have hWu : ∀ wd ∈ us, Wd wd := fun wd h => hW wd (hsub wd h)
    refine codeAny_forLoop (fun n s' => ∃ i ρ', n = us.length + 1 - i ∧ i ≤ us.length ∧ s'.heap.IsListIter I la i ∧ s'.heap.IsList la lvs ∧ Fm o hb (I :: W2) _ ρ' s s' room (stAt room us i).1 ((stAt room us i).2.map sp) ∧ ρ' "writer" = some (rawD o.z) ∧ ρ' "first" = some (.int (first : Int)) ∧
      Le (hideAll h6 (I :: W2)) (hideAll s'.heap (I :: W2))) ?_ (us.length + 1) ⟨0, _, rfl, Nat.zero_le _, hit, il6, M6, by kernel_rfl, by kernel_rfl, le_rfl⟩ (fun v => rfl)
    rintro n s' ⟨i, ρ', rfl, hi, it, il, M', hw, hfi, V⟩
    by_cases hlt : i < us.length
    · obtain ⟨wd, hwd⟩ : ∃ wd, us[i]? = some wd := ⟨_, List.getElem?_eq_getElem hlt⟩
      have hwm : wd ∈ us := List.mem_of_getElem? hwd
      obtain ⟨v, hv, rv⟩ := rr6.get (i := i) (d := .str wd) (by rw [List.getElem?_map, hwd]; rfl)
      refine wpAny_pyNext_list_item it il (x := v) (by rw [← Array.getElem?_toList]; exact hv) fun h7 it7 sb7 => ?_
      have M7 : Fm o hb (I :: W2) _ ρ' s { s' with heap := h7 } room _ _ := M'.hid (tk := s'.toks) (List.mem_cons_self ..) IL (fun y e => nomatch e) Ib IO Is sb7 (let ⟨ob, e, _⟩ := it7; ⟨ob, e⟩)
      have V7 := V.trans (Frm.hide_same (List.mem_cons_self ..) sb7)
      have il7 : h7.IsList la lvs := il.at fun ob e => (sb7.2 la laI).trans e
      refine wpAny_assign_Name (M7.setB (x := "thing") (rv.mono V7) fun s₈ M8 sb8 => ?_)
      have sb8' : Heap.SameBut L h7 s₈.heap := sb8
      have it8 : s₈.heap.IsListIter I la (i + 1) := it7.at fun ob e => (sb8'.2 I IL).trans e
      have il8 : s₈.heap.IsList la lvs := il7.at fun ob e => (sb8'.2 la laL).trans e
      have V8 := V7.trans (Frm.hide_same M7.F.lw sb8)
      have hw8 : (upd ρ' "thing" (.str wd)) "writer" = some (rawD o.z) := (if_neg (by decide +kernel)).trans hw
      have hf8 : (upd ρ' "thing" (.str wd)) "first" = some (.int (first : Int)) := (if_neg (by decide +kernel)).trans hfi
      have ht8 : (upd ρ' "thing" (.str wd)) "thing" = some (.str wd) := if_pos rfl
      -- writer._append_chunk(' ', thing)
      refine wpAny_execs_cons (wpAny_Expr (MethodCall_ (nm_raw (a := o.z) M8.F hw8 ?_) (by rfl)) (by kernel_rfl) (by rfl))
      refine z_method M8 C' (fun es d => (dz_none d).2.1) (by k_is) (by k_is) ?_
      have X8 := C'.wl.mono M8.F.keep
      refine callWith_K X8.X (by k_is) (Evs.run (W := I :: W2) (h₀ := s₈.heap) (ds := [.str " ", .str wd]) (evs_cons Ev.str (evs_cons (ev_loc M8.F (hr := ht8)) evs_nil)) le_rfl fun us₁ s₉ g₉ r₉ => ⟨(X8.mono g₉.heap).X, ?_⟩) (by kernel_rfl) (by kernel_rfl)
      obtain ⟨u1, u2, rfl, ru, rw2⟩ := r₉.of2
      have M9 := M8.grow g₉
      have ok := okst room us hWu i hi
      have hz : ((stAt room us i).2.map sp).length ≤ 800 := by rw [List.length_map]; have := ok.n2; (first | lia | omega)
      have esp : ∀ l : List Str, l.map sp ++ [sp wd] = (l ++ [wd]).map sp := fun l => by rw [List.map_append]; rfl
      have hsz : ∀ q ∈ (stAt room us i).2.map sp ++ [sp wd], q.1.length ≤ 1000 ∧ q.2.length ≤ 1000 := fun q hq => by
        rw [esp] at hq
        obtain ⟨x, hx, rfl⟩ := List.mem_map.mp hq
        have h1 : x ∈ us := (List.mem_append.mp hx).elim (ok.sub x) fun h => by rw [List.mem_singleton.mp h]; exact hwm
        have := (hWu x h1).short
        exact ⟨by show (" " : Str).length ≤ 1000; decide +kernel, by show x.length ≤ 1000; (first | lia | omega)⟩
      refine append_m (wd := wd) P (M9.md C') hz (by have := ok.n1; (first | lia | omega)) hsz (fun hov q0 => ?_) ru rw2 (fun s₁₀ c10 hov ws10 => ?_) (fun s₁₀ c10 hov ws10 => ?_)
      · rw [q0] at hov
        have e1 : lenOf ([] ++ [sp wd]) = wd.length + 1 := by
          have := row_len [wd]
          simpa using this
        rw [e1] at hov
        have := hfit wd (hsub wd hwm)
        (first | lia | omega)
      · have M10 := M9.step c10 ws10
        rw [esp] at hov
        have e10 : stAt room us (i + 1) = ((stAt room us i).1 ++ [strOf ((stAt room us i).2.map sp)], [wd]) := by rw [stAt_succ room us i wd hwd]; unfold step1; rw [if_pos hov]
        refine wpAny_execs_nil ⟨us.length + 1 - (i + 1), by (first | lia | omega), i + 1, _, rfl, hlt, ?_, ?_, by rw [e10]; exact M10, hw8, hf8, ?_⟩
        · exact (it8.at fun ob e => c10.heap _ _ IO (g₉.heap _ _ e))
        · exact (il8.at fun ob e => c10.heap _ _ laO (g₉.heap _ _ e))
        · exact V8.trans ((hide_le_of g₉.heap).trans (c10.view fun a ha => (M9.off a ha).1))
      · have M10 := M9.step c10 ws10
        rw [esp] at hov
        have e10 : stAt room us (i + 1) = ((stAt room us i).1, (stAt room us i).2 ++ [wd]) := by rw [stAt_succ room us i wd hwd]; unfold step1; rw [if_neg hov]
        refine wpAny_execs_nil ⟨us.length + 1 - (i + 1), by (first | lia | omega), i + 1, _, rfl, hlt, ?_, ?_, by rw [e10, ← esp]; exact M10, hw8, hf8, ?_⟩
        · exact (it8.at fun ob e => c10.heap _ _ IO (g₉.heap _ _ e))
        · exact (il8.at fun ob e => c10.heap _ _ laO (g₉.heap _ _ e))
        · exact V8.trans ((hide_le_of g₉.heap).trans (c10.view fun a ha => (M9.off a ha).1))
    · have hie : i = us.length := by (first | lia | omega)
      subst hie
      refine wpAny_pyNext_list_end C'.hh it il (by rw [Array.getElem?_eq_none]; (first | lia | omega)) fun h7 eb7 => ?_
      have M7 : Fm o hb W2 _ ρ' s { s' with heap := h7 } room _ _ := M'.narrow (tk := s'.toks) IW2 IL (fun y e => nomatch e) Ib IO Is fun b ob hb' e => eb7 b ob hb' e
      refine wpAny_execs_nil ?_
      dsimp only
      have ok := okst room us hWu us.length (Nat.le_refl _)
      obtain ⟨rows, hrows⟩ := first_row room us []
      rw [← stAt_all] at hrows
      obtain ⟨L1, hL1⟩ : ∃ L1, (stAt room us us.length).1 = L1 := ⟨_, rfl⟩
      obtain ⟨L2, hL2⟩ : ∃ L2, (stAt room us us.length).2 = L2 := ⟨_, rfl⟩
      have hne2 := ok.ne (by (first | lia | omega))
      have n1 := ok.n1; have n2 := ok.n2; have hs2 := ok.sub; have hl1 := ok.l
      rw [hL1] at M7 hrows n1 hl1
      rw [hL2] at M7 hrows n2 hs2 hne2
      obtain ⟨cs, wd, rfl⟩ : ∃ cs wd, L2 = cs ++ [wd] := ⟨_, _, (List.dropLast_concat_getLast hne2).symm⟩
      have esp : cs.map sp ++ [sp wd] = (cs ++ [wd]).map sp := by rw [List.map_append]; rfl
      have hwd : Wd wd := hWu wd (hs2 wd (by simp))
      have hlen : (cs ++ [wd]).length = cs.length + 1 := by simp
      have hall : ∀ a ∈ L1 ++ [strOf (cs.map sp ++ [sp wd])], a.length ≤ 200 := fun a ha => by
        rcases List.mem_append.mp ha with ha | ha
        · have := hl1 a ha; (first | lia | omega)
        · rw [List.mem_singleton.mp ha, esp, strOf_len]
          have key : ∀ l : List Str, (∀ wd ∈ l, wd.length ≤ 10) → (l.map fun wd => wd.length + 1).sum ≤ 11 * l.length := by
            intro l
            induction l with
            | nil => intro _; exact Nat.zero_le _
            | cons b l ihl =>
              intro hb
              have h1 := hb b (List.mem_cons_self ..)
              have h2 := ihl fun a ha => hb a (List.mem_cons_of_mem _ ha)
              rw [List.map_cons, List.sum_cons, List.length_cons]; (first | lia | omega)
          have := key (cs ++ [wd]) fun x hx => (hWu x (hs2 x hx)).short
          (first | lia | omega)
      have hnum : (L1 ++ [strOf (cs.map sp ++ [sp wd])]).length ≤ 20 := by simp; (first | lia | omega)
      have hsm := joined_small _ hnum hall
      rw [← esp] at M7 hrows
      -- first + writer._str('\n').split('\n')[0].count(' ')
      refine wpAny_execs_cons (wpAny_Return_some (wpAny_BinOp (nm_loc M7.F hfi fun fv rf => MethodCall_ (Subscript_ (MethodCall_ (MethodCall_ (nm_raw (a := o.z) M7.F hw ?_) (by rfl)) (by rfl))) (by rfl))))
      cases rf
      refine z_method M7 C' (fun es d => (dz_none d).2.2) (by k_is) (by k_is) ?_
      have X7 := C'.wl.mono M7.F.keep
      refine callWith_K X7.X (by k_is) (Evs.run (W := W2) (h₀ := h7) (ds := [.str "\n"]) (evs_cons Ev.str evs_nil) le_rfl fun us₁ s₉ g₉ r₉ => ⟨(X7.mono g₉.heap).X, ?_⟩) (by kernel_rfl) (by kernel_rfl)
      obtain ⟨u1, rfl, ru⟩ := r₉.of1
      have M9 := M7.grow g₉
      refine wstr_m (p := sp wd) (cur := cs.map sp) P (M9.md C' (by decide) (by decide)) (by rw [List.length_map]; (first | lia | omega)) (by (first | lia | omega)) (fun q hq => by
        rw [esp] at hq
        obtain ⟨x, hx, rfl⟩ := List.mem_map.mp hq
        have := (hWu x (hs2 x hx)).short
        exact ⟨by show (" " : Str).length ≤ 1000; decide +kernel, by show x.length ≤ 1000; (first | lia | omega)⟩) (by rw [esp, row_len, List.map_append, List.sum_append]; simp) (by rw [esp]; exact row_ink _ wd hwd (by simp)) hwd.lay hwd.ne ru
        (joinOk_of (B := 200) hall (by
          have e : ("\n" : Str).length = 1 := by decide +kernel
          rw [e]; (first | lia | omega))) fun t3 s₁₀ c10 ws10 => ?_
      have M10 := M9.step c10 ws10
      -- .split('\n')
      refine GM.split ?_
      refine callWith_method1 (Evs.run (W := W2) (h₀ := s₁₀.heap) (ds := [.str "\n"]) (evs_cons Ev.str evs_nil) le_rfl fun us₂ s₁₁ g₁₁ r₁₁ => ?_) (by kernel_rfl) (by kernel_rfl)
      obtain ⟨t4v, rfl, t4r⟩ := r₁₁.of1
      obtain ⟨t4, rfl⟩ := t4r.str_inv
      have M11 := M10.grow g₁₁
      refine SCG.split1 (Fm := fun x => Fm o hb W2 _ ρ' s x room (L1 ++ [strOf (cs.map sp ++ [sp wd])]) []) (fun x ob k m => m.grow ⟨le_push _ _, rfl, id⟩) M11 (by decide +kernel) (fun D l s₁₂ el M12 hD => ?_) (by rw [sizeLine_eq]; (first | lia | omega)) (split_small _ _ hsm)
      -- [0]
      have hfirst : ∃ r', Txt.split (Txt.join "\n" (L1 ++ [strOf (cs.map sp ++ [sp wd])])) "\n" = strOf ((takeRow room [] us).map sp) :: r' := by
        rw [hrows]
        show ∃ r', Txt.split (Builtin.Str.glued "\n" _) "\n" = _
        rw [StrLaws.glued_eq_join]
        exact split_first 10 _ rows (row_nl _ fun x hx => hWu x ((takeRow_sub room us [] x hx).resolve_left fun h => nomatch h))
      obtain ⟨r', hr'⟩ := hfirst
      rw [hr'] at el
      obtain ⟨t5, l', rfl⟩ : ∃ t5 l', l = (strOf ((takeRow room [] us).map sp), t5) :: l' := by
        cases l with
        | nil => cases el
        | cons p l' =>
          obtain ⟨a, b⟩ := p
          injection el with e1 e2
          have e1' : a = _ := e1
          subst e1'
          exact ⟨b, l', rfl⟩
      refine wpAny_Constant_int ?_
      have hD' : ({ s₁₂ with toks := s₁₂.toks + 1 } : Shared).heap.IsList D _ := hD
      refine tail_any hD'.typeIs slot_list_getitem.lookup (wpAny_getItem_list hD' (by decide) (by decide) (x := .str (strOf ((takeRow room [] us).map sp)) t5) rfl ?_) (by with_unfolding_all rfl)
      have M13 := M12.grow (Grow.tok s₁₂ (s₁₂.toks + 1))
      -- .count(' ')
      refine GM.count ?_
      refine callWith_method1 (Evs.run (W := W2) (h₀ := s₁₂.heap) (ds := [.str " "]) (evs_cons Ev.str evs_nil) le_rfl fun us₃ s₁₄ g₁₄ r₁₄ => ?_) (by kernel_rfl) (by kernel_rfl)
      obtain ⟨t6v, rfl, t6r⟩ := r₁₄.of1
      obtain ⟨t6, rfl⟩ := t6r.str_inv
      have M14 := M13.grow g₁₄
      refine SC.count (add_int ?_)
      have M15 := M14.grow (Grow.tok s₁₄ (s₁₄.toks + 1 + 1))
      have hcount : Txt.count (strOf ((takeRow room [] us).map sp)) " " = ((rowN room 0 (us.map (·.length)) : Nat) : Int) := by
        have e := count_one (strOf ((takeRow room [] us).map sp)) 32
        rw [row_count _ fun x hx => hWu x ((takeRow_sub room us [] x hx).resolve_left fun h => nomatch h), takeRow_len] at e
        have e0 : lenOf (([] : List Str).map sp) = 0 := rfl
        rw [e0, List.length_nil, Nat.zero_add] at e
        exact e
      rw [hcount, ← Int.natCast_add]
      refine q _ _ ⟨fun b ob hb' e => M15.chg.heap b ob (fun hm => ?_) e, M15.chg.os, M15.chg.gens⟩ M15.ws.t1 M15.ws.t2
      have hm' : b ∈ [o.z, o.dz, o.x, o.dx, o.l] ∨ b ∈ [147, 154] := by
        simp only [Ob.all, List.mem_cons, List.not_mem_nil, or_false] at hm
        simp only [List.mem_cons, List.not_mem_nil, or_false]
        rcases hm with h | h | h | h | h | h | h
        · exact .inl (.inl h)
        · exact .inl (.inr (.inl h))
        · exact .inl (.inr (.inr (.inl h)))
        · exact .inl (.inr (.inr (.inr (.inl h))))
        · exact .inl (.inr (.inr (.inr (.inr h))))
        · exact .inr (.inl h)
        · exact .inr (.inr h)
      rcases hm' with h | h
      · have := none_le G₂.heap (new b h)
        rw [this] at e; cases e
      · exact hb' h
end
end Mine
end

section
open PySem PySem.W PySem.Calls PySem.Spec PyProof.Rows PyProof.Rows.LCg
set_option Elab.async false
set_option maxRecDepth 100000
set_option linter.unusedVariables false
namespace Mine
section
variable {prog : Program} {w : World} {A : Around} {W : List Addr} {M : Mus} {hb h : Heap} {ρ : Ro} {env : Env} {scope : Scope}
/-- a comprehension whose element changes the objects T -/
theorem comp_chg {nm : List Str} {elt target iter : Expr} {pos p : Pos} {ds : List PyData} {tgt : PyData → Ro} {f : PyData → PyData} {T : List Addr} {Pt : Heap → Prop} {use : Option (Value → Sem Unit)} {Q E : Value → Shared → Prop} {s : Shared}
    (F : Frm hb env W M h ρ) (hs₀ : Le h s.heap) (hz : ds.length ≤ 1000000) (hnd : (scope.names.map (·.1)).Nodup) (hkind : scope.kind = .function)
    (hfree : (scope.names.all fun x => x.2 != .free || env.kindOf x.1 == some .cell || env.kindOf x.1 == some .free) = true)
    (hsub : ∀ d x y, seen scope ρ x = some y → tgt d x = some y)
    (src : Src prog w A W h target (eval iter env) ds)
    (asg : ∀ C cs d, d ∈ ds → Asg prog w A scope nm (cenvOf env scope C cs) target d (seen scope ρ) (tgt d))
    (hT : Off T hb W env) (hP : Pt s.heap) (hPk : ∀ h h', Pt h → (∀ a ∈ T, ∀ o, h.get? a = some o → h'.get? a = some o) → Pt h')
    (turn : ∀ C cs d W' s', d ∈ ds → Frm hb (cenvOf env scope C cs) W' [] s'.heap (tgt d) → Off T hb W' (cenvOf env scope C cs) → Pt s'.heap → ∀ (Q E : Value → Shared → Prop),
      (∀ v s'', Chg T s' s'' → Pt s''.heap → (∀ a ∈ T, ∃ o, s''.heap.get? a = some o) → Rp (hideAll s''.heap W') v (f d) → Q v s'') → wpAny (model prog w) A (eval elt (cenvOf env scope C cs)) Q E s')
    (post : ∀ D C m s', Chg T s s' → Pt s'.heap → s.heap.get? C = none → s.heap.get? D = none → C ≠ D → s'.heap.Ns C m → (∀ h', Heap.SameBut C s'.heap h' → Rp (hideAll h' W) (.ref D) (.list (ds.map f)) ∧ Chg T s { s' with heap := h' }) → compPost (model prog w) A E use Q (.ref D) C (.ok .next) s')
    (hs : ∀ x, foldedSetIterable iter env x = pure x) :
    wpAny (model prog w) A (comprehension (.ListComp elt [⟨target, iter, [], 0⟩] scope pos) scope env p (newList []) false (eval iter env) use) Q E s := by
  obtain ⟨cl, hclos, ha, hh⟩ := closure_of (env := env) (scope := scope) fun n hn => F.has n (by
    have := List.all_eq_true.mp hfree (n, .free) hn
    simp at this
    exact this)
  refine wpAny_comprehension_free rfl hs hclos hkind (fun x hx hl => by rw [← hl]; exact lookup_of_nodup hnd hx) (src s _ _ hs₀ fun x s₁ g₁ kk => kk _ _ fun g I wr St Mid s₂ lg lg2 g₂ hwr R st => ?_)
  refine wpAny_newList (wpAny_compEnv fun h₄ k₄ hn₄ ho₄ => ?_)
  dsimp only at k₄ hn₄ ho₄ ⊢
  have size3 : (s₂.heap.push { cls := .type "list", dict := none, data := .seq ([] : List Value).toArray }).objs.size = s₂.heap.objs.size + 1 := Heap.size_push ..
  generalize hS3 : s₂.heap.push { cls := .type "list", dict := none, data := .seq ([] : List Value).toArray } = H3 at k₄ hn₄ ho₄ size3 ⊢
  have hD3 : H3.get? s₂.heap.objs.size = some { cls := .type "list", data := .seq #[] } := by rw [← hS3]; exact Heap.get?_push_size _ rfl
  have k23 : Le s₂.heap H3 := by rw [← hS3]; exact le_push _ _
  generalize hown : cellsFrom (H3.objs.size + 1) scope.names [] = own at ho₄ ⊢
  have k14 : Le g h₄ := lg2.trans (k23.trans k₄)
  have fresh : ∀ a, g.objs.size ≤ a → g.get? a = none := fun a ha => by
    cases e : g.get? a with
    | none => rfl
    | some o => exact absurd (Heap.lt_size e) (Nat.not_lt.mpr ha)
  have size12 : g.objs.size ≤ s₂.heap.objs.size := Nat.le_of_lt (Nat.lt_of_le_of_lt (R.new I R.own) (hwr I R.own))
  have ownge : ∀ x c, (x, c) ∈ own → H3.objs.size + 1 ≤ c := fun x c hm => (ho₄.empty x c hm).2
  have F₁ : Frm hb env W M g ρ := F.grow (hs₀.trans lg)
  let W' : List Addr := H3.objs.size :: s₂.heap.objs.size :: (wr ++ (own.map (·.2) ++ W))
  have memW : ∀ {P : Addr → Prop}, P H3.objs.size → P s₂.heap.objs.size → (∀ a ∈ wr, P a) → (∀ x c, (x, c) ∈ own → P c) → (∀ a ∈ W, P a) → ∀ a ∈ W', P a := fun {P} p1 p2 p3 p4 p5 a hm => by
    rcases List.mem_cons.mp hm with rfl | hm
    · exact p1
    · rcases List.mem_cons.mp hm with rfl | hm
      · exact p2
      · rcases List.mem_append.mp hm with hm | hm
        · exact p3 a hm
        · rcases List.mem_append.mp hm with hm | hm
          · obtain ⟨⟨x, c⟩, hp, rfl⟩ := List.mem_map.mp hm
            exact p4 x c hp
          · exact p5 a hm
  have hW' : ∀ a ∈ W', a ∈ W ∨ g.get? a = none := memW (.inr (fresh _ (by rw [size3]; exact Nat.le_succ_of_le size12))) (.inr (fresh _ size12)) (fun a ha => .inr (fresh _ (R.new a ha)))
    (fun x c hp => .inr (fresh _ (Nat.le_trans (by (first | lia | omega)) (ownge x c hp)))) fun a ha => .inl ha
  have hth : There W' h₄ := memW (P := fun a => ∃ o, h₄.get? a = some o) (by obtain ⟨o, _, _, e, _⟩ := hn₄; exact ⟨o, e⟩) ⟨_, k₄ _ _ hD3⟩ (fun a ha => by obtain ⟨o, e, _⟩ := R.at_ 0 _ st a ha; exact ⟨o, k₄ _ _ (k23 _ _ e)⟩)
    (fun x c hp => by obtain ⟨⟨o, e, _⟩, _⟩ := ho₄.empty x c hp; exact ⟨o, e⟩) fun a ha => by obtain ⟨o, e⟩ := F₁.th a ha; exact ⟨o, k14 _ _ e⟩
  have mC : H3.objs.size ∈ W' := List.mem_cons_self ..
  have mD : s₂.heap.objs.size ∈ W' := List.mem_cons_of_mem _ (List.mem_cons_self ..)
  have mI : ∀ a ∈ wr, a ∈ W' := fun a ha => List.mem_cons_of_mem _ (List.mem_cons_of_mem _ (List.mem_append_left _ ha))
  have mO : ∀ x c, (x, c) ∈ own → c ∈ W' := fun x c hm => List.mem_cons_of_mem _ (List.mem_cons_of_mem _ (List.mem_append_right _ (List.mem_append_left _ (List.mem_map.mpr ⟨_, hm, rfl⟩))))
  have mW : ∀ a ∈ W, a ∈ W' := fun a hm => List.mem_cons_of_mem _ (List.mem_cons_of_mem _ (List.mem_append_right _ (List.mem_append_right _ hm)))
  have FC : Frm hb (cenvOf env scope H3.objs.size (own ++ cl)) W' [] h₄ (seen scope ρ) :=
    frm_comp F₁ hkind hnd (fresh _ (by rw [size3]; exact Nat.le_succ_of_le size12)) k14 hn₄ ho₄ (fun x c hm => cellsFrom_mem _ _ (hown ▸ hm)) (fun x c hm => fresh _ (Nat.le_trans (by (first | lia | omega)) (ownge x c hm)))
      (fun x hm => hown ▸ cellsFrom_has _ _ x hm) ha hh hW' mW mC mO hth
  have hC1 : g.get? H3.objs.size = none := fresh _ (by rw [size3]; exact Nat.le_succ_of_le size12)
  have hD1 : g.get? s₂.heap.objs.size = none := fresh _ size12
  have hI1 : ∀ a ∈ wr, g.get? a = none := fun a ha => fresh _ (R.new a ha)
  have hCD : H3.objs.size ≠ s₂.heap.objs.size := by rw [size3]; exact Nat.succ_ne_self _
  have hCI : ∀ a ∈ wr, a ≠ H3.objs.size := fun a ha => by rw [size3]; exact Nat.ne_of_lt (Nat.lt_succ_of_lt (hwr a ha))
  have hDI : ∀ a ∈ wr, a ≠ s₂.heap.objs.size := fun a ha => Nat.ne_of_lt (hwr a ha)
  have cellAt : ∀ y a, (own ++ cl).lookup y = some a → H3.objs.size + 1 ≤ a ∨ ∃ o, g.get? a = some o := fun y a e => by
    rcases List.mem_append.mp (mem_of_lookup e) with hm | hm
    · exact .inl (ownge y a hm)
    · obtain ⟨vo, ⟨o, eo, _⟩, _⟩ := F₁.cl y a (ha y a hm).2
      exact .inr ⟨o, eo⟩
  have notCell : ∀ a, a < H3.objs.size + 1 → g.get? a = none → ∀ y, (own ++ cl).lookup y ≠ some a := fun a h1 h2 y e => by
    rcases cellAt y a e with q | ⟨o, q⟩
    · (first | lia | omega)
    · rw [h2] at q; cases q
  have ownCell : ∀ x b, (x, NameKind.cell) ∈ scope.names → (own ++ cl).lookup x = some b → (x, b) ∈ own := fun x b hm e => by
    obtain ⟨c, hc⟩ := hown ▸ cellsFrom_has scope.names (H3.objs.size + 1) x hm
    rw [lookup_append] at e
    cases q : own.lookup x with
    | some c' => rw [q] at e; cases e; exact mem_of_lookup q
    | none =>
      exfalso
      have : ∀ {l : List (Str × Addr)}, (x, c) ∈ l → l.lookup x = none → False := fun {l} hm hn => by
        induction l with
        | nil => cases hm
        | cons p r ih =>
          obtain ⟨n, a⟩ := p
          rw [List.lookup_cons] at hn
          cases hb' : x == n with
          | true => rw [hb'] at hn; cases hn
          | false =>
            rw [hb'] at hn
            rcases List.mem_cons.mp hm with e | hm
            · cases e; simp at hb'
            · exact ih hm hn
      exact this hc q
  have hbn : ∀ a, g.get? a = none → hb.get? a = none := fun a e => by
    cases q : hb.get? a with
    | none => rfl
    | some o => rw [F₁.keep a o q] at e; cases e
  have wrOk : ∀ a ∈ wr, a ∈ W' ∧ a ≠ (cenvOf env scope H3.objs.size (own ++ cl)).locals ∧ (∀ y, (cenvOf env scope H3.objs.size (own ++ cl)).cells.lookup y ≠ some a) ∧ (∀ p ∈ ([] : Mus), p.2.1 ≠ a) ∧ hb.get? a = none := fun a ha =>
    ⟨mI a ha, hCI a ha, notCell a (by rw [size3]; exact Nat.lt_succ_of_lt (Nat.lt_succ_of_lt (hwr a ha))) (hI1 a ha), (fun _ hm => nomatch hm), hbn _ (hI1 a ha)⟩
  have TW : ∀ b, b ∉ W → b ∉ T := fun b hb hm => hb (hT b hm).1
  have Tg : ∀ a ∈ T, ∃ o, g.get? a = some o := fun a ha => F₁.th a (hT a ha).1
  have Told : ∀ a, g.get? a = none → a ∉ T := fun a e hm => by obtain ⟨o, eo⟩ := Tg a hm; rw [e] at eo; cases eo
  have offC : Off T hb W' (cenvOf env scope H3.objs.size (own ++ cl)) := fun a hm => by
    obtain ⟨p1, p2, p3, p4⟩ := hT a hm
    obtain ⟨o, eo⟩ := Tg a hm
    refine ⟨mW a p1, fun q => ?_, fun y q => ?_, p4⟩
    · have q' : a = H3.objs.size := q
      rw [q', hC1] at eo; cases eo
    · rcases List.mem_append.mp (mem_of_lookup q) with hm' | hm'
      · have h9 : H3.objs.size + 1 ≤ (a : Nat) := ownge y a hm'
        have h8 : @LT.lt Nat _ a g.objs.size := ltA eo
        (first | lia | omega)
      · exact p3 y (ha y a hm').2
  have P4 : Pt h₄ := hPk _ _ hP fun a hm o e => k14 _ _ (lg _ _ e)
  have loop : ∀ s₅ : Shared, s₅ = { s₂ with heap := h₄ } →
      codeAny (model prog w) A (.compLoop (.ListComp elt [⟨target, iter, [], 0⟩] scope pos) 0 (.ref I) (.ref s₂.heap.objs.size) (cenvOf env scope H3.objs.size (own ++ cl))) (compPost (model prog w) A E use Q (.ref s₂.heap.objs.size) H3.objs.size) s₅ := by
    rintro s₅ rfl
    refine loop_comp (fun n s' => ∃ i ys k, n = ds.length + 1 - i ∧ i ≤ ds.length ∧ St i s'.heap ∧ Frm hb (cenvOf env scope H3.objs.size (own ++ cl)) W' [] s'.heap (seen scope ρ) ∧
      s'.heap.get? s₂.heap.objs.size = some { cls := .type "list", data := .seq ys k } ∧ RpL (hideAll s'.heap W') ys.toList ((ds.take i).map f) ∧ Chg T { s with heap := g } s' ∧ Pt s'.heap) ?_ (ds.length + 1)
      ⟨0, #[], 0, rfl, Nat.zero_le _, ?_, FC, k₄ _ _ hD3, .nil, ⟨fun b o _ e => k14 b o e, g₂.os, g₂.gens⟩, P4⟩
    · rintro n s' ⟨i, ys, k, rfl, hi, st', F', hD', hr', G', P'⟩ E'
      by_cases hlt : i < ds.length
      · obtain ⟨d, hd⟩ : ∃ d, ds[i]? = some d := ⟨_, List.getElem?_eq_getElem hlt⟩
        have notWr : ∀ b o, g.get? b = some o → b ∉ wr := fun b o e q => by rw [hI1 b q] at e; cases e
        refine R.item i d _ _ _ hd st' fun v h₀₁ tk₁ hR md₀ k₀ => ?_
        have F0 : Frm hb (cenvOf env scope H3.objs.size (own ++ cl)) W' [] h₀₁ (seen scope ρ) := F'.others wrOk k₀ fun a ha => let ⟨o, e, _⟩ := R.mid_ _ _ _ md₀ a ha; ⟨o, e⟩
        have rv0 : Rp (hideAll h₀₁ W') v d := hR W' F'.th (hide_new hW' fun b o hb e => k₀ b o (notWr b o e) (G'.heap b o (TW b hb) e))
        refine R.go i v { s' with heap := h₀₁, toks := tk₁ } _ _ md₀ fun h₁ st₁ kg => ?_
        have k₁' : ∀ b o, b ∉ wr → s'.heap.get? b = some o → h₁.get? b = some o := fun b o hb e => kg b o hb (k₀ b o hb e)
        have F1 : Frm hb (cenvOf env scope H3.objs.size (own ++ cl)) W' [] h₁ (seen scope ρ) := F0.others wrOk kg fun a ha => let ⟨o, e, _⟩ := R.at_ _ _ st₁ a ha; ⟨o, e⟩
        have rv1 : Rp (hideAll h₁ W') v d := rv0.mono (hide_mono (fun _ x => x) fun b o hb e => kg b o (fun q => hb (mI b q)) e)
        refine asg _ _ d (List.mem_of_getElem? hd) hb W' [] _ v _ _ F1 (fun _ hm => nomatch hm) rv1 fun h₂ tk₂ F2 k₂ => ?_
        have keep2 : ∀ b o, b ≠ H3.objs.size → (∀ x c, (x, c) ∈ own → c ≠ b) → h₁.get? b = some o → h₂.get? b = some o := fun b o hb ho e => k₂ b o hb (fun x hx ex => ho x b (ownCell x b hx ex) rfl) e
        have st2 : St (i + 1) h₂ := R.frame _ _ _ st₁ fun b hb o e => by
          refine keep2 b o ?_ ?_ e
          · rcases hb with hb | ⟨⟨ob, eb⟩, _⟩
            · exact hCI b hb
            · intro q; rw [q, hC1] at eb; cases eb
          · intro x c hm q
            have h9 : H3.objs.size + 1 ≤ (b : Nat) := q ▸ ownge x c hm
            rcases hb with hb | ⟨⟨ob, eb⟩, _⟩
            · have := hwr b hb
              (first | lia | omega)
            · have h8 := ltA eb
              (first | lia | omega)
        have hD2 : h₂.get? s₂.heap.objs.size = some { cls := .type "list", data := .seq ys k } := keep2 _ _ (Ne.symm hCD) (fun x c hm q => by have h9 : H3.objs.size + 1 ≤ (s₂.heap.objs.size : Nat) := q ▸ ownge x c hm; (first | lia | omega)) (k₁' _ _ (fun q => hDI _ q rfl) hD')
        have hr2 : RpL (hideAll h₂ W') ys.toList ((ds.take i).map f) := hr'.mono (hide_mono (fun _ x => x) fun b o hb e => keep2 b o (fun q => hb (q ▸ mC)) (fun x c hm q => hb (q ▸ mO x c hm)) (k₁' b o (fun q => hb (mI b q)) e))
        have keepOld : ∀ b o, b ∉ wr → (∃ ob, g.get? b = some ob) → s'.heap.get? b = some o → h₂.get? b = some o := fun b o hbw hbg e => keep2 b o (fun q => by obtain ⟨ob, eb⟩ := hbg; rw [q, hC1] at eb; cases eb) (fun x c hm q => by obtain ⟨ob, eb⟩ := hbg; have h9 : H3.objs.size + 1 ≤ (b : Nat) := q ▸ ownge x c hm; have h8 : @LT.lt Nat _ b g.objs.size := ltA eb; (first | lia | omega)) (k₁' b o hbw e)
        have G2 : Chg T { s with heap := g } { s' with heap := h₂, toks := tk₂ } := ⟨fun b o hbT e => keepOld b o (notWr b o e) ⟨o, e⟩ (G'.heap b o hbT e), G'.os, G'.gens⟩
        have P2 : Pt h₂ := hPk _ _ P' fun a hm o e => keepOld a o (fun q => by obtain ⟨ob, eb⟩ := Tg a hm; exact notWr a ob eb q) (Tg a hm) e
        refine wpAny_tests_nil ?_
        simp only [if_true]
        refine turn _ _ d W' { s' with heap := h₂, toks := tk₂ } (List.mem_of_getElem? hd) F2 offC P2 _ _ fun x s₄ c₄ P4' th₄ r₄ => ?_
        have G4 := G2.trans c₄
        have hDT : s₂.heap.objs.size ∉ T := Told _ hD1
        have hD4 := c₄.heap _ _ hDT hD2
        have hr4 := hr2.mono (c₄.view fun a hm => mW a (hT a hm).1)
        have F4 := F2.chg offC c₄.heap th₄
        have st4 : St (i + 1) s₄.heap := R.frame _ _ _ st2 fun b hb o e => c₄.heap b o (by
          rcases hb with hb | ⟨_, hb⟩
          · exact Told b (hI1 b hb)
          · exact TW b hb) e
        have hsz : ys.size ≤ sizeLine := by
          have h1 := hr2.length
          rw [Array.length_toList, List.length_map] at h1
          have h3 : (ds.take i).length ≤ ds.length := by rw [List.length_take]; exact Nat.min_le_right _ _
          rw [sizeLine_eq]; (first | lia | omega)
        refine append_at hD4 (fun h₅ sb hD5 => ?_) hsz
        have kk₅ : ∀ b o, b ≠ s₂.heap.objs.size → s₄.heap.get? b = some o → h₅.get? b = some o := fun b o hb e => (sb.2 b hb).trans e
        have F5 : Frm hb (cenvOf env scope H3.objs.size (own ++ cl)) W' [] h₅ (tgt d) := F4.other mD (Ne.symm hCD) (notCell _ (by (first | lia | omega)) hD1) (fun _ hm => nomatch hm) (hbn _ hD1) kk₅ ⟨_, hD5⟩
        refine ⟨ds.length + 1 - (i + 1), by (first | lia | omega), i + 1, ys.push x, k + 1, rfl, hlt, ?_, F5.weaken (hsub d), hD5, ?_, ⟨fun b o hbT e => kk₅ b o (fun q => by rw [q, hD1] at e; cases e) (G4.heap b o hbT e), G4.os, G4.gens⟩, hPk _ _ P4' fun a hm o e => kk₅ a o (fun q => hDT (q ▸ hm)) e⟩
        · refine R.frame _ _ _ st4 fun b hb o e => kk₅ b o (fun q => ?_) e
          rcases hb with hb | ⟨⟨ob, eb⟩, _⟩
          · exact hDI b hb q
          · rw [q, hD1] at eb; cases eb
        · have view : Le (hideAll s₄.heap W') (hideAll h₅ W') := hide_mono (fun _ x => x) fun b o hb e => kk₅ b o (fun q => hb (q ▸ mD)) e
          rw [List.take_add_one, hd, Array.toList_push, List.map_append]
          exact (hr4.mono view).snoc (r₄.mono view)
      · obtain rfl : i = ds.length := Nat.le_antisymm hi (Nat.not_lt.mp hlt)
        refine R.done _ _ _ st' fun h₁ tk₁ k₁' => ?_
        have notWr : ∀ b o, g.get? b = some o → b ∉ wr := fun b o e q => by rw [hI1 b q] at e; cases e
        obtain ⟨m, hm, _⟩ := F'.ns
        have hmn : h₁.Ns H3.objs.size m := by obtain ⟨o, es, ep, eo, r⟩ := hm; exact ⟨o, es, ep, k₁' _ _ (fun q => hCI _ q rfl) eo, r⟩
        have old : ∀ b o, s.heap.get? b = some o → g.get? b = some o := lg
        have none_of : ∀ a, g.get? a = none → s.heap.get? a = none := fun a e => by
          cases q : s.heap.get? a with
          | none => rfl
          | some o => rw [old a o q] at e; cases e
        refine post s₂.heap.objs.size H3.objs.size m { s' with heap := h₁, toks := tk₁ } ⟨fun b o hbT e => k₁' b o (notWr b o (old b o e)) (G'.heap b o hbT (old b o e)), G'.os, G'.gens⟩ (hPk _ _ P' fun a hm o e => k₁' a o (fun q => by obtain ⟨ob, eb⟩ := Tg a hm; exact notWr a ob eb q) e)
          (none_of _ hC1) (none_of _ hD1) hCD hmn fun h' sb => ⟨?_, fun b o hbT e => ?_, G'.os, G'.gens⟩
        · rw [List.take_length] at hr'
          refine .list (o := { cls := .type "list", data := .seq ys k }) (hideAll_get W ((sb.2 _ (Ne.symm hCD)).trans (k₁' _ _ (fun q => hDI _ q rfl) hD')) fun hm => ?_) rfl rfl rfl (hr'.mono (hide_mono mW fun b o hb e => (sb.2 b fun q => hb (q ▸ mC)).trans (k₁' b o (fun q => hb (mI b q)) e)))
          obtain ⟨o, eo⟩ := F₁.th _ hm
          rw [hD1] at eo; cases eo
        · have e1 := old b o e
          exact (sb.2 b fun q => by rw [q, hC1] at e1; cases e1).trans (k₁' b o (notWr b o e1) (G'.heap b o hbT e1))
    · exact R.frame _ _ _ st fun b _ o e => k₄ _ _ (k23 _ _ e)
  exact codeAny_compStart_list (loop _ rfl) (R.self 0 _ _ _ (R.frame _ _ _ st fun b _ o e => k₄ _ _ (k23 _ _ e)) (loop _ rfl))
end
end Mine
end

section
open PySem PySem.W PySem.Calls PySem.Spec PyProof.Rows PyProof.Rows.LCg
set_option Elab.async false
set_option maxRecDepth 100000
set_option maxHeartbeats 2000000
set_option linter.unusedVariables false
namespace Mine
/-- a frame beside objects T that change, and what is known of them -/
structure Lf (T : List Addr) (Pt : Heap → Prop) (hb : Heap) (W : List Addr) (env : Env) (ρ : Ro) (s₀ s : Shared) : Prop where
  F : Frm hb env W [] s.heap ρ
  off : Off T hb W env
  P : Pt s.heap
  chg : Chg T s₀ s
  hL : s₀.heap.get? env.locals = none
  hC : ∀ x c, env.cells.lookup x = some c → s₀.heap.get? c = none
noncomputable def Stable (T : List Addr) (Pt : Heap → Prop) : Prop := ∀ h h', Pt h → (∀ a ∈ T, ∀ o, h.get? a = some o → h'.get? a = some o) → Pt h'
section
variable {prog : Program} {w : World} {A : Around} {W T : List Addr} {Pt : Heap → Prop} {hb h : Heap} {ρ : Ro} {env : Env} {scope : Scope} {s₀ s s' : Shared}
theorem Lf.grow (m : Lf T Pt hb W env ρ s₀ s) (st : Stable T Pt) (g : Grow s s') : Lf T Pt hb W env ρ s₀ s' := ⟨m.F.grow g.heap, m.off, st _ _ m.P fun a _ o e => g.heap a o e, m.chg.trans g.chg, m.hL, m.hC⟩
theorem Lf.step (m : Lf T Pt hb W env ρ s₀ s) (c : Chg T s s') (P : Pt s'.heap) (th : ∀ a ∈ T, ∃ o, s'.heap.get? a = some o) : Lf T Pt hb W env ρ s₀ s' := ⟨m.F.chg m.off c.heap th, m.off, P, m.chg.trans c, m.hL, m.hC⟩
theorem Lf.there (m : Lf T Pt hb W env ρ s₀ s) : ∀ a ∈ T, ∃ o, s.heap.get? a = some o := fun a ha => m.F.th a (m.off a ha).1
theorem Lf.store {x : Str} {v : Value} {d : PyData} {Q : Unit → Shared → Prop} {E : Value → Shared → Prop} (m : Lf T Pt hb W env ρ s₀ s) (st : Stable T Pt) (hx : env.kindOf x = some .local ∨ env.kindOf x = some .cell) (r : Rp (hideAll s.heap W) v d)
    (k : ∀ s', Lf T Pt hb W env (upd ρ x d) s₀ s' → Q () s') : wpAny (model prog w) A (storeName env x v) Q E s :=
  st_store m.F hx (fun _ h => nomatch h) r fun h' tk F' kk => k _ ⟨F', m.off, st _ _ m.P fun a ha o e => kk a o (m.off a ha).2.1 (fun _ => (m.off a ha).2.2.1 x) e,
    ⟨fun b o hbT e => kk b o (fun q => by have := m.hL; rw [← q, e] at this; cases this) (fun _ q => by have := m.hC x b q; rw [e] at this; cases this) (m.chg.heap b o hbT e), m.chg.os, m.chg.gens⟩, m.hL, m.hC⟩
theorem lf_asg {x : Str} {e : Expr} {px pos : Pos} {d : PyData} {rest : List Stmt} {Q : Flow → Shared → Prop} {E : Value → Shared → Prop} (m : Lf T Pt hb W env ρ s₀ s) (st : Stable T Pt) (v : Ev prog w A W s.heap (eval e env) d)
    (hx : env.kindOf x = some .local ∨ env.kindOf x = some .cell)
    (k : ∀ s', Lf T Pt hb W env (upd ρ x d) s₀ s' → wpAny (model prog w) A (execs rest env) Q E s')
    (hs : swapsWith e (some (.Name x px)) pos.line env = pure false := by kernel_rfl) : wpAny (model prog w) A (execs (.Assign [.Name x px] e pos :: rest) env) Q E s :=
  wpAny_execs_cons (wpAny_Assign_Name (v s _ _ le_rfl fun v s₁ g r => (m.grow st g).store st hx r k) hs)
theorem lf_comp1 {x : Str} {px : Pos} {elt iter : Expr} {ifs : List Expr} {pos : Pos} {ds : List PyData} (f : PyData → Option PyData) {y : Str} {py spos : Pos} {rest : List Stmt} {Q : Flow → Shared → Prop} {E : Value → Shared → Prop}
    (m : Lf T Pt hb W env ρ s₀ s) (st : Stable T Pt) (src : Src prog w A W s.heap (.Name x px) (eval iter env) ds)
    (turn : ∀ C cs d W' h', d ∈ ds → Frm hb (cenvOf env scope C cs) W' [] h' (upd (seen scope ρ) x d) →
      EvT prog w A h' ifs (cenvOf env scope C cs) (f d).isSome ∧ ∀ y, f d = some y → Ev prog w A W' h' (eval elt (cenvOf env scope C cs)) y) (hz : ds.length ≤ 1000000)
    (k : ∀ s', Lf T Pt hb W env (upd ρ y (.list (ds.filterMap f))) s₀ s' → wpAny (model prog w) A (execs rest env) Q E s')
    (hy : env.kindOf y = some .local ∨ env.kindOf y = some .cell := by exact .inl (by kernel_rfl))
    (hx : Held env scope x := by intro _ _; exact .inl (by kernel_rfl)) (hn : scope.names.lookup x ≠ some .free := by decide +kernel)
    (hnd : (scope.names.map (·.1)).Nodup := by decide +kernel) (hkind : scope.kind = .function := by kernel_rfl)
    (hfree : (scope.names.all fun x => x.2 != .free || env.kindOf x.1 == some .cell || env.kindOf x.1 == some .free) = true := by kernel_rfl)
    (hsw : swapsWith (.ListComp elt [⟨.Name x px, iter, ifs, 0⟩] scope pos) (some (.Name y py)) spos.line env = pure true := by kernel_rfl)
    (hs : ∀ x, foldedSetIterable iter env x = pure x := by intro _; kernel_rfl) :
    wpAny (model prog w) A (execs (.Assign [.Name y py] (.ListComp elt [⟨.Name x px, iter, ifs, 0⟩] scope pos) spos :: rest) env) Q E s := by
  have F := m.F
  refine wpAny_execs_cons ?_
  rw [exec_Assign_Name_used _ _ _ _ hsw]
  refine wpAny_bind (wpAny_standAt (wpAny_bind ?_))
  show wpAny _ A (do let _ ← comprehension (.ListComp elt [⟨.Name x px, iter, ifs, 0⟩] scope pos) scope env _ (newList []) false (eval iter env) (some (assign (.Name y py) env))) _ _ s
  refine wpAny_bind (comp_core (nm := [x]) (tgt := fun d => upd (seen scope ρ) x d) F le_rfl hz hnd hkind hfree (fun d => sub_upd hn) src (fun C cs d _ => asg_held hx C cs) turn (fun D C mm s' g hC hD hCD hn kk => ?_) hs)
  have F' : Frm hb env W [] s'.heap ρ := F.grow g.heap
  obtain ⟨r, _⟩ := kk s'.heap ⟨rfl, fun _ _ => rfl⟩
  refine wpAny_assign_Name (st_store F' hy (fun _ h => nomatch h) r fun h' tk F'' k' => ?_)
  have hCl : C ≠ env.locals := fun q => by
    obtain ⟨o, e⟩ := F.th _ F.lw
    rw [← q, hC] at e; cases e
  have hCc : ∀ x, env.cells.lookup x ≠ some C := fun x q => by
    obtain ⟨vo, ⟨o, e, _⟩, _⟩ := F.cl x C q
    rw [hC] at e; cases e
  refine ⟨mm, ?_, fun h'' sb => ?_⟩
  · obtain ⟨o, es, ep, e, rr⟩ := hn
    exact ⟨o, es, ep, k' C o hCl (fun _ => hCc y) e, rr⟩
  · have CW : C ∉ W := fun q => by obtain ⟨o, e⟩ := F.th _ q; rw [hC] at e; cases e
    have nC : ∀ b o, s.heap.get? b = some o → b ≠ C := fun b o e q => by rw [q, hC] at e; cases e
    have hbC : hb.get? C = none := by
      cases q : hb.get? C with
      | none => rfl
      | some o => rw [F.keep C o q] at hC; cases hC
    obtain ⟨oC, _, _, eC, cC, _⟩ := id hn
    have F3 : Frm hb env W [] h'' (upd ρ y (.list (ds.filterMap f))) := by
      refine F''.iter CW hbC (fun o e => ?_) fun b o hb e => (sb.2 b hb).trans e
      have e' : h'.get? C = some oC := k' C oC hCl (fun _ => hCc y) eC
      rw [e'] at e; cases e
      rintro ⟨_, vs, n, q⟩
      rw [cC] at q; cases q
    have all : ∀ b o, b ≠ env.locals → (env.kindOf y = some .cell → env.cells.lookup y ≠ some b) → s.heap.get? b = some o → h''.get? b = some o := fun b o h1 h2 e => (sb.2 b (nC b o e)).trans (k' b o h1 h2 (g.heap b o e))
    refine wpAny_pure (wpAny_pure (k { s' with heap := h'', toks := tk } ⟨F3, m.off, st _ _ m.P fun a ha o e => all a o (m.off a ha).2.1 (fun _ => (m.off a ha).2.2.1 y) e, ⟨fun b o hbT e => all b o (fun q => ?_) (fun _ q => ?_) (m.chg.heap b o hbT e), g.os.trans m.chg.os, fun x => g.gens (m.chg.gens x)⟩, m.hL, m.hC⟩))
    · have := m.hL; rw [← q, e] at this; cases this
    · have := m.hC y b q; rw [e] at this; cases this
/-- a comprehension whose element changes T, as a value -/
theorem lf_list {x : Str} {px : Pos} {elt iter : Expr} {pos : Pos} {ds : List PyData} (f : PyData → PyData) {Q E : Value → Shared → Prop}
    (m : Lf T Pt hb W env ρ s₀ s) (st : Stable T Pt) (ex : ∀ h, Pt h → ∀ a ∈ T, ∃ o, h.get? a = some o) (src : Src prog w A W s.heap (.Name x px) (eval iter env) ds)
    (turn : ∀ C cs d W' s', d ∈ ds → Frm hb (cenvOf env scope C cs) W' [] s'.heap (upd (seen scope ρ) x d) → Off T hb W' (cenvOf env scope C cs) → Pt s'.heap → ∀ (Q E : Value → Shared → Prop),
      (∀ v s'', Chg T s' s'' → Pt s''.heap → (∀ a ∈ T, ∃ o, s''.heap.get? a = some o) → Rp (hideAll s''.heap W') v (f d) → Q v s'') → wpAny (model prog w) A (eval elt (cenvOf env scope C cs)) Q E s') (hz : ds.length ≤ 1000000)
    (k : ∀ v s', Lf T Pt hb W env ρ s₀ s' → Rp (hideAll s'.heap W) v (.list (ds.map f)) → Q v s')
    (hx : Held env scope x := by intro _ _; exact .inl (by kernel_rfl)) (hn : scope.names.lookup x ≠ some .free := by decide +kernel)
    (hnd : (scope.names.map (·.1)).Nodup := by decide +kernel) (hkind : scope.kind = .function := by kernel_rfl)
    (hfree : (scope.names.all fun x => x.2 != .free || env.kindOf x.1 == some .cell || env.kindOf x.1 == some .free) = true := by kernel_rfl)
    (hs : ∀ x, foldedSetIterable iter env x = pure x := by intro _; kernel_rfl) :
    wpAny (model prog w) A (eval (.ListComp elt [⟨.Name x px, iter, [], 0⟩] scope pos) env) Q E s := by
  rw [eval_ListComp]
  refine comp_chg (nm := [x]) (tgt := fun d => upd (seen scope ρ) x d) (Pt := Pt) m.F le_rfl hz hnd hkind hfree (fun d => sub_upd hn) src (fun C cs d _ => asg_held hx C cs) m.off m.P st turn (fun D C mm s' c P' hC hD hCD hns kk => ?_) hs
  refine ⟨mm, hns, fun h' sb => ?_⟩
  obtain ⟨r, c'⟩ := kk h' sb
  have nC : ∀ a ∈ T, a ≠ C := fun a ha q => by obtain ⟨o, e⟩ := m.there a ha; rw [q, hC] at e; cases e
  have P2 : Pt h' := st _ _ P' fun a ha o e => (sb.2 a (nC a ha)).trans e
  exact k _ _ (m.step c' P2 (ex _ P2)) r
end
end Mine
end

section
open PySem PySem.W
set_option Elab.async false
set_option maxRecDepth 100000
set_option linter.unusedVariables false
namespace Mine
/-! ## the law, plainly -/
noncomputable def quadP (p : List Nat × Nat) : Quad := ⟨p.1.count 0, p.1.count 1, p.1.count 2, p.2⟩
noncomputable def swapQ (x : Quad) : Quad := ⟨x.q, x.p, x.r, x.t⟩
noncomputable def turnQ (m : Nat) (x : Quad) : Quad := ⟨x.p, x.r, x.q, m - x.t⟩
noncomputable def insN (a : Nat) : List Nat → List Nat
  | [] => [a]
  | b :: r => if Nat.ble a b then a :: b :: r else b :: insN a r
noncomputable def sortN : List Nat → List Nat
  | [] => []
  | a :: r => insN a (sortN r)
theorem insN_perm (a : Nat) : ∀ l : List Nat, (insN a l).Perm (a :: l)
  | [] => .refl _
  | b :: r => by
    unfold insN
    split
    · exact .refl _
    · exact ((insN_perm a r).cons b).trans (.swap a b r)
theorem sortN_perm : ∀ l : List Nat, (sortN l).Perm l
  | [] => .refl _
  | a :: r => (insN_perm a (sortN r)).trans ((sortN_perm r).cons a)
noncomputable def unrank (n : Nat) : Quad := ⟨n / 1000000000, n / 1000000 % 1000, n / 1000 % 1000, n % 1000⟩
theorem unrank_rank {x : Quad} (h : x.small = true) : unrank x.rank = x := by
  obtain ⟨a1, a2, a3, a4⟩ := Quad.small_iff.mp h
  obtain ⟨p, q, r, t⟩ := x
  unfold Quad.rank unrank
  dsimp only at *
  congr 1 <;> omega
theorem perm_of_ranks {xs ys : List Quad} (hx : ∀ x ∈ xs, x.small = true) (hy : ∀ x ∈ ys, x.small = true) (h : sortN (xs.map Quad.rank) = sortN (ys.map Quad.rank)) : xs.Perm ys := by
  have p : (xs.map Quad.rank).Perm (ys.map Quad.rank) := (sortN_perm _).symm.trans (h ▸ sortN_perm _)
  have q := p.map unrank
  rw [List.map_map, List.map_map] at q
  have e : ∀ l : List Quad, (∀ x ∈ l, x.small = true) → l.map (unrank ∘ Quad.rank) = l := fun l hl => by
    have := List.map_congr_left (f := unrank ∘ Quad.rank) (g := id) (l := l) fun x hx => unrank_rank (hl x hx)
    rw [this, List.map_id]
  rw [e xs hx, e ys hy] at q
  exact q
/-- how many earlier ones reach each -/
noncomputable def earlierE (ends : List Nat) : List Nat := (List.range 5).map fun j => ((List.range j).filter fun i => decide (j < ends.getD i 0)).length
noncomputable def waysN (l : List Nat) : Int := (l.map fun (n : Nat) => (n : Int)).foldl (fun a n => a * (3 - n)) 1
noncomputable def okEnds (ends : List Nat) : Bool :=
  let qs := (painted ends 5).map quadP
  let m := (earlierE ends).sum
  let rk := sortN (qs.map Quad.rank)
  ((qs.length : Int) == waysN (earlierE ends)) && (earlierE ends).all (fun n => Nat.ble n 4) && qs.all Quad.small && qs.all (fun x => Nat.ble x.t m) && Nat.ble m 100 &&
    (sortN ((qs.map swapQ).map Quad.rank) == rk) && (sortN ((qs.map (turnQ m)).map Quad.rank) == rk)
noncomputable def theEnds : List (List Nat) := [[4, 5, 5, 5, 5], [4, 4, 5, 5, 5], [4, 4, 4, 5, 5], [3, 4, 5, 5, 5], [3, 4, 4, 5, 5], [3, 4, 4, 4, 5], [3, 3, 4, 5, 5], [3, 3, 4, 4, 5], [3, 3, 3, 5, 5], [3, 3, 3, 4, 5], [2, 3, 4, 5, 5], [2, 3, 3, 5, 5], [2, 3, 3, 4, 5], [3, 3, 5, 5, 5], [2, 3, 5, 5, 5], [2, 3, 4, 4, 5], [2, 2, 4, 5, 5], [2, 2, 3, 5, 5], [2, 2, 3, 4, 5], [2, 2, 5, 5, 5], [2, 2, 4, 4, 5], [3, 5, 5, 5, 5], [2, 4, 5, 5, 5], [2, 4, 4, 5, 5], [1, 3, 5, 5, 5], [1, 3, 4, 5, 5], [1, 3, 4, 4, 5], [1, 2, 5, 5, 5], [1, 2, 4, 5, 5], [1, 2, 4, 4, 5], [1, 2, 3, 5, 5], [1, 2, 3, 4, 5], [2, 5, 5, 5, 5], [2, 4, 4, 4, 5], [1, 4, 5, 5, 5], [1, 4, 4, 5, 5], [1, 3, 3, 5, 5], [1, 3, 3, 4, 5], [5, 5, 5, 5, 5]]
theorem ends_a : (theEnds.take 10).all okEnds = true := by decide +kernel
theorem ends_b : ((theEnds.drop 10).take 10).all okEnds = true := by decide +kernel
theorem ends_c : ((theEnds.drop 20).take 7).all okEnds = true := by decide +kernel
theorem ends_d : ((theEnds.drop 27).take 5).all okEnds = true := by decide +kernel
theorem ends_e : (theEnds.drop 32).all okEnds = true := by decide +kernel
theorem ends_ok : theEnds.all okEnds = true := by
  have e : theEnds = theEnds.take 10 ++ ((theEnds.drop 10).take 10 ++ ((theEnds.drop 20).take 7 ++ ((theEnds.drop 27).take 5 ++ theEnds.drop 32))) := by decide +kernel
  rw [e, List.all_append, List.all_append, List.all_append, List.all_append, ends_a, ends_b, ends_c, ends_d, ends_e]; rfl
noncomputable def endsOf (room : Int) (lens : List Nat) : List Nat := (List.range 5).map fun j => j + rowN room 0 (lens.drop j)
noncomputable def earlierOf (room : Int) (lens : List Nat) : List Nat := (List.range 5).map fun j => ((List.range j).filter fun i => decide (((((lens.drop i).take (j + 1 - i)).map fun (n : Nat) => ((n : Int) + 1)).sum) ≤ room)).length
noncomputable def okLens (room : Int) (lens : List Nat) : Bool := theEnds.contains (endsOf room lens) && (earlierOf room lens == earlierE (endsOf room lens))
noncomputable abbrev LensAt (r a : Nat) : Prop := ∀ b < 4, ∀ c < 4, ∀ d < 4, ∀ e < 4, okLens ((8 + r : Nat) : Int) [a + 1, b + 1, c + 1, d + 1, e + 1] = true
theorem lens_00 : LensAt 0 0 := by decide +kernel
theorem lens_01 : LensAt 0 1 := by decide +kernel
theorem lens_02 : LensAt 0 2 := by decide +kernel
theorem lens_03 : LensAt 0 3 := by decide +kernel
theorem lens_10 : LensAt 1 0 := by decide +kernel
theorem lens_11 : LensAt 1 1 := by decide +kernel
theorem lens_12 : LensAt 1 2 := by decide +kernel
theorem lens_13 : LensAt 1 3 := by decide +kernel
theorem lens_20 : LensAt 2 0 := by decide +kernel
theorem lens_21 : LensAt 2 1 := by decide +kernel
theorem lens_22 : LensAt 2 2 := by decide +kernel
theorem lens_23 : LensAt 2 3 := by decide +kernel
theorem lens_ok : ∀ r < 3, ∀ a < 4, ∀ b < 4, ∀ c < 4, ∀ d < 4, ∀ e < 4, okLens ((8 + r : Nat) : Int) [a + 1, b + 1, c + 1, d + 1, e + 1] = true := by
  intro r hr a ha
  match r, a, hr, ha with
  | 0, 0, _, _ => exact lens_00
  | 0, 1, _, _ => exact lens_01
  | 0, 2, _, _ => exact lens_02
  | 0, 3, _, _ => exact lens_03
  | 1, 0, _, _ => exact lens_10
  | 1, 1, _, _ => exact lens_11
  | 1, 2, _, _ => exact lens_12
  | 1, 3, _, _ => exact lens_13
  | 2, 0, _, _ => exact lens_20
  | 2, 1, _, _ => exact lens_21
  | 2, 2, _, _ => exact lens_22
  | 2, 3, _, _ => exact lens_23
  | r + 3, a, h, _ => exact absurd h (Nat.not_lt.mpr (Nat.le_add_left 3 r))
  | r, a + 4, _, h => exact absurd h (Nat.not_lt.mpr (Nat.le_add_left 4 a))
end Mine
end

section
open PySem PySem.W
set_option Elab.async false
set_option maxRecDepth 100000
set_option linter.unusedVariables false
namespace Mine
theorem lay_quads : ∀ qs : List Quad, PyData.canLayAll0 (qs.map Quad.enc) = true
  | [] => rfl
  | x :: r => by
    show (PyData.canLay0 x.enc && PyData.canLayAll0 (r.map Quad.enc)) = true
    rw [lay_quads r]; rfl
theorem depth_quads : ∀ qs : List Quad, PyData.depthAll (qs.map Quad.enc) ≤ 1
  | [] => Nat.zero_le _
  | x :: r => by
    show max (PyData.depth x.enc) (PyData.depthAll (r.map Quad.enc)) ≤ 1
    have h1 : PyData.depth x.enc = 1 := rfl
    have := depth_quads r
    (first | lia | omega)
theorem depth_told (qs : List Quad) : (PyData.list (qs.map Quad.enc)).depth ≤ 2 := by
  show PyData.depthAll (qs.map Quad.enc) + 1 ≤ 2
  have := depth_quads qs
  (first | lia | omega)
/-- all that law's end needs -/
structure Told (ends : List Nat) (told : List Quad) : Prop where
  perm : told.Perm ((painted ends 5).map quadP)
  ord : told.Pairwise fun a b => a.rank ≤ b.rank
  sm0 : ∀ x ∈ (painted ends 5).map quadP, x.small = true
  sm1 : ∀ x ∈ told.map swapQ, x.small = true
  sm2 : ∀ x ∈ told.map (turnQ (earlierE ends).sum), x.small = true
  p1 : told.Perm (told.map swapQ)
  p2 : told.Perm (told.map (turnQ (earlierE ends).sum))
  t : ∀ x ∈ told, x.t ≤ (earlierE ends).sum
  ways : (told.length : Int) = waysN (earlierE ends)
  few : ∀ n ∈ earlierE ends, n ≤ 4
  len : told.length ≤ 1000
theorem told_of {ends : List Nat} (h : okEnds ends = true) : ∃ told, Told ends told := by
  unfold okEnds at h
  simp only [Bool.and_eq_true, beq_iff_eq, List.all_eq_true] at h
  obtain ⟨⟨⟨⟨⟨⟨h1, h2⟩, h3⟩, h4⟩, h5⟩, h6⟩, h7⟩ := h
  have hm := Nat.le_of_ble_eq_true h5
  have hsw : ∀ x ∈ ((painted ends 5).map quadP).map swapQ, x.small = true := fun x hx => by
    obtain ⟨y, hy, rfl⟩ := List.mem_map.mp hx
    obtain ⟨a, b, c, d⟩ := Quad.small_iff.mp (h3 y hy)
    exact Quad.small_iff.mpr ⟨b, a, c, d⟩
  have htn : ∀ x ∈ ((painted ends 5).map quadP).map (turnQ (earlierE ends).sum), x.small = true := fun x hx => by
    obtain ⟨y, hy, rfl⟩ := List.mem_map.mp hx
    obtain ⟨a, b, c, d⟩ := Quad.small_iff.mp (h3 y hy)
    exact Quad.small_iff.mpr ⟨a, c, b, by show (earlierE ends).sum - y.t < 1000; (first | lia | omega)⟩
  have q1 : (((painted ends 5).map quadP).map swapQ).Perm ((painted ends 5).map quadP) := perm_of_ranks hsw h3 h6
  have q2 : (((painted ends 5).map quadP).map (turnQ (earlierE ends).sum)).Perm ((painted ends 5).map quadP) := perm_of_ranks htn h3 h7
  have hp : ((painted ends 5).map quadP).length ≤ 3 ^ 5 := by rw [List.length_map]; exact painted_len ends 5
  obtain ⟨qs, hqs⟩ : ∃ qs, (painted ends 5).map quadP = qs := ⟨_, rfl⟩
  rw [hqs] at h1 h3 h4 hsw htn q1 q2 hp
  let told := qs.mergeSort fun a b => decide (a.rank ≤ b.rank)
  have hperm : told.Perm qs := List.mergeSort_perm ..
  have hord : told.Pairwise fun a b => a.rank ≤ b.rank := by
    have := List.pairwise_mergeSort (le := fun a b : Quad => decide (a.rank ≤ b.rank)) (fun a b c g1 g2 => decide_eq_true (Nat.le_trans (of_decide_eq_true g1) (of_decide_eq_true g2))) (fun a b => by
      rw [Bool.or_eq_true, decide_eq_true_eq, decide_eq_true_eq]; exact Nat.le_total _ _) qs
    exact this.imp fun h => of_decide_eq_true h
  have hlen : told.length = qs.length := hperm.length_eq
  have inq : ∀ x ∈ told, x ∈ qs := fun x hx => hperm.mem_iff.mp hx
  refine ⟨told, by rw [hqs]; exact hperm, hord, by rw [hqs]; exact h3, fun x hx => ?_, fun x hx => ?_, ?_, ?_, fun x hx => Nat.le_of_ble_eq_true (h4 x (inq x hx)), ?_, fun n hn => Nat.le_of_ble_eq_true (h2 n hn), ?_⟩
  · obtain ⟨y, hy, rfl⟩ := List.mem_map.mp hx
    exact hsw _ (List.mem_map.mpr ⟨y, inq y hy, rfl⟩)
  · obtain ⟨y, hy, rfl⟩ := List.mem_map.mp hx
    exact htn _ (List.mem_map.mpr ⟨y, inq y hy, rfl⟩)
  · exact hperm.trans (q1.symm.trans (hperm.map swapQ).symm)
  · exact hperm.trans (q2.symm.trans (hperm.map (turnQ (earlierE ends).sum)).symm)
  · rw [hlen]; exact h1
  · rw [hlen]; exact Nat.le_trans hp (by decide)
end Mine
end

section
open PySem PySem.W PySem.Calls PySem.Spec PyProof.Rows PyProof.Rows.LCg
set_option Elab.async false
set_option maxRecDepth 100000
set_option maxHeartbeats 2000000
set_option linter.unusedVariables false
namespace Mine
theorem fillite28 : (fun (_ : Params → Frag) => True) hd.heap_39 ∧ PySem.Challenge.rw_xp0030_01.prog = PySem.Challenge.rw_xp0030_01.prog := by
  k_fill
  exact ⟨trivial, rfl⟩
noncomputable def numAt (ns : List Int) (j : Nat) : Int := ([1, 0, 2, 3, 0] : List Int).getD j 0 + (if j < ns.length then ns.getD j 0 else 0)
noncomputable abbrev numF (ns : List Int) : PyData → Option PyData
  | .int i => some (.int (numAt ns i.toNat))
  | _ => none
noncomputable def roomOf (ns : List Int) : Int := 8 + (1 + (ns.take 5).sum).fmod 3
noncomputable def wordAt (ns : List Int) (j : Nat) : Str := Txt.mul (Txt.item "abcde" (j : Int)) (1 + (numAt ns j).fmod 4)
noncomputable abbrev wordF (ns : List Int) : PyData → Option PyData
  | .int i => some (.str (wordAt ns i.toNat))
  | _ => none
noncomputable def numsL (ns : List Int) : List Int := (List.range 5).map (numAt ns)
noncomputable def wordsL (ns : List Int) : List Str := (List.range 5).map (wordAt ns)
noncomputable def Pt (h : Heap) : Prop := (∃ ps, h.get? 147 = some { cls := .none, data := .fields ps } ∧ TriplesOk ps.toList) ∧ (∃ ps, h.get? 154 = some { cls := .none, data := .fields ps } ∧ TriplesOk ps.toList)
theorem pt_stable : Stable [147, 154] Pt := fun h h' p k => ⟨let ⟨ps, e, t⟩ := p.1; ⟨ps, k 147 (by simp) _ e, t⟩, let ⟨ps, e, t⟩ := p.2; ⟨ps, k 154 (by simp) _ e, t⟩⟩
theorem pt_there : ∀ h, Pt h → ∀ a ∈ [147, 154], ∃ o, h.get? a = some o := fun h p a ha => by
  rcases List.mem_cons.mp ha with rfl | ha
  · obtain ⟨ps, e, _⟩ := p.1; exact ⟨_, e⟩
  · rw [List.mem_singleton.mp ha]; obtain ⟨ps, e, _⟩ := p.2; exact ⟨_, e⟩
noncomputable def mulB (x : Str) (n : Int) : Bool := !(decide (n < -(2 ^ 63 : Int)) || decide (n ≥ 2 ^ 63)) && (decide (n < 1) || (n == 1 || x.length == 0) || (!decide ((x.length : Int) > (2 ^ 63 - 1) / n) && !Builtin.Str.tooLong (x.length * n.toNat)))
theorem mulB_ok {x : Str} {n : Int} (h : mulB x n = true) : MulOk x n := by
  unfold mulB at h
  simp only [Bool.and_eq_true, Bool.or_eq_true, Bool.not_eq_true', decide_eq_true_eq, decide_eq_false_iff_not] at h
  refine ⟨h.1, fun h1 h2 => ?_, fun h1 h2 => ?_⟩
  · rcases h.2 with (h3 | h3) | h3
    · exact absurd h3 h1
    · rw [← Bool.or_eq_true, h2] at h3; cases h3
    · exact h3.1
  · rcases h.2 with (h3 | h3) | h3
    · exact absurd h3 h1
    · rw [← Bool.or_eq_true, h2] at h3; cases h3
    · exact h3.2
theorem letters : ∀ c < 5, ∀ n < 4, mulB (Txt.item "abcde" ((c : Nat) : Int)) (1 + ((n : Nat) : Int)) = true := by decide +kernel
theorem letter_ok (c : Nat) (hc : c < 5) (n : Nat) (hn : n < 4) : MulOk (Txt.item "abcde" ((c : Nat) : Int)) (1 + ((n : Nat) : Int)) := mulB_ok (letters c hc n hn)
theorem base_get : ∀ c < 5, (([1, 0, 2, 3, 0] : List Int).map PyData.int)[c]? = some (.int (([1, 0, 2, 3, 0] : List Int).getD c 0)) := by
  intro c hc
  have hc' : c = 0 ∨ c = 1 ∨ c = 2 ∨ c = 3 ∨ c = 4 := by (first | lia | omega)
  rcases hc' with rfl | rfl | rfl | rfl | rfl <;> rfl
theorem fmod4 (a : Int) : ∃ n : Nat, n < 4 ∧ a.fmod 4 = (n : Int) := ⟨(a.fmod 4).toNat, by
  have h1 := Int.fmod_nonneg_of_pos a (by decide : (0 : Int) < 4)
  have h2 := Int.fmod_lt_of_pos a (by decide : (0 : Int) < 4)
  (first | lia | omega), by
  have h1 := Int.fmod_nonneg_of_pos a (by decide : (0 : Int) < 4)
  (first | lia | omega)⟩

noncomputable def wdB (wd : Str) (n : Nat) : Bool := decide (1 ≤ wd.length) && decide (wd.length ≤ 10) && !wd.cps.toList.contains 32 && !wd.cps.toList.contains 10 && wd.cps.toList.any (fun c => !Unicode.isSpace c) && (encP (" ", wd)).canLay0 &&
  !PyData.eqv (encP (" ", wd)) (encP (" ", "")) && decide (wd.length = n)
theorem wd_of {wd : Str} {n : Nat} (h : wdB wd n = true) : Wd wd ∧ wd.length = n := by
  unfold wdB at h
  simp only [Bool.and_eq_true, decide_eq_true_eq, Bool.not_eq_true', List.any_eq_true] at h
  obtain ⟨⟨⟨⟨⟨⟨⟨h1, h2⟩, h3⟩, h4⟩, c, hc, h5⟩, h6⟩, h7⟩, h8⟩ := h
  exact ⟨⟨h1, h2, fun hm => (by rw [List.contains_iff_mem.mpr hm] at h3; cases h3), fun hm => (by rw [List.contains_iff_mem.mpr hm] at h4; cases h4), ⟨c, hc, h5⟩, h6, h7⟩, h8⟩
theorem word_all : ∀ c < 5, ∀ n < 4, wdB (Txt.mul (Txt.item "abcde" ((c : Nat) : Int)) (1 + ((n : Nat) : Int))) (n + 1) = true := by decide +kernel
theorem word_ok (c : Nat) (hc : c < 5) (n : Nat) (hn : n < 4) : Wd (Txt.mul (Txt.item "abcde" ((c : Nat) : Int)) (1 + ((n : Nat) : Int))) ∧ (Txt.mul (Txt.item "abcde" ((c : Nat) : Int)) (1 + ((n : Nat) : Int))).length = n + 1 := wd_of (word_all c hc n hn)
theorem words_ok (ns : List Int) : ∀ wd ∈ wordsL ns, Wd wd := fun wd h => by
  obtain ⟨c, hc, rfl⟩ := List.mem_map.mp h
  obtain ⟨n, hn, e⟩ := fmod4 (numAt ns c)
  unfold wordAt
  rw [e]
  exact (word_ok c (List.mem_range.mp hc) n hn).1
theorem words_small (ns : List Int) : ∀ wd ∈ wordsL ns, wd.length ≤ 4 := fun wd h => by
  obtain ⟨c, hc, rfl⟩ := List.mem_map.mp h
  obtain ⟨n, hn, e⟩ := fmod4 (numAt ns c)
  unfold wordAt
  rw [e, (word_ok c (List.mem_range.mp hc) n hn).2]
  (first | lia | omega)
noncomputable def lensL (ns : List Int) : List Nat := (wordsL ns).map (·.length)
theorem lens_form (ns : List Int) : ∃ a b c d e, a < 4 ∧ b < 4 ∧ c < 4 ∧ d < 4 ∧ e < 4 ∧ lensL ns = [a + 1, b + 1, c + 1, d + 1, e + 1] := by
  have key : ∀ c < 5, ∃ n, n < 4 ∧ (wordAt ns c).length = n + 1 := fun c hc => by
    obtain ⟨n, hn, e⟩ := fmod4 (numAt ns c)
    refine ⟨n, hn, ?_⟩
    unfold wordAt
    rw [e]
    exact (word_ok c hc n hn).2
  obtain ⟨a, ha, ea⟩ := key 0 (by decide)
  obtain ⟨b, hb, eb⟩ := key 1 (by decide)
  obtain ⟨c, hc, ec⟩ := key 2 (by decide)
  obtain ⟨d, hd, ed⟩ := key 3 (by decide)
  obtain ⟨e, he, ee⟩ := key 4 (by decide)
  refine ⟨a, b, c, d, e, ha, hb, hc, hd, he, ?_⟩
  show [(wordAt ns 0).length, (wordAt ns 1).length, (wordAt ns 2).length, (wordAt ns 3).length, (wordAt ns 4).length] = _
  rw [ea, eb, ec, ed, ee]
theorem room_form (ns : List Int) : ∃ r, r < 3 ∧ roomOf ns = ((8 + r : Nat) : Int) := by
  have h1 := Int.fmod_nonneg_of_pos (1 + (ns.take 5).sum) (by decide : (0 : Int) < 3)
  have h2 := Int.fmod_lt_of_pos (1 + (ns.take 5).sum) (by decide : (0 : Int) < 3)
  refine ⟨((1 + (ns.take 5).sum).fmod 3).toNat, by (first | lia | omega), ?_⟩
  unfold roomOf
  (first | lia | omega)
theorem law_lens (ns : List Int) : okLens (roomOf ns) (lensL ns) = true := by
  obtain ⟨a, b, c, d, e, ha, hb, hc, hd, he, el⟩ := lens_form ns
  obtain ⟨r, hr, er⟩ := room_form ns
  rw [el, er]
  exact lens_ok r hr a ha b hb c hc d hd e he
noncomputable abbrev fitsIn (room : Int) (lens : List Nat) (j i : Nat) : Bool := decide (((((lens.drop i).take (j + 1 - i)).map fun (n : Nat) => ((n : Int) + 1)).sum) ≤ room)
noncomputable abbrev earlF (room : Int) (lens : List Nat) : PyData → Option PyData
  | .int i => some (.int ((((List.range i.toNat).filter (fitsIn room lens i.toNat)).length : Nat) : Int))
  | _ => none
noncomputable abbrev pickI (room : Int) (lens : List Nat) (j : Nat) : PyData → Option PyData
  | .int i => if fitsIn room lens j i.toNat then some (.int i) else none
  | _ => none
theorem pick_list (room : Int) (lens : List Nat) (j n : Nat) : (upTo' n).filterMap (pickI room lens j) = ((List.range n).filter (fitsIn room lens j)).map fun (i : Nat) => PyData.int (i : Int) := by
  unfold upTo'
  generalize List.range n = l
  induction l with
  | nil => rfl
  | cons a l ih =>
    rw [List.map_cons, List.filterMap_cons, List.filter_cons, ih]
    simp only [pickI, Int.toNat_natCast]
    by_cases h : fitsIn room lens j a = true
    · rw [if_pos h, if_pos h]; rfl
    · rw [if_neg h, if_neg h]
noncomputable abbrev lenF : PyData → Option PyData
  | .str x => some (.int ((x.length : Int) + 1))
  | _ => none
theorem len_list (l : List Str) : (l.map PyData.str).filterMap lenF = ((l.map (·.length)).map fun (n : Nat) => ((n : Int) + 1)).map PyData.int := by
  induction l with
  | nil => rfl
  | cons a l ih => rw [List.map_cons, List.filterMap_cons, ih]; rfl

noncomputable abbrev tellF : PyData → Option PyData
  | .tuple [.tuple cs, r] => some (.tuple [.int ((cs.countP fun y => PyData.eqv y (.int 0) : Nat) : Int), .int ((cs.countP fun y => PyData.eqv y (.int 1) : Nat) : Int), .int ((cs.countP fun y => PyData.eqv y (.int 2) : Nat) : Int), r])
  | _ => none
theorem count_nats (k : Nat) (cs : List Nat) : (natsD cs).countP (fun y => PyData.eqv y (.int (k : Int))) = cs.count k := by
  induction cs with
  | nil => rfl
  | cons a l ih =>
    show ((PyData.int (a : Int)) :: natsD l).countP _ = _
    rw [List.countP_cons, ih, List.count_cons]
    have : PyData.eqv (.int (a : Int)) (.int (k : Int)) = (a == k) := by
      show ((a : Int) == (k : Int)) = _
      by_cases h : a = k
      · subst h; simp
      · have h' : ¬ ((a : Int) = (k : Int)) := by (first | lia | omega)
        rw [beq_eq_false_iff_ne.mpr h', beq_eq_false_iff_ne.mpr h]
    rw [this]
theorem tell_one (p : List Nat × Nat) : tellF (enc p) = some (quadP p).enc := by
  have h0 := count_nats 0 p.1
  have h1 := count_nats 1 p.1
  have h2 := count_nats 2 p.1
  show some (PyData.tuple [.int (((natsD p.1).countP fun y => PyData.eqv y (.int ((0 : Nat) : Int)) : Nat) : Int), .int (((natsD p.1).countP fun y => PyData.eqv y (.int ((1 : Nat) : Int)) : Nat) : Int), .int (((natsD p.1).countP fun y => PyData.eqv y (.int ((2 : Nat) : Int)) : Nat) : Int), .int (p.2 : Int)]) = _
  rw [h0, h1, h2]
  rfl
theorem tell_list (l : List (List Nat × Nat)) : (l.map enc).filterMap tellF = (l.map quadP).map Quad.enc := by
  induction l with
  | nil => rfl
  | cons a l ih => rw [List.map_cons, List.filterMap_cons, tell_one, ih]; rfl
theorem lay_nats : ∀ l : List Nat, PyData.canLayAll0 (natsD l) = true
  | [] => rfl
  | x :: r => by
    show (true && PyData.canLayAll0 (natsD r)) = true
    rw [lay_nats r]; rfl
noncomputable abbrev swapF : PyData → Option PyData
  | .tuple [p, q, r, t] => some (.tuple [q, p, r, t])
  | _ => none
theorem swap_list (l : List Quad) : (l.map Quad.enc).filterMap swapF = (l.map swapQ).map Quad.enc := by
  induction l with
  | nil => rfl
  | cons a l ih => rw [List.map_cons, List.filterMap_cons, ih]; rfl
noncomputable abbrev turnF (m : Int) : PyData → Option PyData
  | .tuple [p, q, r, .int t] => some (.tuple [p, r, q, .int (m - t)])
  | _ => none
theorem turn_list (m : Nat) : ∀ l : List Quad, (∀ x ∈ l, x.t ≤ m) → (l.map Quad.enc).filterMap (turnF (m : Int)) = (l.map (turnQ m)).map Quad.enc
  | [], _ => rfl
  | a :: l, h => by
    rw [List.map_cons, List.filterMap_cons, turn_list m l fun x hx => h x (List.mem_cons_of_mem _ hx)]
    have ht := h a (List.mem_cons_self ..)
    have e : ((m : Int) - (a.t : Int)) = ((m - a.t : Nat) : Int) := by (first | lia | omega)
    show PyData.tuple [.int (a.p : Int), .int (a.r : Int), .int (a.q : Int), .int ((m : Int) - (a.t : Int))] :: _ = _
    rw [e]; rfl
theorem heldFour {env : Env} {scope : Scope} {a b c d : Str} {p q r t : Pos} (h1 : Held env scope a := by intro _ _; exact .inl (by kernel_rfl)) (h2 : Held env scope b := by intro _ _; exact .inl (by kernel_rfl)) (h3 : Held env scope c := by intro _ _; exact .inl (by kernel_rfl)) (h4 : Held env scope d := by intro _ _; exact .inl (by kernel_rfl)) : ∀ x ∈ [(a, p), (b, q), (c, r), (d, t)], Held env scope x.1 := fun x hx => by
  rcases List.mem_cons.mp hx with rfl | hx
  · exact h1
  · rcases List.mem_cons.mp hx with rfl | hx
    · exact h2
    · rcases List.mem_cons.mp hx with rfl | hx
      · exact h3
      · rw [List.mem_singleton.mp hx]; exact h4
theorem quad_shape {qs : List Quad} : ∀ d ∈ qs.map Quad.enc, ∃ es, d = .tuple es ∧ 4 = es.length := fun d hd => by
  obtain ⟨x, _, rfl⟩ := List.mem_map.mp hd
  exact ⟨_, rfl, rfl⟩

theorem sum_cast (l : List Nat) : (l.map fun (n : Nat) => (n : Int)).sum = ((l.sum : Nat) : Int) := by
  induction l with
  | nil => rfl
  | cons a l ih => rw [List.map_cons, List.sum_cons, List.sum_cons, ih]; (first | lia | omega)
section
variable {prog : Program} {w : World} {A : Around} {E : Value → Shared → Prop} {hb : Heap} {W : List Addr}
set_option maxHeartbeats 16000000 in
theorem law_m {ns : List Int} {s : Shared} {v : Value} {Q : Value → Shared → Prop} (P : Pr prog) (C : Cx (hd.heap_39 w.params) A 14 200 hb) (hle : Le hb s.heap) (hth : There [147, 154] s.heap)
    (h147 : hb.get? 147 = none) (h154 : hb.get? 154 = none) (pt : Pt s.heap) (r0 : Rp (hideAll s.heap [147, 154]) v (.list (ns.map .int))) (hn : ns.length ≤ 63)
    (q : ∀ s', Chg [147, 154] s s' → Pt s'.heap → Q (.bool true) s') : wpAny (model prog w) A (PySem.call (.ref 295) [v]) Q E s := by
  k_dflt (refine' enter_def (O := [147, 154]) (D := 13) (U := 197) ["script"] (ds := [.list (ns.map .int)]) C hle hth (.cons r0 .nil) ?hO ?ho ?hcd ?hbind rfl ?k1 ?k2 ?k3 ?k4 ?h ?c1 ?c2 ?c3)
  case hO => 
    intro a ha
    rcases List.mem_cons.mp ha with rfl | hm
    · exact ⟨ha, h147⟩
    · rw [List.mem_singleton.mp hm] at ha ⊢; exact ⟨ha, h154⟩
  case ho => k_is
  case hcd => k_is
  case hbind => exact fun _ => BindsTo.of_eq (by kernel_rfl)
  case k1 => decide
  case k2 => decide
  case k3 => decide
  case k4 => decide
  case c1 => rfl
  case c2 => rfl
  case c3 => rfl
  intro A' L W' s₁ E' C' F off g hL inW hW'
  have m1 : Lf [147, 154] Pt hb W' _ _ s s₁ := ⟨F, off, pt_stable _ _ pt fun a _ o e => g.heap a o e, g.chg, hL, fun x c e => (hW' c (F.cw x c e).1).resolve_left fun hm => (off c hm).2.2.1 x e⟩
  -- numbers
  refine lf_asg (d := .list ((numsL ns).map .int)) m1 pt_stable ?_ (.inr (by kernel_rfl)) fun s₂ m2 => ?_
  · rw [show (numsL ns).map PyData.int = (upTo' 5).filterMap (numF ns) from rfl]
    refine ev_comp1 (numF ns) m1.F (rg m1.F C' (n := 5) (by decide) Ev.int) (fun Cl cs d W2 h2 hd F2 => ?_) (by simp)
    obtain ⟨c, hc, rfl⟩ := mem_upTo hd
    refine ⟨EvT.nil, fun y hy => ?_⟩
    cases hy
    rw [Int.toNat_natCast]
    refine Ev.bin (a := .int (([1, 0, 2, 3, 0] : List Int).getD c 0)) (b := .int (if c < ns.length then ns.getD c 0 else 0)) (Ev.sub (a := .tuple ([1, 0, 2, 3, 0].map .int)) (Ev.tup F2.th (evs_cons Ev.int (evs_cons Ev.int (evs_cons Ev.int (evs_cons Ev.int (evs_cons Ev.int evs_nil))))) (by simp)) (ev_loc F2) (item_tuple (i := c) ?_ (by simp)))
      (Ev.ite (c := decide ((c : Int) < (ns.length : Int))) (EvB.cmp (ev_loc F2) (bt (op_lenN (ds := ns.map .int) (n := ns.length) (by simp) (by (first | lia | omega))) F2 C' (evs_cons (ev_cell F2) evs_nil)) op_lt) (fun hlt => ?_) (fun hge => ?_)) op_add
    · exact base_get c hc
    · rw [decide_eq_true_eq] at hlt
      have hlt' : c < ns.length := by (first | lia | omega)
      rw [if_pos hlt']
      exact Ev.sub (ev_cell F2) (ev_loc F2) (item_list (i := c) (by rw [List.getElem?_map, List.getElem?_eq_getElem hlt', List.getD_eq_getElem?_getD, List.getElem?_eq_getElem hlt']; rfl) (by simp; (first | lia | omega)))
    · rw [decide_eq_false_iff_not] at hge
      rw [if_neg (by (first | lia | omega))]
      exact Ev.int
  -- width
  refine lf_asg (d := .int (roomOf ns)) m2 pt_stable ?_ (.inr (by kernel_rfl)) fun s₃ m3 => ?_
  · exact Ev.bin Ev.int (Ev.bin (Ev.bin Ev.int (bt (op_sum (ns := ns.take 5) C'.hh) m2.F C' (evs_cons (ev_slice (ds := ns.map .int) (lo := none) (hi := some ((5 : Nat) : Int)) m2.F.th (ev_cell m2.F) EvP.none (EvP.some (W := W') Ev.int) (by simp; (first | lia | omega)) (fun vs g r => by rw [List.map_take]; exact sl_upto 5 vs g r)) evs_nil)) op_add) Ev.int (op_mod (by decide))) op_add
  -- words
  refine lf_asg (d := .list ((wordsL ns).map .str)) m3 pt_stable ?_ (.inr (by kernel_rfl)) fun s₄ m4 => ?_
  · rw [show (wordsL ns).map PyData.str = (upTo' 5).filterMap (wordF ns) from rfl]
    refine ev_comp1 (wordF ns) m3.F (rg m3.F C' (n := 5) (by decide) Ev.int) (fun Cl cs d W2 h2 hd F2 => ?_) (by simp)
    obtain ⟨c, hc, rfl⟩ := mem_upTo hd
    refine ⟨EvT.nil, fun y hy => ?_⟩
    cases hy
    rw [Int.toNat_natCast]
    obtain ⟨n4, h4, e4⟩ := fmod4 (numAt ns c)
    refine Ev.bin (b := .int (1 + (numAt ns c).fmod 4)) (Ev.sub (Ev.str (x := "abcde")) (ev_loc F2) (item_text (i := c) (y := Txt.item "abcde" (c : Int)) (by show c < 5; exact hc) rfl (by decide +kernel))) (Ev.bin Ev.int (Ev.bin (Ev.sub (a := .list ((numsL ns).map .int)) (ev_cell F2) (ev_loc F2) (item_list (i := c) (d := .int (numAt ns c)) ?_ (by simp [numsL]))) Ev.int (op_mod (by decide))) op_add) (op_mulS ?_ rfl)
    · unfold numsL
      rw [List.getElem?_map, List.getElem?_map, List.getElem?_range hc]; rfl
    · rw [e4]; exact letter_ok c hc n4 h4
  -- earlier
  refine lf_comp1 (earlF (roomOf ns) (lensL ns)) m4 pt_stable (rg m4.F C' (n := 5) (by decide) Ev.int) (fun Cl cs d W2 h2 hd F2 => ?_) (by simp) (fun s₅ m5 => ?_) (.inl (by kernel_rfl)) (by intro _ _; exact .inr ⟨by kernel_rfl, mem_of_lookup (by kernel_rfl)⟩)
  · obtain ⟨c, hc, rfl⟩ := mem_upTo hd
    refine ⟨EvT.nil, fun y hy => ?_⟩
    cases hy
    rw [Int.toNat_natCast]
    refine bt (op_lenN (ds := ((List.range c).filter (fitsIn (roomOf ns) (lensL ns) c)).map fun (i : Nat) => PyData.int (i : Int)) (List.length_map ..) (by have := List.length_filter_le (fitsIn (roomOf ns) (lensL ns) c) (List.range c); rw [List.length_range] at this; (first | lia | omega))) F2 C' (evs_cons ?_ evs_nil)
    rw [← pick_list]
    refine ev_comp1 (pickI (roomOf ns) (lensL ns) c) F2 (rg F2 C' (n := c) (by (first | lia | omega)) (ev_cell F2)) (fun Cl3 cs3 d3 W3 h3 hd3 F3 => ?_) (by simp; (first | lia | omega))
    obtain ⟨i, hi, rfl⟩ := mem_upTo hd3
    refine ⟨?_, fun y hy => ?_⟩
    · have hp : (pickI (roomOf ns) (lensL ns) c (.int ((i : Nat) : Int))).isSome = fitsIn (roomOf ns) (lensL ns) c i := by
        show (if fitsIn (roomOf ns) (lensL ns) c i = true then some (PyData.int ((i : Nat) : Int)) else none).isSome = _
        cases h : fitsIn (roomOf ns) (lensL ns) c i <;> rfl
      show EvT prog w A' h3 _ _ (pickI (roomOf ns) (lensL ns) c (.int ((i : Nat) : Int))).isSome
      rw [hp]
      refine EvT.one (EvB.cmp (W := W3) (bt (op_sum (ns := ((((lensL ns).drop i).take (c + 1 - i)).map fun (n : Nat) => ((n : Int) + 1))) C'.hh) F3 C' (evs_cons ?_ evs_nil)) (ev_cell F3) op_le)
      have e : (((lensL ns).drop i).take (c + 1 - i)) = (((wordsL ns).drop i).take (c + 1 - i)).map (·.length) := by
        unfold lensL
        rw [← List.map_drop, ← List.map_take]
      rw [e, ← len_list]
      have hlw : (wordsL ns).length = 5 := by simp [wordsL]
      refine ev_comp1 lenF F3 (src_list C'.hh (ev_slice (ds := (wordsL ns).map .str) (lo := some ((i : Nat) : Int)) (hi := some (((c : Nat) : Int) + 1)) F3.th (ev_cell F3) (EvP.some (W := W3) (ev_loc F3)) (EvP.some (W := W3) (Ev.bin (ev_cell F3) Ev.int op_add)) (by simp [hlw]) (fun vs g r => by
        rw [List.map_take, List.map_drop]
        exact sl_between i (c + 1) vs g r))) (fun Cl4 cs4 d4 W4 h4 hd4 F4 => ?_) (by simp [hlw]; (first | lia | omega))
      obtain ⟨wd, hwd, rfl⟩ := List.mem_map.mp hd4
      have hwd' : wd ∈ wordsL ns := List.mem_of_mem_drop (List.mem_of_mem_take hwd)
      refine ⟨EvT.nil, fun y hy => ?_⟩
      cases hy
      exact Ev.bin (bt (op_lenS (by have := (words_ok ns wd hwd').short; (first | lia | omega))) F4 C' (evs_cons (ev_loc F4) evs_nil)) Ev.int op_add
    · have hy' : (if fitsIn (roomOf ns) (lensL ns) c i = true then some (PyData.int ((i : Nat) : Int)) else none) = some y := by
        have h := hy
        simp only [pickI, Int.toNat_natCast] at h
        exact h
      by_cases h : fitsIn (roomOf ns) (lensL ns) c i = true
      · rw [if_pos h] at hy'
        cases hy'
        exact ev_loc F3
      · rw [if_neg h] at hy'; cases hy'
  -- paintings
  have hE : (upTo' 5).filterMap (earlF (roomOf ns) (lensL ns)) = ((earlierOf (roomOf ns) (lensL ns)).map fun (n : Nat) => (n : Int)).map PyData.int := rfl
  rw [hE] at m5
  refine wpAny_execs_cons (wpAny_Assign_Name (wpAny_Call_NameR (name_glob m5.F C'.wl le_rfl (by kernel_rfl) (by k_is) (callWith_K (C'.wl.mono m5.F.keep).X (by k_is) (spliced_cons ?_) (by kernel_rfl) (by kernel_rfl)))) (by kernel_rfl))
  refine lf_list (Pt := Pt) (fun d => match d with | .int i => .int ((i.toNat + rowN (roomOf ns) 0 ((lensL ns).drop i.toNat) : Nat) : Int) | d => d) m5 pt_stable pt_there (rg m5.F C' (n := 5) (by decide) Ev.int) (fun Cl cs d W2 s2 hd F2 off2 P2 Q2 E2 k2 => ?_) (by simp) (fun pv s₆ m6 rp => Calls.spliced_nil ?_)
  · obtain ⟨c, hc, rfl⟩ := mem_upTo hd
    have X2 := C'.wl.mono F2.keep
    refine wpAny_Call_NameR (name_glob F2 C'.wl le_rfl (by kernel_rfl) (by k_is) (callWith_K X2.X (by k_is) (Evs.run (W := W2) (h₀ := s2.heap) (ds := [.list ((wordsL ns).map .str), .int (roomOf ns), .int ((c : Nat) : Int)]) (evs_cons (ev_cell F2) (evs_cons (ev_cell F2) (evs_cons (ev_loc F2) evs_nil))) le_rfl fun vs s₃ g₃ r₃ => ⟨(X2.mono g₃.heap).X, ?_⟩) (by kernel_rfl) (by kernel_rfl)))
    obtain ⟨b0, b1, b2, rfl, q0, q1, q2⟩ := r₃.of3
    have F3 := F2.grow g₃.heap
    have P3 := pt_stable _ _ P2 fun a _ o e => g₃.heap a o e
    have hlw : (wordsL ns).length = 5 := by simp [wordsL]
    obtain ⟨rr, hr, er⟩ := room_form ns
    refine end_m (first := c) P (C'.mono le_rfl (by decide) (by decide)) F3.keep F3.th ⟨(off2 147 (by simp)).1, (off2 147 (by simp)).2.2.2⟩ ⟨(off2 154 (by simp)).1, (off2 154 (by simp)).2.2.2⟩ P3.1 P3.2 q0 q1 q2 (words_ok ns) (fun wd hwd => ?_) (by (first | lia | omega)) (by (first | lia | omega)) (fun t s₄ c4 p1 p2 => ?_)
    · have := words_small ns wd hwd
      rw [er]
      (first | lia | omega)
    · refine k2 _ s₄ (g₃.chg.trans c4) ⟨p1, p2⟩ (pt_there _ ⟨p1, p2⟩) ?_
      have e : (lensL ns).drop c = ((wordsL ns).drop c).map (·.length) := by unfold lensL; rw [← List.map_drop]
      show Rp _ _ (.int ((c + rowN (roomOf ns) 0 ((lensL ns).drop c) : Nat) : Int))
      rw [e]
      exact .int ..
  have hEnds : (upTo' 5).map (fun d => match d with | .int i => PyData.int ((i.toNat + rowN (roomOf ns) 0 ((lensL ns).drop i.toNat) : Nat) : Int) | d => d) = natsD (endsOf (roomOf ns) (lensL ns)) := rfl
  rw [hEnds] at rp
  obtain ⟨hin, hear⟩ := Bool.and_eq_true_iff.mp (law_lens ns)
  have hear' := beq_iff_eq.mp hear
  have hmem : endsOf (roomOf ns) (lensL ns) ∈ theEnds := List.contains_iff_mem.mp hin
  have hok := List.all_eq_true.mp ends_ok _ hmem
  have hl5 : (endsOf (roomOf ns) (lensL ns)).length = 5 := by simp [endsOf]
  rw [hear'] at m6
  generalize endsOf (roomOf ns) (lensL ns) = ends at rp hok hl5 m6
  have X6 := C'.wl.mono m6.F.keep
  refine ⟨X6.X, ?_⟩
  have pp := painted_ps (prog := prog) (w := w) ends (by (first | lia | omega)) A' W' s₆ [pv]
  rw [hl5] at pp
  refine pp _ _ (C'.mono m6.F.keep (by decide) (by decide)) m6.F.th (.cons rp .nil) fun lv s₇ g₇ rl => ?_
  have m7 := m6.grow pt_stable g₇
  refine m7.store pt_stable (.inl (by kernel_rfl)) rl fun s₈ m8 => ?_
  dsimp only
  obtain ⟨told, T⟩ := told_of hok
  have hu : A'.units + 20 < cLine := by have := C'.un; (first | lia | omega)
  -- told
  refine lf_asg (d := .list (told.map Quad.enc)) m8 pt_stable (bt (op_sorted m8.F.th T.sm0 T.perm T.ord (by rw [← T.perm.length_eq]; exact T.len)) m8.F C' (evs_cons ?_ evs_nil)) (.inl (by kernel_rfl)) fun s₉ m9 => ?_
  · rw [← tell_list]
    refine ev_comp2 [("colours", _), ("rises", _)] tellF C'.hh m8.F (src_list C'.hh (ev_loc m8.F)) (fun d hd => ?_) (fun Cl cs d W2 h2 hd F2 => ?_) (by rw [List.length_map]; exact Nat.le_trans (painted_len ends 5) (by decide)) rfl held2
    · obtain ⟨p, _, rfl⟩ := List.mem_map.mp hd
      exact ⟨_, rfl, rfl⟩
    · obtain ⟨p, _, rfl⟩ := List.mem_map.mp hd
      refine ⟨EvT.nil, fun y hy => ?_⟩
      cases hy
      exact Ev.tup F2.th (evs_cons (ev_count (tup := true) (ev_loc F2) Ev.int (lay_nats p.1) rfl (by decide) hu) (evs_cons (ev_count (tup := true) (ev_loc F2) Ev.int (lay_nats p.1) rfl (by decide) hu) (evs_cons (ev_count (tup := true) (ev_loc F2) Ev.int (lay_nats p.1) rfl (by decide) hu) (evs_cons (ev_loc F2) evs_nil)))) (by simp)
  -- if len(told) != _law_ways(earlier): return False
  refine wpAny_execs_cons (wpAny_If (EvB.cmp (W := W') (c := false) (bt (op_lenN (ds := told.map Quad.enc) (n := told.length) (List.length_map ..) (Nat.le_trans T.len (by decide))) m9.F C' (evs_cons (ev_loc m9.F) evs_nil)) (cl (ways_ps ((earlierE ends).map fun (n : Nat) => (n : Int)) (fun n hn => ?_)) m9.F C' (evs_cons (ev_loc m9.F) evs_nil)) ?_ (by kernel_rfl) s₉ _ _ le_rfl fun s₁₀ g₁₀ => ?_))
  · obtain ⟨k, hk, rfl⟩ := List.mem_map.mp hn
    have := T.few k hk
    (first | lia | omega)
  · have h := op_neI (prog := prog) (w := w) (A := A') (W := W') (h₀ := s₉.heap) (a := (told.length : Int)) (b := waysN (earlierE ends))
    rw [show ((told.length : Int) != waysN (earlierE ends)) = false from by rw [T.ways]; simp] at h
    exact h
  simp only [Bool.false_eq_true, if_false]
  have m10 := m9.grow pt_stable g₁₀
  refine wpAny_execs_nil ?_
  dsimp only
  -- if told != sorted([(q, p, r, rises) ..]): return False
  refine wpAny_execs_cons (wpAny_If (EvB.cmp (W := W') (a := .list (told.map Quad.enc)) (b := .list (told.map Quad.enc)) (c := false) (ev_loc m10.F) (bt (op_sorted (qs := told.map swapQ) (es := told) m10.F.th T.sm1 T.p1 T.ord (by rw [List.length_map]; exact T.len)) m10.F C' (evs_cons ?_ evs_nil)) ?_ (by kernel_rfl) s₁₀ _ _ le_rfl fun s₁₁ g₁₁ => ?_))
  · rw [← swap_list]
    refine ev_comp2 [("p", _), ("q", _), ("r", _), ("rises", _)] swapF C'.hh m10.F (src_list C'.hh (ev_loc m10.F)) quad_shape (fun Cl cs d W2 h2 hd F2 => ?_) (by rw [List.length_map]; exact Nat.le_trans T.len (by decide)) rfl heldFour
    obtain ⟨x, _, rfl⟩ := List.mem_map.mp hd
    refine ⟨EvT.nil, fun y hy => ?_⟩
    cases hy
    exact Ev.tup F2.th (evs_cons (ev_loc F2) (evs_cons (ev_loc F2) (evs_cons (ev_loc F2) (evs_cons (ev_loc F2) evs_nil)))) (by simp)
  · have h := op_nev (prog := prog) (w := w) (A := A') (W := W') (h := s₁₀.heap) (a := .list (told.map Quad.enc)) (b := .list (told.map Quad.enc)) (lay_quads told) (lay_quads told) (Nat.le_trans (Nat.min_le_left ..) (Nat.le_trans (depth_told told) (by decide))) hu
    rw [PySem.SeqAt.eqv_refl (.list (told.map Quad.enc)) (lay_quads told)] at h
    exact h
  simp only [Bool.false_eq_true, if_false]
  have m11 := m10.grow pt_stable g₁₁
  refine wpAny_execs_nil ?_
  dsimp only
  -- meets = sum(earlier)
  refine lf_asg (d := .int (((earlierE ends).sum : Nat) : Int)) m11 pt_stable ?_ (.inr (by kernel_rfl)) fun s₁₂ m12 => ?_
  · rw [← sum_cast]
    exact bt (op_sum (ns := (earlierE ends).map fun (n : Nat) => (n : Int)) C'.hh) m11.F C' (evs_cons (ev_loc m11.F) evs_nil)
  -- return told == sorted([(p, r, q, isub(meets, rises)) ..])
  refine wpAny_execs_cons (wpAny_Return_some (Ev.run (W := W') (h := s₁₂.heap) (d := .bool true) (Ev.cmp (a := .list (told.map Quad.enc)) (b := .list (told.map Quad.enc)) (ev_loc m12.F) (bt (op_sorted (qs := told.map (turnQ (earlierE ends).sum)) (es := told) m12.F.th T.sm2 T.p2 T.ord (by rw [List.length_map]; exact T.len)) m12.F C' (evs_cons ?_ evs_nil)) ?_ (by kernel_rfl)) le_rfl fun v s₁₃ g₁₃ r₁₃ => ?_))
  · rw [← turn_list _ _ T.t]
    refine ev_comp2 [("p", _), ("q", _), ("r", _), ("rises", _)] (turnF (((earlierE ends).sum : Nat) : Int)) C'.hh m12.F (src_list C'.hh (ev_loc m12.F)) quad_shape (fun Cl cs d W2 h2 hd F2 => ?_) (by rw [List.length_map]; exact Nat.le_trans T.len (by decide)) rfl heldFour
    obtain ⟨x, _, rfl⟩ := List.mem_map.mp hd
    refine ⟨EvT.nil, fun y hy => ?_⟩
    cases hy
    exact Ev.tup F2.th (evs_cons (ev_loc F2) (evs_cons (ev_loc F2) (evs_cons (ev_loc F2) (evs_cons (cl (isub_ps _ _) F2 C' (evs_cons (ev_cell F2) (evs_cons (ev_loc F2) evs_nil))) evs_nil)))) (by simp)
  · have h := op_eqv (prog := prog) (w := w) (A := A') (W := W') (h := s₁₂.heap) (a := .list (told.map Quad.enc)) (b := .list (told.map Quad.enc)) (lay_quads told) (lay_quads told) (Nat.le_trans (Nat.min_le_left ..) (Nat.le_trans (depth_told told) (by decide))) hu
    rw [PySem.SeqAt.eqv_refl (.list (told.map Quad.enc)) (lay_quads told)] at h
    exact h
  have m13 := m12.grow pt_stable g₁₃
  cases r₁₃
  exact q _ m13.chg m13.P
end
end Mine
end

section
open PySem PySem.W PySem.Calls PySem.Spec PyProof.Rows PyProof.Rows.LCg
set_option Elab.async false
set_option maxRecDepth 100000
set_option maxHeartbeats 2000000
set_option linter.unusedVariables false
namespace Mine
noncomputable def frag2 (P : Params) : Frag := hd.heap_39 P ++ [(147, PySem.W.X.tableObj #[]), (154, PySem.W.X.tableObj #[])]
theorem fillite29 : (fun (_ : Params → Frag) => True) hd.heap_39 ∧ PySem.Challenge.rw_xp0030_01.prog = PySem.Challenge.rw_xp0030_01.prog := by
  k_fill
  exact ⟨trivial, rfl⟩
section
variable {P : Params} {h : Heap}
theorem no147 : (hd.heap_39 P).lookup 147 = none := by kernel_rfl
theorem no154 : (hd.heap_39 P).lookup 154 = none := by kernel_rfl
theorem app_lookup {K L : Frag} {a : Addr} : (K ++ L).lookup a = (K.lookup a).or (L.lookup a) := by
  induction K with
  | nil => simp
  | cons p K ih =>
    obtain ⟨b, o⟩ := p
    rw [List.cons_append, List.lookup_cons, List.lookup_cons]
    cases a == b with
    | true => rfl
    | false => exact ih
theorem part1 (X : (frag2 P).In h) : (hd.heap_39 P).In h := fun a o e => X a o (by unfold frag2; rw [app_lookup, e]; rfl)
theorem part147 (X : (frag2 P).In h) : h.get? 147 = some { cls := .none, data := .fields #[] } := X 147 _ (by unfold frag2; rw [app_lookup, no147]; rfl)
theorem part154 (X : (frag2 P).In h) : h.get? 154 = some { cls := .none, data := .fields #[] } := X 154 _ (by unfold frag2; rw [app_lookup, no154]; rfl)
theorem hid_in (X : (frag2 P).In h) : (hd.heap_39 P).In (hideAll h [147, 154]) := fun a o e => hideAll_get _ (part1 X a o e) fun hm => by
  rcases List.mem_cons.mp hm with rfl | hm
  · rw [no147] at e; cases e
  · rw [List.mem_singleton.mp hm, no154] at e; cases e
theorem hid_ns {a : Addr} {m : Str → Option Value} (X : (frag2 P).In h) (n : h.Ns a m) : (hideAll h [147, 154]).Ns a m := by
  obtain ⟨o, es, ep, e, dd, r⟩ := n
  refine ⟨o, es, ep, hideAll_get _ e fun hm => ?_, dd, r⟩
  rcases List.mem_cons.mp hm with rfl | hm
  · rw [part147 X] at e; cases e; cases dd
  · rw [List.mem_singleton.mp hm, part154 X] at e; cases e; cases dd
theorem hid_wl {p : Program} {loose : List Str} {mean : ExcName → Option Value} {mg mb : Str → Option Value} (X : (frag2 P).In h) (T : Top p loose mean mg mb h) : Wl (hd.heap_39 P) (hideAll h [147, 154]) := by
  refine ⟨hid_in X, mg, mb, hid_ns X T.g, hid_ns X T.b, ?_, T.builtins, ?_⟩
  · obtain ⟨mc, a, b⟩ := T.nolimit
    exact ⟨mc, hid_ns X a, b⟩
  · obtain ⟨bm, ob, a1, a2, a3, a4, a5, a6⟩ := T.bmain
    refine ⟨bm, ob, a1, a2, hideAll_get _ a3 fun hm => ?_, a4, a5, a6⟩
    rcases List.mem_cons.mp hm with rfl | hm
    · rw [part147 X] at a3; cases a3; cases a4
    · rw [List.mem_singleton.mp hm, part154 X] at a3; cases a3; cases a4
theorem law_at {p : Program} {loose : List Str} {mean : ExcName → Option Value} {mg mb : Str → Option Value} (X : (frag2 P).In h) (T : Top p loose mean mg mb h) {fa : Addr} (hm : mg "law" = some (.ref fa)) : fa = 295 := by
  have := mg_of (n := "law") (part1 X) T.g (show nsIn (hd.heap_39 P) mainGlobals "law" = some (some (.ref 295)) by k_is)
  rw [hm] at this
  injection this with this
  injection this
theorem code147 (X : (frag2 P).In h) : isCodeTable h 147 := ⟨151, _, _, part1 X 151 _ (by k_is), rfl, rfl, by kernel_rfl⟩
theorem code154 (X : (frag2 P).In h) : isCodeTable h 154 := ⟨158, _, _, part1 X 158 _ (by k_is), rfl, rfl, by kernel_rfl⟩
theorem old_of (X : (frag2 P).In h) {s s' : Shared} (e : s.heap = h) (c : Chg [147, 154] s s') (p : Pt s'.heap) : OldK h s'.heap := by
  subst e
  have one : ∀ b, (∃ ps, s'.heap.get? b = some { cls := .none, data := .fields ps } ∧ TriplesOk ps.toList) → s.heap.get? b = some { cls := .none, data := .fields #[] } → isCodeTable s.heap b → ∀ o, s.heap.get? b = some o → asItWas s.heap s'.heap b o := fun b p e0 hc o e => by
    obtain ⟨ps, e1, _⟩ := p
    rw [e0] at e; cases e
    exact .inr (.inl ⟨hc, rfl, #[], ps, rfl, by rw [e1]; simp⟩)
  refine ⟨fun b o e => ?_, fun b o e => ?_⟩
  · by_cases h1 : b = 147
    · subst h1; exact one _ p.1 (part147 X) (code147 X) o e
    · by_cases h2 : b = 154
      · subst h2; exact one _ p.2 (part154 X) (code154 X) o e
      · exact .inl (c.heap b o (by simp [h1, h2]) e)
  · by_cases h1 : b = 147
    · subst h1; obtain ⟨ps, e1, _⟩ := p.1; exact ⟨_, e1⟩
    · by_cases h2 : b = 154
      · subst h2; obtain ⟨ps, e1, _⟩ := p.2; exact ⟨_, e1⟩
      · exact ⟨o, c.heap b o (by simp [h1, h2]) e⟩
end
end Mine
namespace Mine
theorem rp_well {P : Params} {h g : Heap} : ∀ {ns : List Int} {vs : List Value}, WellAll P h vs (ofPys (ns.map .int)) → RpL g vs (ns.map .int)
  | [], _, x => by cases x; exact .nil
  | n :: ns, _, x => by
    have x' : WellAll P h _ (ofPy (.int n) :: ofPys (ns.map .int)) := x
    cases x' with
    | cons a r =>
      have a' : Well P h _ (.int n) := a
      cases a'
      exact .cons (.int ..) (rp_well r)
theorem law_end_all {w : World} {s₁ : Shared} {p : Program} {loose : List Str} {mean : ExcName → Option Value} {mg mb : Str → Option Value} {l : Addr} {ns : List Int} {Q E : Value → Shared → Prop} (KX : (frag2 w.params).In s₁.heap) (T : Top p loose mean mg mb s₁.heap) (hg : s₁.gens = #[])
    (hw : Well w.params s₁.heap (.ref l) (ofPy (.list (ns.map .int)))) (hn : ¬ ((63 : Nat) : Int) < (ns.length : Int)) (q : ∀ s', OldK s₁.heap s'.heap → s'.os = s₁.os → AllBare s'.gens → Q (.bool true) s') :
    wpAny (model PySem.Challenge.rw_xp0030_01.prog w) callerA (PySem.call (.ref 295) [.ref l]) Q E s₁ := by
  have a147 := part147 KX
  have a154 := part154 KX
  have r0 : Rp (hideAll s₁.heap [147, 154]) (.ref l) (.list (ns.map .int)) := by
    have hw' : Well w.params s₁.heap (.ref l) (.list (ofPys (ns.map .int))) := hw
    cases hw' with
    | list e x =>
      refine .list (hideAll_get _ e fun hm => ?_) rfl rfl rfl (by rw [List.toList_toArray]; exact rp_well x)
      rcases List.mem_cons.mp hm with rfl | hm
      · rw [a147] at e; cases e
      · rw [List.mem_singleton.mp hm, a154] at e; cases e
  have pt : Pt s₁.heap := ⟨⟨#[], a147, by simp [TriplesOk]⟩, ⟨#[], a154, by simp [TriplesOk]⟩⟩
  refine law_m pr_row ⟨hid_wl KX T, rfl, by decide, by decide⟩ (hide_le _ _) (fun a ha => pt_there _ pt a ha) (hideAll_none _ (by simp)) (hideAll_none _ (by simp)) pt r0 (by (first | lia | omega)) fun s' c p => q s' (old_of KX rfl c p) c.os (c.gens (AllBare.of_eq hg))
end Mine
end

section
open PySem PySem.W PyProof.Rows
set_option Elab.async false
set_option maxRecDepth 100000
set_option maxHeartbeats 8000000
namespace Mine
/-! ## the top's run, in three pieces, over a tree of objects (the objects printed by wip/cutgen.lean) -/
noncomputable def hd.rest : Obj → Params → Frag := fun o P =>
  (nat_lit 0, boot_o_0 P) ::
  (nat_lit 1, boot_o_1 P) ::
  (nat_lit 4, boot_o_4 P) ::
  (nat_lit 5, boot_o_5 P) ::
  (nat_lit 6, boot_o_6 P) ::
  (nat_lit 7, boot_o_7 P) ::
  (nat_lit 8, boot_o_8 P) ::
  (nat_lit 9, boot_o_9 P) ::
  (nat_lit 10, boot_o_10 P) ::
  (nat_lit 11, { cls := Value.type "tuple", data := Data.seq #[] }) ::
  (nat_lit 12, o) ::
  (nat_lit 13, { cls := Value.type "code", data := Data.fields #[Value.str (Str.ofString "<module>") 182, Value.str (Str.ofString "<module>") 183, Value.str (Str.ofString "/claim/cut.py") 184, Value.int 1 0, Value.int 0 0, Value.int 0 0, Value.int 0 0, Value.int 0 0, Value.ref 11, Value.bool false, Value.int 181 0, Value.ref 12, Value.none, Value.none, Value.none, Value.none, Value.int 185 0, Value.int 1 0, Value.str (Str.ofString "/claim/cut.py") 186] }) ::
  (nat_lit 14, { cls := Value.type "frame", slots := #[some (Value.ref 13), some (Value.ref 3), some (Value.ref 3), none, some (Value.str (Str.ofString "__main__") 164), none, some (Value.ref 0)] }) ::
  (nat_lit 16, { cls := Value.none, data := Data.fields #[] }) ::
  (nat_lit 19, { cls := Value.none, data := Data.func { name := Str.ofString "_wall", qualname := Str.ofString "_wall", params := Mine.fArgs (Mine.top 0), body := Mine.fBody (Mine.top 0), scope := Mine.fScope (Mine.top 0), globals := 0, closure := [], defaults := Value.none, kwdefaults := Value.none } }) ::
  (nat_lit 23, { cls := Value.none, data := Data.fields #[] }) ::
  (nat_lit 26, { cls := Value.none, data := Data.func { name := Str.ofString "_post_parse_validation", qualname := Str.ofString "_post_parse_validation", params := Mine.fArgs (Mine.top 2), body := Mine.fBody (Mine.top 2), scope := Mine.fScope (Mine.top 2), globals := 0, closure := [], defaults := Value.none, kwdefaults := Value.none } }) ::
  (nat_lit 29, { cls := Value.type "tuple", data := Data.seq #[] }) ::
  (nat_lit 30, { cls := Value.type "builtin_function_or_method", data := Data.fields #[Value.builtin "type.__prepare__", Value.type "type"] }) ::
  (nat_lit 31, { cls := Value.type "dict", data := Data.dict #[{ hash := PyData.keyHash P (Str.ofString "__module__"), key := Value.str (Str.ofString "__module__") 218, val := Value.str (Str.ofString "cpy313.email.header") 205 }, { hash := PyData.keyHash P (Str.ofString "__qualname__"), key := Value.str (Str.ofString "__qualname__") 220, val := Value.str (Str.ofString "_ValueFormatter") 219 }, { hash := PyData.keyHash P (Str.ofString "__firstlineno__"), key := Value.str (Str.ofString "__firstlineno__") 222, val := Value.int 15 221 }, { hash := PyData.keyHash P (Str.ofString "__init__"), key := Value.str (Str.ofString "__init__") 233, val := Value.ref 42 }, { hash := PyData.keyHash P (Str.ofString "_str"), key := Value.str (Str.ofString "_str") 241, val := Value.ref 49 }, { hash := PyData.keyHash P (Str.ofString "__str__"), key := Value.str (Str.ofString "__str__") 248, val := Value.ref 56 }, { hash := PyData.keyHash P (Str.ofString "newline"), key := Value.str (Str.ofString "newline") 256, val := Value.ref 63 }, { hash := PyData.keyHash P (Str.ofString "add_transition"), key := Value.str (Str.ofString "add_transition") 263, val := Value.ref 70 }, { hash := PyData.keyHash P (Str.ofString "feed"), key := Value.str (Str.ofString "feed") 273, val := Value.ref 77 }, { hash := PyData.keyHash P (Str.ofString "_maxlengths"), key := Value.str (Str.ofString "_maxlengths") 280, val := Value.ref 84 }, { hash := PyData.keyHash P (Str.ofString "_ascii_split"), key := Value.str (Str.ofString "_ascii_split") 290, val := Value.ref 91 }, { hash := PyData.keyHash P (Str.ofString "_append_chunk"), key := Value.str (Str.ofString "_append_chunk") 304, val := Value.ref 98 }, { hash := PyData.keyHash P (Str.ofString "__static_attributes__"), key := Value.str (Str.ofString "__static_attributes__") 311, val := Value.ref 99 }] 13 }) ::
  (nat_lit 32, { cls := Value.type "tuple", data := Data.seq #[] }) ::
  (nat_lit 33, { cls := Value.none, data := Data.fields #[Value.int 17 0, Value.int 4 0, Value.ref 41, Value.int 25 0, Value.int 4 0, Value.ref 48, Value.int 29 0, Value.int 4 0, Value.ref 55, Value.int 32 0, Value.int 4 0, Value.ref 62, Value.int 43 0, Value.int 4 0, Value.ref 69, Value.int 46 0, Value.int 4 0, Value.ref 76, Value.int 49 0, Value.int 4 0, Value.ref 83, Value.int 52 0, Value.int 4 0, Value.ref 90, Value.int 55 0, Value.int 4 0, Value.ref 97] }) ::
  (nat_lit 34, { cls := Value.type "code", data := Data.fields #[Value.str (Str.ofString "_ValueFormatter") 213, Value.str (Str.ofString "_ValueFormatter") 214, Value.str (Str.ofString "/claim/cut.py") 215, Value.int 15 0, Value.int 0 0, Value.int 0 0, Value.int 0 0, Value.int 0 0, Value.ref 32, Value.bool false, Value.int 181 0, Value.ref 33, Value.none, Value.none, Value.none, Value.none, Value.int 216 0, Value.int 15 0, Value.str (Str.ofString "/claim/cut.py") 217] }) ::
  (nat_lit 35, { cls := Value.type "frame", slots := #[some (Value.ref 34), some (Value.ref 3), some (Value.ref 31), none, some (Value.str (Str.ofString "cpy313.email.header") 205), none, some (Value.ref 0)] }) ::
  (nat_lit 37, { cls := Value.none, data := Data.fields #[] }) ::
  (nat_lit 40, { cls := Value.none, data := Data.func { name := Str.ofString "__init__", qualname := Str.ofString "_ValueFormatter.__init__", params := Mine.fArgs (Mine.meth 6 0), body := Mine.fBody (Mine.meth 6 0), scope := Mine.fScope (Mine.meth 6 0), globals := 0, closure := [], defaults := Value.none, kwdefaults := Value.none } }) ::
  (nat_lit 44, { cls := Value.none, data := Data.fields #[] }) ::
  (nat_lit 47, { cls := Value.none, data := Data.func { name := Str.ofString "_str", qualname := Str.ofString "_ValueFormatter._str", params := Mine.fArgs (Mine.meth 6 1), body := Mine.fBody (Mine.meth 6 1), scope := Mine.fScope (Mine.meth 6 1), globals := 0, closure := [], defaults := Value.none, kwdefaults := Value.none } }) ::
  (nat_lit 51, { cls := Value.none, data := Data.fields #[] }) ::
  (nat_lit 54, { cls := Value.none, data := Data.func { name := Str.ofString "__str__", qualname := Str.ofString "_ValueFormatter.__str__", params := Mine.fArgs (Mine.meth 6 2), body := Mine.fBody (Mine.meth 6 2), scope := Mine.fScope (Mine.meth 6 2), globals := 0, closure := [], defaults := Value.none, kwdefaults := Value.none } }) ::
  (nat_lit 58, { cls := Value.none, data := Data.fields #[] }) ::
  (nat_lit 61, { cls := Value.none, data := Data.func { name := Str.ofString "newline", qualname := Str.ofString "_ValueFormatter.newline", params := Mine.fArgs (Mine.meth 6 3), body := Mine.fBody (Mine.meth 6 3), scope := Mine.fScope (Mine.meth 6 3), globals := 0, closure := [], defaults := Value.none, kwdefaults := Value.none } }) ::
  (nat_lit 65, { cls := Value.none, data := Data.fields #[] }) ::
  (nat_lit 68, { cls := Value.none, data := Data.func { name := Str.ofString "add_transition", qualname := Str.ofString "_ValueFormatter.add_transition", params := Mine.fArgs (Mine.meth 6 4), body := Mine.fBody (Mine.meth 6 4), scope := Mine.fScope (Mine.meth 6 4), globals := 0, closure := [], defaults := Value.none, kwdefaults := Value.none } }) ::
  (nat_lit 72, { cls := Value.none, data := Data.fields #[] }) ::
  (nat_lit 75, { cls := Value.none, data := Data.func { name := Str.ofString "feed", qualname := Str.ofString "_ValueFormatter.feed", params := Mine.fArgs (Mine.meth 6 5), body := Mine.fBody (Mine.meth 6 5), scope := Mine.fScope (Mine.meth 6 5), globals := 0, closure := [], defaults := Value.none, kwdefaults := Value.none } }) ::
  (nat_lit 79, { cls := Value.none, data := Data.fields #[] }) ::
  (nat_lit 82, { cls := Value.none, data := Data.func { name := Str.ofString "_maxlengths", qualname := Str.ofString "_ValueFormatter._maxlengths", params := Mine.fArgs (Mine.meth 6 6), body := Mine.fBody (Mine.meth 6 6), scope := Mine.fScope (Mine.meth 6 6), globals := 0, closure := [], defaults := Value.none, kwdefaults := Value.none } }) ::
  (nat_lit 86, { cls := Value.none, data := Data.fields #[] }) ::
  (nat_lit 89, { cls := Value.none, data := Data.func { name := Str.ofString "_ascii_split", qualname := Str.ofString "_ValueFormatter._ascii_split", params := Mine.fArgs (Mine.meth 6 7), body := Mine.fBody (Mine.meth 6 7), scope := Mine.fScope (Mine.meth 6 7), globals := 0, closure := [], defaults := Value.none, kwdefaults := Value.none } }) ::
  (nat_lit 93, { cls := Value.none, data := Data.fields #[] }) ::
  (nat_lit 96, { cls := Value.none, data := Data.func { name := Str.ofString "_append_chunk", qualname := Str.ofString "_ValueFormatter._append_chunk", params := Mine.fArgs (Mine.meth 6 8), body := Mine.fBody (Mine.meth 6 8), scope := Mine.fScope (Mine.meth 6 8), globals := 0, closure := [], defaults := Value.none, kwdefaults := Value.none } }) ::
  (nat_lit 104, { cls := Value.type "super", data := Data.fields #[Value.ref 101, Value.ref 101, Value.ref 101] }) ::
  (nat_lit 105, { cls := Value.type "builtin_function_or_method", data := Data.fields #[Value.builtin "object.__init_subclass__", Value.ref 101] }) ::
  (nat_lit 107, { cls := Value.type "builtin_function_or_method", data := Data.fields #[Value.builtin "type.__prepare__", Value.type "type"] }) ::
  (nat_lit 108, { cls := Value.type "dict", data := Data.dict #[{ hash := PyData.keyHash P (Str.ofString "__module__"), key := Value.str (Str.ofString "__module__") 326, val := Value.str (Str.ofString "cpy313.email.header") 205 }, { hash := PyData.keyHash P (Str.ofString "__qualname__"), key := Value.str (Str.ofString "__qualname__") 328, val := Value.str (Str.ofString "_Accumulator") 327 }, { hash := PyData.keyHash P (Str.ofString "__firstlineno__"), key := Value.str (Str.ofString "__firstlineno__") 330, val := Value.int 81 329 }, { hash := PyData.keyHash P (Str.ofString "__init__"), key := Value.str (Str.ofString "__init__") 340, val := Value.ref 122 }, { hash := PyData.keyHash P (Str.ofString "push"), key := Value.str (Str.ofString "push") 349, val := Value.ref 129 }, { hash := PyData.keyHash P (Str.ofString "pop_from"), key := Value.str (Str.ofString "pop_from") 359, val := Value.ref 137 }, { hash := PyData.keyHash P (Str.ofString "pop"), key := Value.str (Str.ofString "pop") 367, val := Value.ref 145 }, { hash := PyData.keyHash P (Str.ofString "__len__"), key := Value.str (Str.ofString "__len__") 374, val := Value.ref 152 }, { hash := PyData.keyHash P (Str.ofString "__str__"), key := Value.str (Str.ofString "__str__") 381, val := Value.ref 159 }, { hash := PyData.keyHash P (Str.ofString "reset"), key := Value.str (Str.ofString "reset") 389, val := Value.ref 167 }, { hash := PyData.keyHash P (Str.ofString "is_onlyws"), key := Value.str (Str.ofString "is_onlyws") 396, val := Value.ref 174 }, { hash := PyData.keyHash P (Str.ofString "part_count"), key := Value.str (Str.ofString "part_count") 404, val := Value.ref 182 }, { hash := PyData.keyHash P (Str.ofString "__static_attributes__"), key := Value.str (Str.ofString "__static_attributes__") 406, val := Value.ref 183 }, { hash := PyData.keyHash P (Str.ofString "__classcell__"), key := Value.str (Str.ofString "__classcell__") 407, val := Value.ref 109 }] 14 }) ::
  (nat_lit 110, { cls := Value.type "tuple", data := Data.seq #[] }) ::
  (nat_lit 111, { cls := Value.none, data := Data.fields #[Value.int 83 0, Value.int 4 0, Value.ref 121, Value.int 87 0, Value.int 4 0, Value.ref 128, Value.int 90 0, Value.int 4 0, Value.ref 136, Value.int 95 0, Value.int 4 0, Value.ref 144, Value.int 100 0, Value.int 4 0, Value.ref 151, Value.int 103 0, Value.int 4 0, Value.ref 158, Value.int 106 0, Value.int 4 0, Value.ref 166, Value.int 112 0, Value.int 4 0, Value.ref 173, Value.int 115 0, Value.int 4 0, Value.ref 181] }) ::
  (nat_lit 112, { cls := Value.type "code", data := Data.fields #[Value.str (Str.ofString "_Accumulator") 321, Value.str (Str.ofString "_Accumulator") 322, Value.str (Str.ofString "/claim/cut.py") 323, Value.int 81 0, Value.int 0 0, Value.int 0 0, Value.int 0 0, Value.int 0 0, Value.ref 110, Value.bool false, Value.int 181 0, Value.ref 111, Value.none, Value.none, Value.none, Value.none, Value.int 324 0, Value.int 81 0, Value.str (Str.ofString "/claim/cut.py") 325] }) ::
  (nat_lit 113, { cls := Value.type "frame", slots := #[some (Value.ref 112), some (Value.ref 3), some (Value.ref 108), none, some (Value.str (Str.ofString "cpy313.email.header") 205), none, some (Value.ref 0)] }) ::
  (nat_lit 117, { cls := Value.none, data := Data.fields #[] }) ::
  (nat_lit 120, { cls := Value.none, data := Data.func { name := Str.ofString "__init__", qualname := Str.ofString "_Accumulator.__init__", params := Mine.fArgs (Mine.meth 7 0), body := Mine.fBody (Mine.meth 7 0), scope := Mine.fScope (Mine.meth 7 0), globals := 0, closure := [], defaults := Value.none, kwdefaults := Value.none } }) ::
  (nat_lit 124, { cls := Value.none, data := Data.fields #[] }) ::
  (nat_lit 127, { cls := Value.none, data := Data.func { name := Str.ofString "push", qualname := Str.ofString "_Accumulator.push", params := Mine.fArgs (Mine.meth 7 1), body := Mine.fBody (Mine.meth 7 1), scope := Mine.fScope (Mine.meth 7 1), globals := 0, closure := [], defaults := Value.none, kwdefaults := Value.none } }) ::
  (nat_lit 132, { cls := Value.none, data := Data.fields #[] }) ::
  (nat_lit 135, { cls := Value.none, data := Data.func { name := Str.ofString "pop_from", qualname := Str.ofString "_Accumulator.pop_from", params := Mine.fArgs (Mine.meth 7 2), body := Mine.fBody (Mine.meth 7 2), scope := Mine.fScope (Mine.meth 7 2), globals := 0, closure := [], defaults := Value.none, kwdefaults := Value.none } }) ::
  (nat_lit 140, { cls := Value.none, data := Data.fields #[] }) ::
  (nat_lit 143, { cls := Value.none, data := Data.func { name := Str.ofString "pop", qualname := Str.ofString "_Accumulator.pop", params := Mine.fArgs (Mine.meth 7 3), body := Mine.fBody (Mine.meth 7 3), scope := Mine.fScope (Mine.meth 7 3), globals := 0, closure := [], defaults := Value.none, kwdefaults := Value.none } }) ::
  (nat_lit 147, { cls := Value.none, data := Data.fields #[] }) ::
  (nat_lit 150, { cls := Value.none, data := Data.func { name := Str.ofString "__len__", qualname := Str.ofString "_Accumulator.__len__", params := Mine.fArgs (Mine.meth 7 4), body := Mine.fBody (Mine.meth 7 4), scope := Mine.fScope (Mine.meth 7 4), globals := 0, closure := [], defaults := Value.none, kwdefaults := Value.none } }) ::
  (nat_lit 154, { cls := Value.none, data := Data.fields #[] }) ::
  (nat_lit 157, { cls := Value.none, data := Data.func { name := Str.ofString "__str__", qualname := Str.ofString "_Accumulator.__str__", params := Mine.fArgs (Mine.meth 7 5), body := Mine.fBody (Mine.meth 7 5), scope := Mine.fScope (Mine.meth 7 5), globals := 0, closure := [], defaults := Value.none, kwdefaults := Value.none } }) ::
  (nat_lit 162, { cls := Value.none, data := Data.fields #[] }) ::
  (nat_lit 165, { cls := Value.none, data := Data.func { name := Str.ofString "reset", qualname := Str.ofString "_Accumulator.reset", params := Mine.fArgs (Mine.meth 7 6), body := Mine.fBody (Mine.meth 7 6), scope := Mine.fScope (Mine.meth 7 6), globals := 0, closure := [], defaults := Value.none, kwdefaults := Value.none } }) ::
  (nat_lit 169, { cls := Value.none, data := Data.fields #[] }) ::
  (nat_lit 172, { cls := Value.none, data := Data.func { name := Str.ofString "is_onlyws", qualname := Str.ofString "_Accumulator.is_onlyws", params := Mine.fArgs (Mine.meth 7 7), body := Mine.fBody (Mine.meth 7 7), scope := Mine.fScope (Mine.meth 7 7), globals := 0, closure := [], defaults := Value.none, kwdefaults := Value.none } }) ::
  (nat_lit 177, { cls := Value.none, data := Data.fields #[] }) ::
  (nat_lit 180, { cls := Value.none, data := Data.func { name := Str.ofString "part_count", qualname := Str.ofString "_Accumulator.part_count", params := Mine.fArgs (Mine.meth 7 8), body := Mine.fBody (Mine.meth 7 8), scope := Mine.fScope (Mine.meth 7 8), globals := 0, closure := [], defaults := Value.none, kwdefaults := Value.none } }) ::
  (nat_lit 188, { cls := Value.type "super", data := Data.fields #[Value.ref 185, Value.ref 185, Value.ref 185] }) ::
  (nat_lit 189, { cls := Value.type "builtin_function_or_method", data := Data.fields #[Value.builtin "object.__init_subclass__", Value.ref 185] }) ::
  (nat_lit 191, { cls := Value.none, data := Data.fields #[] }) ::
  (nat_lit 194, { cls := Value.none, data := Data.func { name := Str.ofString "lt", qualname := Str.ofString "lt", params := Mine.fArgs (Mine.top 9), body := Mine.fBody (Mine.top 9), scope := Mine.fScope (Mine.top 9), globals := 0, closure := [], defaults := Value.none, kwdefaults := Value.none } }) ::
  (nat_lit 198, { cls := Value.none, data := Data.fields #[] }) ::
  (nat_lit 201, { cls := Value.none, data := Data.func { name := Str.ofString "eq", qualname := Str.ofString "eq", params := Mine.fArgs (Mine.top 10), body := Mine.fBody (Mine.top 10), scope := Mine.fScope (Mine.top 10), globals := 0, closure := [], defaults := Value.none, kwdefaults := Value.none } }) ::
  (nat_lit 205, { cls := Value.none, data := Data.fields #[] }) ::
  (nat_lit 208, { cls := Value.none, data := Data.func { name := Str.ofString "concat", qualname := Str.ofString "concat", params := Mine.fArgs (Mine.top 11), body := Mine.fBody (Mine.top 11), scope := Mine.fScope (Mine.top 11), globals := 0, closure := [], defaults := Value.none, kwdefaults := Value.none } }) ::
  (nat_lit 212, { cls := Value.none, data := Data.fields #[] }) ::
  (nat_lit 215, { cls := Value.none, data := Data.func { name := Str.ofString "countOf", qualname := Str.ofString "countOf", params := Mine.fArgs (Mine.top 12), body := Mine.fBody (Mine.top 12), scope := Mine.fScope (Mine.top 12), globals := 0, closure := [], defaults := Value.none, kwdefaults := Value.none } }) ::
  (nat_lit 219, { cls := Value.none, data := Data.fields #[] }) ::
  (nat_lit 222, { cls := Value.none, data := Data.func { name := Str.ofString "iadd", qualname := Str.ofString "iadd", params := Mine.fArgs (Mine.top 13), body := Mine.fBody (Mine.top 13), scope := Mine.fScope (Mine.top 13), globals := 0, closure := [], defaults := Value.none, kwdefaults := Value.none } }) ::
  (nat_lit 226, { cls := Value.none, data := Data.fields #[] }) ::
  (nat_lit 229, { cls := Value.none, data := Data.func { name := Str.ofString "iand", qualname := Str.ofString "iand", params := Mine.fArgs (Mine.top 14), body := Mine.fBody (Mine.top 14), scope := Mine.fScope (Mine.top 14), globals := 0, closure := [], defaults := Value.none, kwdefaults := Value.none } }) ::
  (nat_lit 233, { cls := Value.none, data := Data.fields #[] }) ::
  (nat_lit 236, { cls := Value.none, data := Data.func { name := Str.ofString "ilshift", qualname := Str.ofString "ilshift", params := Mine.fArgs (Mine.top 15), body := Mine.fBody (Mine.top 15), scope := Mine.fScope (Mine.top 15), globals := 0, closure := [], defaults := Value.none, kwdefaults := Value.none } }) ::
  (nat_lit 240, { cls := Value.none, data := Data.fields #[] }) ::
  (nat_lit 243, { cls := Value.none, data := Data.func { name := Str.ofString "imul", qualname := Str.ofString "imul", params := Mine.fArgs (Mine.top 16), body := Mine.fBody (Mine.top 16), scope := Mine.fScope (Mine.top 16), globals := 0, closure := [], defaults := Value.none, kwdefaults := Value.none } }) ::
  (nat_lit 247, { cls := Value.none, data := Data.fields #[] }) ::
  (nat_lit 250, { cls := Value.none, data := Data.func { name := Str.ofString "ior", qualname := Str.ofString "ior", params := Mine.fArgs (Mine.top 17), body := Mine.fBody (Mine.top 17), scope := Mine.fScope (Mine.top 17), globals := 0, closure := [], defaults := Value.none, kwdefaults := Value.none } }) ::
  (nat_lit 254, { cls := Value.none, data := Data.fields #[] }) ::
  (nat_lit 257, { cls := Value.none, data := Data.func { name := Str.ofString "irshift", qualname := Str.ofString "irshift", params := Mine.fArgs (Mine.top 18), body := Mine.fBody (Mine.top 18), scope := Mine.fScope (Mine.top 18), globals := 0, closure := [], defaults := Value.none, kwdefaults := Value.none } }) ::
  (nat_lit 261, { cls := Value.none, data := Data.fields #[] }) ::
  (nat_lit 264, { cls := Value.none, data := Data.func { name := Str.ofString "isub", qualname := Str.ofString "isub", params := Mine.fArgs (Mine.top 19), body := Mine.fBody (Mine.top 19), scope := Mine.fScope (Mine.top 19), globals := 0, closure := [], defaults := Value.none, kwdefaults := Value.none } }) ::
  (nat_lit 268, { cls := Value.none, data := Data.fields #[] }) ::
  (nat_lit 271, { cls := Value.none, data := Data.func { name := Str.ofString "_law_end", qualname := Str.ofString "_law_end", params := Mine.fArgs (Mine.top 21), body := Mine.fBody (Mine.top 21), scope := Mine.fScope (Mine.top 21), globals := 0, closure := [], defaults := Value.none, kwdefaults := Value.none } }) ::
  (nat_lit 275, { cls := Value.none, data := Data.fields #[] }) ::
  (nat_lit 276, { cls := Value.none, data := Data.func { name := Str.ofString "_law_left", qualname := Str.ofString "_law_left", params := Mine.fArgs (Mine.top 22), body := Mine.fBody (Mine.top 22), scope := Mine.fScope (Mine.top 22), globals := 0, closure := [], defaults := Value.none, kwdefaults := Value.none } }) ::
  (nat_lit 280, { cls := Value.none, data := Data.fields #[] }) ::
  (nat_lit 281, { cls := Value.none, data := Data.func { name := Str.ofString "_law_painted", qualname := Str.ofString "_law_painted", params := Mine.fArgs (Mine.top 23), body := Mine.fBody (Mine.top 23), scope := Mine.fScope (Mine.top 23), globals := 0, closure := [], defaults := Value.none, kwdefaults := Value.none } }) ::
  (nat_lit 285, { cls := Value.none, data := Data.fields #[] }) ::
  (nat_lit 288, { cls := Value.none, data := Data.func { name := Str.ofString "_law_ways", qualname := Str.ofString "_law_ways", params := Mine.fArgs (Mine.top 24), body := Mine.fBody (Mine.top 24), scope := Mine.fScope (Mine.top 24), globals := 0, closure := [], defaults := Value.none, kwdefaults := Value.none } }) ::
  (nat_lit 292, { cls := Value.none, data := Data.fields #[] }) ::
  (nat_lit 293, { cls := Value.none, data := Data.func { name := Str.ofString "law", qualname := Str.ofString "law", params := Mine.fArgs (Mine.top 25), body := Mine.fBody (Mine.top 25), scope := Mine.fScope (Mine.top 25), globals := 0, closure := [], defaults := Value.none, kwdefaults := Value.none } }) ::
  []
noncomputable def hd.pre_3 : Params → Obj := fun P => { cls := Value.type "dict", data := Data.dict #[{ hash := PyData.keyHash P (Str.ofString "__name__"), key := Value.str (Str.ofString "__name__") 165, val := Value.str (Str.ofString "__main__") 164 }, { hash := PyData.keyHash P (Str.ofString "__doc__"), key := Value.str (Str.ofString "__doc__") 166, val := Value.none }, { hash := PyData.keyHash P (Str.ofString "__package__"), key := Value.str (Str.ofString "__package__") 167, val := Value.none }, { hash := PyData.keyHash P (Str.ofString "__loader__"), key := Value.str (Str.ofString "__loader__") 168, val := Value.builtin "__main__.__loader__#opaque" }, { hash := PyData.keyHash P (Str.ofString "__spec__"), key := Value.str (Str.ofString "__spec__") 169, val := Value.none }, { hash := PyData.keyHash P (Str.ofString "__annotations__"), key := Value.str (Str.ofString "__annotations__") 170, val := Value.ref 6 }, { hash := PyData.keyHash P (Str.ofString "__builtins__"), key := Value.str (Str.ofString "__builtins__") 171, val := Value.ref 4 }, { hash := PyData.keyHash P (Str.ofString "__file__"), key := Value.str (Str.ofString "__file__") 173, val := Value.str (Str.ofString "/claim/cut.py") 172 }, { hash := PyData.keyHash P (Str.ofString "__cached__"), key := Value.str (Str.ofString "__cached__") 174, val := Value.none }] 9 }
noncomputable def hd.pre_12 : Params → Obj := fun _ => { cls := Value.none, data := Data.fields #[] }
noncomputable def hd.cut7_3 : Params → Obj := fun P => { cls := Value.type "dict", data := Data.dict #[{ hash := PyData.keyHash P (Str.ofString "__name__"), key := Value.str (Str.ofString "__name__") 165, val := Value.str (Str.ofString "cpy313.email.header") 205 }, { hash := PyData.keyHash P (Str.ofString "__doc__"), key := Value.str (Str.ofString "__doc__") 166, val := Value.none }, { hash := PyData.keyHash P (Str.ofString "__package__"), key := Value.str (Str.ofString "__package__") 167, val := Value.none }, { hash := PyData.keyHash P (Str.ofString "__loader__"), key := Value.str (Str.ofString "__loader__") 168, val := Value.builtin "__main__.__loader__#opaque" }, { hash := PyData.keyHash P (Str.ofString "__spec__"), key := Value.str (Str.ofString "__spec__") 169, val := Value.none }, { hash := PyData.keyHash P (Str.ofString "__annotations__"), key := Value.str (Str.ofString "__annotations__") 170, val := Value.ref 6 }, { hash := PyData.keyHash P (Str.ofString "__builtins__"), key := Value.str (Str.ofString "__builtins__") 171, val := Value.ref 4 }, { hash := PyData.keyHash P (Str.ofString "__file__"), key := Value.str (Str.ofString "__file__") 173, val := Value.str (Str.ofString "/claim/cut.py") 172 }, { hash := PyData.keyHash P (Str.ofString "__cached__"), key := Value.str (Str.ofString "__cached__") 174, val := Value.none }, { hash := PyData.keyHash P (Str.ofString "_wall"), key := Value.str (Str.ofString "_wall") 193, val := Value.ref 21 }, { hash := PyData.keyHash P (Str.ofString "_post_parse_validation"), key := Value.str (Str.ofString "_post_parse_validation") 204, val := Value.ref 28 }, { hash := PyData.keyHash P (Str.ofString "NL"), key := Value.str (Str.ofString "NL") 208, val := Value.str (Str.ofString "\n") 207 }, { hash := PyData.keyHash P (Str.ofString "EMPTYSTRING"), key := Value.str (Str.ofString "EMPTYSTRING") 210, val := Value.str (Str.ofString "") 209 }, { hash := PyData.keyHash P (Str.ofString "_ValueFormatter"), key := Value.str (Str.ofString "_ValueFormatter") 318, val := Value.ref 101 }] 14 }
noncomputable def hd.cut7_12 : Params → Obj := fun _ => { cls := Value.none, data := Data.fields #[Value.int 1 0, Value.int 0 0, Value.ref 20, Value.int 5 0, Value.int 0 0, Value.ref 27, Value.int 15 0, Value.int 0 0, Value.ref 34] }
noncomputable def hd.cut8_3 : Params → Obj := fun P => { cls := Value.type "dict", data := Data.dict #[{ hash := PyData.keyHash P (Str.ofString "__name__"), key := Value.str (Str.ofString "__name__") 165, val := Value.str (Str.ofString "cpy313.email.header") 205 }, { hash := PyData.keyHash P (Str.ofString "__doc__"), key := Value.str (Str.ofString "__doc__") 166, val := Value.none }, { hash := PyData.keyHash P (Str.ofString "__package__"), key := Value.str (Str.ofString "__package__") 167, val := Value.none }, { hash := PyData.keyHash P (Str.ofString "__loader__"), key := Value.str (Str.ofString "__loader__") 168, val := Value.builtin "__main__.__loader__#opaque" }, { hash := PyData.keyHash P (Str.ofString "__spec__"), key := Value.str (Str.ofString "__spec__") 169, val := Value.none }, { hash := PyData.keyHash P (Str.ofString "__annotations__"), key := Value.str (Str.ofString "__annotations__") 170, val := Value.ref 6 }, { hash := PyData.keyHash P (Str.ofString "__builtins__"), key := Value.str (Str.ofString "__builtins__") 171, val := Value.ref 4 }, { hash := PyData.keyHash P (Str.ofString "__file__"), key := Value.str (Str.ofString "__file__") 173, val := Value.str (Str.ofString "/claim/cut.py") 172 }, { hash := PyData.keyHash P (Str.ofString "__cached__"), key := Value.str (Str.ofString "__cached__") 174, val := Value.none }, { hash := PyData.keyHash P (Str.ofString "_wall"), key := Value.str (Str.ofString "_wall") 193, val := Value.ref 21 }, { hash := PyData.keyHash P (Str.ofString "_post_parse_validation"), key := Value.str (Str.ofString "_post_parse_validation") 204, val := Value.ref 28 }, { hash := PyData.keyHash P (Str.ofString "NL"), key := Value.str (Str.ofString "NL") 208, val := Value.str (Str.ofString "\n") 207 }, { hash := PyData.keyHash P (Str.ofString "EMPTYSTRING"), key := Value.str (Str.ofString "EMPTYSTRING") 210, val := Value.str (Str.ofString "") 209 }, { hash := PyData.keyHash P (Str.ofString "_ValueFormatter"), key := Value.str (Str.ofString "_ValueFormatter") 318, val := Value.ref 101 }, { hash := PyData.keyHash P (Str.ofString "_Accumulator"), key := Value.str (Str.ofString "_Accumulator") 414, val := Value.ref 185 }] 15 }
noncomputable def hd.cut8_12 : Params → Obj := fun _ => { cls := Value.none, data := Data.fields #[Value.int 1 0, Value.int 0 0, Value.ref 20, Value.int 5 0, Value.int 0 0, Value.ref 27, Value.int 15 0, Value.int 0 0, Value.ref 34, Value.int 81 0, Value.int 0 0, Value.ref 112] }
noncomputable def hd.fin_12 : Params → Obj := fun _ => { cls := Value.none, data := Data.fields #[Value.int 1 0, Value.int 0 0, Value.ref 20, Value.int 5 0, Value.int 0 0, Value.ref 27, Value.int 15 0, Value.int 0 0, Value.ref 34, Value.int 81 0, Value.int 0 0, Value.ref 112, Value.int 118 0, Value.int 0 0, Value.ref 195, Value.int 120 0, Value.int 0 0, Value.ref 202, Value.int 122 0, Value.int 0 0, Value.ref 209, Value.int 127 0, Value.int 0 0, Value.ref 216, Value.int 133 0, Value.int 0 0, Value.ref 223, Value.int 136 0, Value.int 0 0, Value.ref 230, Value.int 139 0, Value.int 0 0, Value.ref 237, Value.int 142 0, Value.int 0 0, Value.ref 244, Value.int 145 0, Value.int 0 0, Value.ref 251, Value.int 148 0, Value.int 0 0, Value.ref 258, Value.int 151 0, Value.int 0 0, Value.ref 265, Value.int 155 0, Value.int 0 0, Value.ref 272, Value.int 160 0, Value.int 0 0, Value.ref 277, Value.int 165 0, Value.int 0 0, Value.ref 282, Value.int 180 0, Value.int 0 0, Value.ref 289, Value.int 185 0, Value.int 0 0, Value.ref 294] }
noncomputable def lay : Nat → Nat → Frag → Frag → List Obj
  | 0, _, _, _ => []
  | _ + 1, _, [], [] => []
  | n + 1, i, [], (k, o) :: b => match Nat.beq k i with
    | true => o :: lay n (i + 1) [] b
    | false => []
  | n + 1, i, (k, o) :: a, [] => match Nat.beq k i with
    | true => o :: lay n (i + 1) a []
    | false => []
  | n + 1, i, (k, o) :: a, (k', o') :: b => match Nat.beq k i with
    | true => o :: lay n (i + 1) a ((k', o') :: b)
    | false => match Nat.beq k' i with
      | true => o' :: lay n (i + 1) ((k, o) :: a) b
      | false => []
noncomputable def with3 (o : Obj) : Frag → Frag
  | x :: _ :: r => x :: (3, o) :: r
  | l => l
noncomputable def growT : List Obj → BT → Nat → BT
  | [], T, _ => T
  | o :: r, T, n => growT r (T.ins n o) (n + 1)
noncomputable def treeAt (n : Nat) (o3 o12 : Params → Obj) (P : Params) : BT := growT (lay n 0 (with3 (o3 P) (hd.heap_39 P)) (hd.rest (o12 P) P)) .nil 0
noncomputable def treeEnd (P : Params) : BT := growT (lay 296 0 (hd.heap_39 P) (hd.rest (hd.fin_12 P) P)) .nil 0
noncomputable abbrev theR : OpenRow := PySem.Challenge.rw_xp0030_01.row
noncomputable def sPre (P : Params) (os : OsState) : SharedT := ⟨treeAt 15 hd.pre_3 hd.pre_12 P, 15, {}, #[], {}, 187, os⟩
noncomputable def s7 (P : Params) (os : OsState) : SharedT := ⟨treeAt 106 hd.cut7_3 hd.cut7_12 P, 106, {}, #[], {}, 319, os⟩
noncomputable def s8 (P : Params) (os : OsState) : SharedT := ⟨treeAt 190 hd.cut8_3 hd.cut8_12 P, 190, {}, #[], {}, 415, os⟩
noncomputable def hEnd (P : Params) : Heap := absHeap (treeEnd P) 296 {}
noncomputable def sEnd (P : Params) (os : OsState) : SharedT := ⟨treeEnd P, 296, {}, #[], {}, 548, os⟩
noncomputable abbrev bodyB : List Stmt := behindTheImports theR.prog
noncomputable def envB : Env := { scope := theR.prog.main.scope, locals := mainNs, globals := mainNs, cells := [], code := .ref 13, frame := some 14 }
noncomputable abbrev cB : Code := .body bodyB envB
noncomputable def posO : Pos := { line := 0, col := 0, endLine := 0, endCol := 0 }
noncomputable def pos7 : Pos := { line := 15, col := 0, endLine := 80, endCol := 47 }
noncomputable def pos8 : Pos := { line := 81, col := 0, endLine := 116, endCol := 32 }
noncomputable def posE : Pos := { line := 185, col := 0, endLine := 197, endCol := 85 }
noncomputable abbrev annB : Option Value := some (.ref 6)
theorem run_pre (w : World) (os : OsState) : topGo treeTable theR.prog w 11 annB 12 ⟨boot_heap w.params, Array.mk [], boot_drawn, boot_toks, os⟩ (topStub theR.prog) = some ((sPre w.params os).abs, ⟨denote treeTable cB, cB, posO, [topFrame posO]⟩) := by kernel_rfl
theorem run_block (w : World) (os : OsState) : segRun treeTable theR.prog w 11 annB 1 1 (sPre w.params os).abs (blockOf bodyB envB cB posO [topFrame posO]) = some (.next, (sPre w.params os).abs, cB, posO) := by kernel_rfl
theorem run_7 (w : World) (os : OsState) : segRunT treeTable theR.prog w 11 annB 1 590 (sPre w.params os) (piecesOf (bodyB.take 7) envB cB posO [topFrame posO]) = some (.next, s7 w.params os, cB, pos7) := by kernel_rfl
theorem run_8 (w : World) (os : OsState) : segRunT treeTable theR.prog w 11 annB 1 505 (s7 w.params os) (piecesOf ((bodyB.drop 7).take 1) envB cB pos7 [topFrame posO]) = some (.next, s8 w.params os, cB, pos8) := by kernel_rfl
theorem run_end (w : World) (os : OsState) : segRunT treeTable theR.prog w 11 annB 1 494 (s8 w.params os) (piecesOf ((bodyB.drop 7).drop 1) envB cB pos8 [topFrame posO]) = some (.next, sEnd w.params os, cB, posE) := by kernel_rfl
theorem run_fin (w : World) (os : OsState) : topRun treeTable theR.prog w 11 annB 2 (sEnd w.params os).abs ⟨doneF .next, cB, posE, [topFrame posO]⟩ = some (sEnd w.params os).abs := by kernel_rfl
theorem run_chain {tb : String → Option Builtin} {p : Program} {w : World} {n₀ : Nat} {ann : Option Value} {env : Env} {q : Pos} {k0 kb k1 k2 k3 k4 : Nat} {S0 r : Shared} {Sa S1 S2 S3 : SharedT} {body l1 l2 l3 : List Stmt} {c : Code} {x0 x1 x2 x3 : Pos} {t0 : Thread}
    (hb : body = l1 ++ (l2 ++ (l3 ++ []))) (h0 : topGo tb p w n₀ ann k0 S0 t0 = some (Sa.abs, ⟨denote tb (.body body env), c, x0, [topFrame q]⟩))
    (hB : segRun tb p w n₀ ann 1 kb Sa.abs (blockOf body env c x0 [topFrame q]) = some (.next, Sa.abs, c, x0))
    (h1 : segRunT tb p w n₀ ann 1 k1 Sa (piecesOf l1 env c x0 [topFrame q]) = some (.next, S1, c, x1))
    (h2 : segRunT tb p w n₀ ann 1 k2 S1 (piecesOf l2 env c x1 [topFrame q]) = some (.next, S2, c, x2))
    (h3 : segRunT tb p w n₀ ann 1 k3 S2 (piecesOf l3 env c x2 [topFrame q]) = some (.next, S3, c, x3))
    (h4 : topRun tb p w n₀ ann k4 S3.abs ⟨doneF .next, c, x3, [topFrame q]⟩ = some r) :
    topRun tb p w n₀ ann (k0 + (kb + (k1 + (k2 + (k3 + k4))))) S0 t0 = some r := by
  refine go_top h0 (piece_block hB ?_)
  have k := piece_app (segRun_of h1) (piece_app (segRun_of h2) (piece_app (segRun_of h3) (piece_nil h4)))
  rw [← hb] at k
  exact k
theorem body_parts : bodyB = bodyB.take 7 ++ ((bodyB.drop 7).take 1 ++ ((bodyB.drop 7).drop 1 ++ [])) := by
  generalize bodyB = l
  rw [List.append_nil, List.take_append_drop, List.take_append_drop]
theorem run_all (w : World) (os : OsState) : topRun treeTable theR.prog w 11 annB (12 + (1 + (590 + (505 + (494 + 2))))) ⟨boot_heap w.params, Array.mk [], boot_drawn, boot_toks, os⟩ (topStub theR.prog) = some (sEnd w.params os).abs :=
  run_chain body_parts (run_pre w os) (run_block w os) (run_7 w os) (run_8 w os) (run_end w os) (run_fin w os)
end Mine
end

section
open PySem PySem.W PyProof.Rows
set_option Elab.async false
set_option maxRecDepth 100000
set_option maxHeartbeats 8000000
namespace Mine
noncomputable def named (st : Stmt) : Bool := match st with | .Assign [.Name x _] _ _ => x == ("__name__" : Str) | _ => false
noncomputable def view : Program := { PySem.Challenge.pw_xp0030_01 with main := { PySem.Challenge.pw_xp0030_01.main with body := PySem.Challenge.pw_xp0030_01.main.body.filter fun st => !named st } }
noncomputable def hook : Hook := kHook Mine.frag2 [2, 3, 15, 17, 18, 20, 21, 22, 24, 25, 27, 28, 36, 38, 39, 41, 42, 43, 45, 46, 48, 49, 50, 52, 53, 55, 56, 57, 59, 60, 62, 63, 64, 66, 67, 69, 70, 71, 73, 74, 76, 77, 78, 80, 81, 83, 84, 85, 87, 88, 90, 91, 92, 94, 95, 97, 98, 99, 100, 101, 102, 103, 106, 109, 114, 115, 116, 118, 119, 121, 122, 123, 125, 126, 128, 129, 130, 131, 133, 134, 136, 137, 138, 139, 141, 142, 144, 145, 146, 148, 149, 151, 152, 153, 155, 156, 158, 159, 160, 161, 163, 164, 166, 167, 168, 170, 171, 173, 174, 175, 176, 178, 179, 181, 182, 183, 184, 185, 186, 187, 190, 192, 193, 195, 196, 197, 199, 200, 202, 203, 204, 206, 207, 209, 210, 211, 213, 214, 216, 217, 218, 220, 221, 223, 224, 225, 227, 228, 230, 231, 232, 234, 235, 237, 238, 239, 241, 242, 244, 245, 246, 248, 249, 251, 252, 253, 255, 256, 258, 259, 260, 262, 263, 265, 266, 267, 269, 270, 272, 273, 274, 277, 278, 279, 282, 283, 284, 286, 287, 289, 290, 291, 294, 295, 147, 154] (fun _ => by kernel_rfl)
noncomputable abbrev theL : List Str := [Str.ofString "_Accumulator"]
noncomputable abbrev theX : Shared → Bool := fun s => xlAt Mine.view [] s && recOk (RowW.records (OpenRow.toRowW theR)) s
theorem abs_end (P : Params) (os : OsState) : (sEnd P os).abs = ⟨hEnd P, #[], {}, 548, os⟩ := by kernel_rfl
theorem open_is : opening theR.prog = plainProg theR.prog.main.scope.names := by kernel_rfl
theorem fence_is (s : Shared) : fenceModules? theR.prog s = some s := by kernel_rfl
theorem size_is (w : World) : ((boot_heap w.params).isNs mainGlobals && (Array.mk [] : Array GenState).size == 0, (boot_heap w.params).objs.size, (boot_heap w.params).nsMap mainGlobals "__annotations__") = (true, 11, annB) := by kernel_rfl
theorem look_a (w : World) (os : OsState) : (staticsOk (importedModules theR.prog.main.body) (boot_heap w.params) (hEnd w.params) && namesBound theR.prog (hEnd w.params) && gensDone ⟨hEnd w.params, #[], {}, 548, os⟩ && laidKept (boot_heap w.params) (hEnd w.params)) = true := by kernel_rfl
theorem look_b (w : World) (os : OsState) : openSeen view theL (importedModules theR.prog.main.body) theX true ⟨hEnd w.params, #[], {}, 548, os⟩ = openGood view theL := by kernel_rfl
theorem look_c (w : World) (os : OsState) : Hook.obs hook ⟨hEnd w.params, #[], {}, 548, os⟩ = Hook.val hook w := by kernel_rfl
theorem three {α β γ : Type} {a a' : α} {b b' : β} {c c' : γ} (h1 : a = a') (h2 : b = b') (h3 : c = c') : (a, b, c) = (a', b', c') := by subst h1 h2 h3; rfl
theorem top_left : LeftO theR.prog view theL theX (Hook.obs hook) (Hook.val hook) 3298 :=
  LeftO.of_pieces (H₀ := boot_heap) (H₁ := hEnd) (gs₀ := Array.mk []) (gs₁ := #[]) (d₀ := boot_drawn) (d₁ := {}) (k₀ := boot_toks) (k₁ := 548) (m₀ := 11) (ann := annB) (M := 12 + (1 + (590 + (505 + (494 + 2)))))
    (boot_open open_is (by rfl) fence_is) size_is (fun w os => (run_all w os).trans (congrArg some (abs_end w.params os))) (by rfl) (fun w => funext fun os => three (look_a w os) (look_b w os) (look_c w os))
end Mine
theorem PySem.Challenge.cw_xp0030_01_holds : PySem.Challenge.rw_xp0030_01.Holds := by
  w_on
  refine ⟨by kernel_rfl, ?_⟩
  refine holds_open (q := Mine.view) (loose := [Str.ofString "_Accumulator"]) (Xt := fun s => xlAt Mine.view [] s && recOk (RowW.records (OpenRow.toRowW PySem.Challenge.rw_xp0030_01.row)) s) (XP := XL Mine.view []) (Yf := Hook.obs Mine.hook) (Ya := Hook.val Mine.hook) (YP := Hook.says Mine.hook) (N := 3298) ?hl (Hook.of Mine.hook) (Hook.keeps Mine.hook) (fun s e => xl_of s (Bool.and_eq_true_iff.mp e).1) XL.keeps (by rfl) (by rfl) (by rfl) (fun s e => recFacts_of (Bool.and_eq_true_iff.mp e).2) (by kernel_rfl) (by kernel_rfl) (by decide +kernel) ⟨rfl, rfl, rfl, rfl, rfl, by decide +kernel⟩ ?hw ?hc
  case hl => exact Mine.top_left
  case hw => exact ⟨[.list []], by decide +kernel, by decide +kernel⟩
  case hc =>
    intro w s₀ s₁ mg mb G Y fa o pm cd doc dV kV ho hd hcd hD hmg hg args vals as hpre hlay hrd hwl hlo
    have KX : (Mine.frag2 w.params).In s₁.heap := kIn_of Y
    have T := PySem.W.Ground.T G
    obtain rfl := Mine.law_at KX T hmg
    clear ho hd hcd hD hmg Y
    wrow_args hpre hlay hrd hwl hlo
    refine Mine.law_end_all KX T hg (by assumption) (by assumption) fun s' hold hos hgn => ?_
    refine ⟨.inl ⟨_, .bool true, [], rfl, fun cls => ?_, .bool true, ?_, fun _ => ⟨List.nodup_nil, fun _ h => nomatch h⟩⟩, hold, hos, hgn⟩
    · first | rfl | exact allW_false_nil | wrow_none_raised
    · wrow_post
end

