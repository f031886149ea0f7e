import PyProof.Rows.All
import Wide.All
import OpenK.AllK
import Wide.FinOn
import Lean
import PySem.Challenge.RW_pe0134_01
set_option Elab.async false
-- part C1
section
open PySem PySem.W PyProof.Rows
set_option maxRecDepth 100000
set_option linter.unusedVariables false
namespace Mine

/-- plain data of the text -/
inductive D where
  | val (v : Value)
  | bool (b : Bool)
  | int (i : Int)
  | str (x : Str)
  | flt (u : UInt64)
  | tup (l : List D)
  | lst (l : List D)

-- v bears d in h, by objects that are none of N's
mutual
def Rep (N : Addr → Prop) (h : Heap) : D → Value → Prop
  | .val v, x => x = v
  | .bool b, x => x = .bool b
  | .int i, x => ∃ t, x = .int i t
  | .str y, x => ∃ t, x = .str y t
  | .flt u, x => ∃ t : Nat, x = .float u (t + 1)
  | .tup l, x => ∃ a vs, x = .ref a ∧ ¬ N a ∧ IsTup h a (List.toArray vs) ∧ Reps N h l vs
  | .lst l, x => ∃ a vs, x = .ref a ∧ ¬ N a ∧ h.IsList a (List.toArray vs) ∧ Reps N h l vs
def Reps (N : Addr → Prop) (h : Heap) : List D → List Value → Prop
  | [], vs => vs = []
  | d :: r, vs => ∃ v ws, vs = v :: ws ∧ Rep N h d v ∧ Reps N h r ws
end

abbrev Kp (h h' : Heap) : Prop := ∀ b o, h.get? b = some o → h'.get? b = some o
theorem Kp.refl (h : Heap) : Kp h h := fun _ _ e => e
theorem Kp.trans {a b c : Heap} (x : Kp a b) (y : Kp b c) : Kp a c := fun i o e => y i o (x i o e)

/-- every seq object is kept, but N's -/
abbrev KpS (N : Addr → Prop) (h h' : Heap) : Prop := ∀ b o, ¬ N b → (∃ xs n, o.data = .seq xs n) → h.get? b = some o → h'.get? b = some o
theorem Kp.s {N : Addr → Prop} {h h' : Heap} (x : Kp h h') : KpS N h h' := fun b o _ _ e => x b o e

mutual
theorem Rep.mono {N N' : Addr → Prop} {h h' : Heap} (k : KpS N h h') (hN : ∀ b o, ¬ N b → h.get? b = some o → ¬ N' b) : ∀ (d : D) (v : Value), Rep N h d v → Rep N' h' d v
  | .val _, _, x => x
  | .bool _, _, x => x
  | .int _, _, x => x
  | .str _, _, x => x
  | .flt _, _, x => x
  | .tup l, v, x => by
    rw [Rep] at x ⊢
    obtain ⟨a, vs, e, na, ⟨o, ho, hc, n, hd⟩, r⟩ := x
    exact ⟨a, vs, e, hN a o na ho, ⟨o, k a o na ⟨_, _, hd⟩ ho, hc, n, hd⟩, Reps.mono k hN l vs r⟩
  | .lst l, v, x => by
    rw [Rep] at x ⊢
    obtain ⟨a, vs, e, na, ⟨o, ho, hc, n, hd⟩, r⟩ := x
    exact ⟨a, vs, e, hN a o na ho, ⟨o, k a o na ⟨_, _, hd⟩ ho, hc, n, hd⟩, Reps.mono k hN l vs r⟩
theorem Reps.mono {N N' : Addr → Prop} {h h' : Heap} (k : KpS N h h') (hN : ∀ b o, ¬ N b → h.get? b = some o → ¬ N' b) : ∀ (l : List D) (vs : List Value), Reps N h l vs → Reps N' h' l vs
  | [], vs, x => by rw [Reps] at x ⊢; exact x
  | d :: l, vs, x => by
    rw [Reps] at x ⊢
    obtain ⟨v, ws, e, a, b⟩ := x
    exact ⟨v, ws, e, Rep.mono k hN d v a, Reps.mono k hN l ws b⟩
end
theorem Rep.kps {N : Addr → Prop} {h h' : Heap} {d : D} {v : Value} (x : Rep N h d v) (k : KpS N h h') : Rep N h' d v := Rep.mono k (fun _ _ n _ => n) d v x
theorem Reps.kps {N : Addr → Prop} {h h' : Heap} {l : List D} {vs : List Value} (x : Reps N h l vs) (k : KpS N h h') : Reps N h' l vs := Reps.mono k (fun _ _ n _ => n) l vs x
theorem Rep.kp {N : Addr → Prop} {h h' : Heap} {d : D} {v : Value} (x : Rep N h d v) (k : Kp h h') : Rep N h' d v := x.kps k.s
theorem Reps.kp {N : Addr → Prop} {h h' : Heap} {l : List D} {vs : List Value} (x : Reps N h l vs) (k : Kp h h') : Reps N h' l vs := x.kps k.s

theorem Reps.length {N : Addr → Prop} {h : Heap} : ∀ {l : List D} {vs : List Value}, Reps N h l vs → vs.length = l.length
  | [], _, x => by rw [Reps] at x; subst x; rfl
  | _ :: l, _, x => by rw [Reps] at x; obtain ⟨v, ws, rfl, _, b⟩ := x; simp [Reps.length b]
theorem Reps.get {N : Addr → Prop} {h : Heap} : ∀ {l : List D} {vs : List Value} {i : Nat} {d : D}, Reps N h l vs → l[i]? = some d → ∃ v, vs[i]? = some v ∧ Rep N h d v
  | [], _, _, _, _, e => by simp at e
  | d :: l, _, 0, _, x, e => by rw [Reps] at x; obtain ⟨v, ws, rfl, a, _⟩ := x; simp at e; subst e; exact ⟨v, rfl, a⟩
  | d :: l, _, i + 1, _, x, e => by rw [Reps] at x; obtain ⟨v, ws, rfl, _, b⟩ := x; simp at e; simpa using Reps.get b e
theorem Reps.append {N : Addr → Prop} {h : Heap} : ∀ {l m : List D} {vs ws : List Value}, Reps N h l vs → Reps N h m ws → Reps N h (l ++ m) (vs ++ ws)
  | [], _, _, _, x, y => by rw [Reps] at x; subst x; exact y
  | d :: l, _, _, _, x, y => by rw [Reps] at x; obtain ⟨v, us, rfl, a, b⟩ := x; show Reps N h (d :: (l ++ _)) _; rw [Reps]; exact ⟨v, us ++ _, rfl, a, Reps.append b y⟩
theorem Reps.one {N : Addr → Prop} {h : Heap} {d : D} {v : Value} (x : Rep N h d v) : Reps N h [d] [v] := by rw [Reps]; exact ⟨v, [], rfl, x, by rw [Reps]⟩
theorem Reps.nil {N : Addr → Prop} {h : Heap} : Reps N h [] [] := by rw [Reps]
theorem Reps.cons {N : Addr → Prop} {h : Heap} {d : D} {v : Value} {l : List D} {vs : List Value} (x : Rep N h d v) (y : Reps N h l vs) : Reps N h (d :: l) (v :: vs) := by rw [Reps]; exact ⟨v, vs, rfl, x, y⟩
theorem Reps.cons_inv {N : Addr → Prop} {h : Heap} {d : D} {l : List D} {vs : List Value} (x : Reps N h (d :: l) vs) : ∃ v ws, vs = v :: ws ∧ Rep N h d v ∧ Reps N h l ws := by rw [Reps] at x; exact x
theorem Reps.nil_inv {N : Addr → Prop} {h : Heap} {vs : List Value} (x : Reps N h [] vs) : vs = [] := by rw [Reps] at x; exact x
theorem Reps.take {N : Addr → Prop} {h : Heap} : ∀ {l : List D} {vs : List Value} (n : Nat), Reps N h l vs → Reps N h (l.take n) (vs.take n)
  | _, _, 0, _ => by simp; exact Reps.nil
  | [], _, n + 1, x => by have := x.nil_inv; subst this; simp; exact Reps.nil
  | d :: l, _, n + 1, x => by obtain ⟨v, ws, rfl, a, b⟩ := x.cons_inv; simp; exact Reps.cons a (Reps.take n b)
theorem Reps.snoc_inv {N : Addr → Prop} {h : Heap} {l : List D} {d : D} {vs : List Value} (x : Reps N h (l ++ [d]) vs) : ∃ ws v, vs = ws ++ [v] ∧ Reps N h l ws ∧ Rep N h d v := by
  induction l generalizing vs with
  | nil => obtain ⟨v, ws, rfl, a, b⟩ := Reps.cons_inv x; have := b.nil_inv; subst this; exact ⟨[], v, rfl, Reps.nil, a⟩
  | cons e l ih => obtain ⟨v, ws, rfl, a, b⟩ := Reps.cons_inv x; obtain ⟨us, u, rfl, c, d⟩ := ih b; exact ⟨v :: us, u, rfl, Reps.cons a c, d⟩

theorem Rep.tup_of {N : Addr → Prop} {h : Heap} {a : Addr} {vs : List Value} {l : List D} (na : ¬ N a) (t : IsTup h a vs.toArray) (r : Reps N h l vs) : Rep N h (.tup l) (.ref a) := by rw [Rep]; exact ⟨a, vs, rfl, na, t, r⟩
theorem Rep.lst_of {N : Addr → Prop} {h : Heap} {a : Addr} {vs : List Value} {l : List D} (na : ¬ N a) (t : h.IsList a vs.toArray) (r : Reps N h l vs) : Rep N h (.lst l) (.ref a) := by rw [Rep]; exact ⟨a, vs, rfl, na, t, r⟩
theorem Rep.tup_inv {N : Addr → Prop} {h : Heap} {v : Value} {l : List D} (x : Rep N h (.tup l) v) : ∃ a vs, v = .ref a ∧ ¬ N a ∧ IsTup h a (List.toArray vs) ∧ Reps N h l vs := by rw [Rep] at x; exact x
theorem Rep.lst_inv {N : Addr → Prop} {h : Heap} {v : Value} {l : List D} (x : Rep N h (.lst l) v) : ∃ a vs, v = .ref a ∧ ¬ N a ∧ h.IsList a (List.toArray vs) ∧ Reps N h l vs := by rw [Rep] at x; exact x
theorem Rep.int_inv {N : Addr → Prop} {h : Heap} {v : Value} {i : Int} (x : Rep N h (.int i) v) : ∃ t, v = .int i t := by rw [Rep] at x; exact x
theorem Rep.str_inv {N : Addr → Prop} {h : Heap} {v : Value} {i : Str} (x : Rep N h (.str i) v) : ∃ t, v = .str i t := by rw [Rep] at x; exact x
theorem Rep.flt_inv {N : Addr → Prop} {h : Heap} {v : Value} {i : UInt64} (x : Rep N h (.flt i) v) : ∃ t : Nat, v = .float i (t + 1) := by rw [Rep] at x; exact x
theorem Rep.bool_inv {N : Addr → Prop} {h : Heap} {v : Value} {i : Bool} (x : Rep N h (.bool i) v) : v = .bool i := by rw [Rep] at x; exact x
theorem Rep.val_inv {N : Addr → Prop} {h : Heap} {v : Value} {i : Value} (x : Rep N h (.val i) v) : v = i := by rw [Rep] at x; exact x
theorem Rep.int {N : Addr → Prop} {h : Heap} (i : Int) (t : Tok) : Rep N h (.int i) (.int i t) := by rw [Rep]; exact ⟨t, rfl⟩
theorem Rep.str {N : Addr → Prop} {h : Heap} (i : Str) (t : Tok) : Rep N h (.str i) (.str i t) := by rw [Rep]; exact ⟨t, rfl⟩
theorem Rep.flt {N : Addr → Prop} {h : Heap} (i : UInt64) (t : Tok) (ht : 0 < t) : Rep N h (.flt i) (.float i t) := by rw [Rep]; exact ⟨t - 1, by rw [Nat.sub_add_cancel ht]⟩
theorem Rep.bool {N : Addr → Prop} {h : Heap} (i : Bool) : Rep N h (.bool i) (.bool i) := by rw [Rep]
theorem Rep.val {N : Addr → Prop} {h : Heap} (i : Value) : Rep N h (.val i) i := by rw [Rep]

/-- every object is kept, and the count of tokens does not fall -/
def Keeps (s s' : Shared) : Prop := ∃ (h' : Heap) (tk : Nat), s' = { s with heap := h', toks := s.toks + tk } ∧ ∀ b o, s.heap.get? b = some o → h'.get? b = some o
theorem krefl (s : Shared) : Keeps s s := ⟨s.heap, 0, rfl, fun _ _ e => e⟩
theorem ktrans {a b c : Shared} (x : Keeps a b) (y : Keeps b c) : Keeps a c := by
  obtain ⟨h, t, rfl, k⟩ := x
  obtain ⟨h', t', rfl, k'⟩ := y
  refine ⟨h', t + t', ?_, fun i o e => k' i o (k i o e)⟩
  show _ = { a with heap := h', toks := a.toks + (t + t') }
  rw [← Nat.add_assoc]
theorem kpOf {a b : Shared} (x : Keeps a b) : Kp a.heap b.heap := by
  obtain ⟨h, t, rfl, k⟩ := x
  exact k
theorem ktk {a b : Shared} (x : Keeps a b) : a.toks ≤ b.toks := by
  obtain ⟨h, t, rfl, k⟩ := x
  exact Nat.le_add_right _ _
theorem kof {s : Shared} {h' : Heap} {t : Nat} (k : Kp s.heap h') (ht : s.toks ≤ t) : Keeps s { s with heap := h', toks := t } := ⟨h', t - s.toks, by rw [Nat.add_sub_cancel' ht], k⟩
theorem ktok (s : Shared) (t : Nat) (ht : s.toks ≤ t := by omega) : Keeps s { s with toks := t } := kof (Kp.refl _) ht
theorem kpush (s : Shared) (o : Obj) : Keeps s { s with heap := s.heap.push o } := ⟨_, 0, rfl, fun _ _ e => Heap.get?_push_of_some o e⟩

/-- where a name of the frame lies -/
def VarAt (N : Addr → Prop) (env : Env) (h : Heap) (x : Str) (d : D) : Prop :=
  (env.kindOf x = some .local ∧ ∃ m v, h.Ns env.locals m ∧ m x = some v ∧ Rep N h d v) ∨
  ((env.kindOf x = some .cell ∨ (env.kindOf x = some .free ∧ (x == ("__classdict__" : Str)) = false)) ∧ ∃ a v, env.cells.lookup x = some a ∧ h.IsCell a (some v) ∧ Rep N h d v)
theorem VarAt.kp {N : Addr → Prop} {env : Env} {h h' : Heap} {x : Str} {d : D} (v : VarAt N env h x d) (k : Kp h h') : VarAt N env h' x d := by
  rcases v with ⟨a, m, v, n, e, r⟩ | ⟨a, c, v, e, i, r⟩
  · exact .inl ⟨a, m, v, n.keeps k, e, r.kp k⟩
  · exact .inr ⟨a, c, v, e, i.keeps k, r.kp k⟩

/-- N's addresses lie in the heap; tokens are counted from one on -/
def Old (N : Addr → Prop) (s : Shared) : Prop := (∀ a, N a → ∃ o, s.heap.get? a = some o) ∧ 0 < s.toks
theorem Old.kp {N : Addr → Prop} {s s' : Shared} (x : Old N s) (k : Keeps s s') : Old N s' := ⟨fun a n => let ⟨o, e⟩ := x.1 a n; ⟨o, kpOf k a o e⟩, Nat.lt_of_lt_of_le x.2 (ktk k)⟩
theorem Old.new {N : Addr → Prop} {s : Shared} (x : Old N s) : ¬ N s.heap.objs.size := fun n => by
  obtain ⟨o, e⟩ := x.1 _ n
  exact absurd (Heap.lt_size e) (Nat.lt_irrefl _)

structure View (g : Heap) (N : Addr → Prop) (env : Env) (ρ : List (Str × D)) (s : Shared) : Prop where
  base : Kp g s.heap
  old : Old N s
  fn : env.scope.kind = .function
  gl : env.globals = mainGlobals
  bu : env.builtins = builtinsNs
  cex : ∀ n c, env.cells.lookup n = some c → ∃ v, s.heap.IsCell c v
  vars : ∀ x d, ρ.lookup x = some d → VarAt N env s.heap x d
theorem View.keeps {g : Heap} {N : Addr → Prop} {env : Env} {ρ : List (Str × D)} {s s' : Shared} (v : View g N env ρ s) (k : Keeps s s') : View g N env ρ s' :=
  ⟨v.base.trans (kpOf k), v.old.kp k, v.fn, v.gl, v.bu, fun n c e => let ⟨u, hu⟩ := v.cex n c e; ⟨u, hu.keeps (kpOf k)⟩, fun x d e => (v.vars x d e).kp (kpOf k)⟩

section
variable (prog : Program) (w : World) (g : Heap)

/-- an expression gives a datum and keeps the heap -/
def Ev (A : Around) (env : Env) (ρ : List (Str × D)) (e : Expr) (d : D) : Prop :=
  ∀ N s, View g N env ρ s → ∀ E, wpAny (model prog w) A (eval e env) (fun v s' => Rep N s'.heap d v ∧ Keeps s s') E s
/-- a test -/
def Ts (A : Around) (env : Env) (ρ : List (Str × D)) (e : Expr) (b : Bool) : Prop :=
  ∀ N s, View g N env ρ s → ∀ E, wpAny (model prog w) A (isTrue e env (eval e env)) (fun v s' => v = b ∧ Keeps s s') E s
def Bop (A : Around) (op : Operator) (a b d : D) : Prop :=
  ∀ N s va vb, Kp g s.heap → Old N s → Rep N s.heap a va → Rep N s.heap b vb → ∀ E, wpAny (model prog w) A (binaryOp op va vb) (fun v s' => Rep N s'.heap d v ∧ Keeps s s') E s
def Cop (A : Around) (op : CmpOp) (a b : D) (r : Bool) : Prop :=
  ∀ N s va vb, Kp g s.heap → Old N s → Rep N s.heap a va → Rep N s.heap b vb → ∀ E, wpAny (model prog w) A (compareOp op va vb) (fun v s' => v = .bool r ∧ Keeps s s') E s
/-- a list of expressions -/
def Evs (A : Around) (env : Env) (ρ : List (Str × D)) (pos : Pos) (es : List Expr) (ds : List D) : Prop :=
  ∀ N s, View g N env ρ s → ∀ E, wpAny (model prog w) A (spliced (backTo pos (starEach es env))) (fun vs s' => Reps N s'.heap ds vs ∧ Keeps s s') E s
end

section
variable {prog : Program} {w : World} {g : Heap} {A : Around} {env : Env} {ρ : List (Str × D)}

theorem ev_name {x : Str} {p : Pos} {d : D} (h : ρ.lookup x = some d) (hd : (x == ("__debug__" : Str)) = false := by decide) : Ev prog w g A env ρ (.Name x p) d := by
  intro N s V E
  refine wpAny_Name ?_ hd
  rcases V.vars x d h with ⟨a, m, v, n, e, r⟩ | ⟨a, c, v, e, i, r⟩
  · exact wpAny_loadName_local V.fn a n e ⟨r, krefl _⟩
  · rcases a with a | ⟨a, a'⟩
    · exact wpAny_loadName_cell V.fn a e i ⟨r, krefl _⟩
    · exact wpAny_loadName_free V.fn a e i ⟨r, krefl _⟩ a'

theorem ev_int {i : Int} {k : Nat} {p : Pos} : Ev prog w g A env ρ (.Constant (.int i) k p) (.int i) := fun N s _ E => wpAny_Constant_int ⟨Rep.int _ _, ktok _ _⟩
theorem ev_str {i : Str} {k : Nat} {p : Pos} : Ev prog w g A env ρ (.Constant (.str i) k p) (.str i) := fun N s _ E => wpAny_Constant_str ⟨Rep.str _ _, ktok _ _⟩
theorem ev_bool {i : Bool} {k : Nat} {p : Pos} : Ev prog w g A env ρ (.Constant (.bool i) k p) (.bool i) := fun N s _ E => wpAny_Constant_bool ⟨Rep.bool _, krefl _⟩
theorem ev_none {k : Nat} {p : Pos} : Ev prog w g A env ρ (.Constant .none k p) (.val .none) := fun N s _ E => wpAny_Constant_none ⟨Rep.val _, krefl _⟩

theorem ev_bin {l r : Expr} {op : Operator} {p : Pos} {a b d : D} (hl : Ev prog w g A env ρ l a) (hr : Ev prog w g A env ρ r b) (ho : Bop prog w g A op a b d) :
    Ev prog w g A env ρ (.BinOp l op r p) d := by
  intro N s V E
  refine wpAny_BinOp (wpAny_mono (hl N s V E) (fun va s₁ h₁ => ?_) fun _ _ x => x)
  have V₁ := V.keeps h₁.2
  refine wpAny_mono (hr N s₁ V₁ E) (fun vb s₂ h₂ => ?_) fun _ _ x => x
  refine wpAny_mono (ho N s₂ va vb (V₁.keeps h₂.2).base (V₁.keeps h₂.2).old (h₁.1.kp (kpOf h₂.2)) h₂.1 E) (fun v s₃ h₃ => ?_) fun _ _ x => x
  exact ⟨h₃.1, ktrans h₁.2 (ktrans h₂.2 h₃.2)⟩

theorem ev_cmp {l r : Expr} {op : CmpOp} {p : Pos} {a b : D} {k : Bool} (hl : Ev prog w g A env ρ l a) (hr : Ev prog w g A env ρ r b) (ho : Cop prog w g A op a b k)
    (hm : behindInMarks op r = false := by with_unfolding_all rfl) : Ev prog w g A env ρ (.Compare l [op] [r] p) (.bool k) := by
  intro N s V E
  refine wpAny_Compare1 (wpAny_mono (hl N s V E) (fun va s₁ h₁ => ?_) fun _ _ x => x) hm
  have V₁ := V.keeps h₁.2
  refine wpAny_mono (hr N s₁ V₁ E) (fun vb s₂ h₂ => ?_) fun _ _ x => x
  refine wpAny_mono (ho N s₂ va vb (V₁.keeps h₂.2).base (V₁.keeps h₂.2).old (h₁.1.kp (kpOf h₂.2)) h₂.1 E) (fun v s₃ h₃ => ?_) fun _ _ x => x
  obtain ⟨rfl, k₃⟩ := h₃
  exact ⟨Rep.bool _, ktrans h₁.2 (ktrans h₂.2 k₃)⟩

theorem ts_cmp {l r : Expr} {op : CmpOp} {p : Pos} {a b : D} {k : Bool} (hl : Ev prog w g A env ρ l a) (hr : Ev prog w g A env ρ r b) (ho : Cop prog w g A op a b k)
    (hm : behindInMarks op r = false := by with_unfolding_all rfl) : Ts prog w g A env ρ (.Compare l [op] [r] p) k := by
  intro N s V E
  refine wpAny_isTrue_Compare1 (wpAny_mono (hl N s V E) (fun va s₁ h₁ => ?_) fun _ _ x => x) hm
  have V₁ := V.keeps h₁.2
  refine wpAny_mono (hr N s₁ V₁ E) (fun vb s₂ h₂ => ?_) fun _ _ x => x
  refine wpAny_mono (ho N s₂ va vb (V₁.keeps h₂.2).base (V₁.keeps h₂.2).old (h₁.1.kp (kpOf h₂.2)) h₂.1 E) (fun v s₃ h₃ => ?_) fun _ _ x => x
  obtain ⟨rfl, k₃⟩ := h₃
  exact wpAny_truthy_bool ⟨rfl, ktrans h₁.2 (ktrans h₂.2 k₃)⟩

/-- a test by a bool value -/
theorem ts_val {e : Expr} {b : Bool} (h : Ev prog w g A env ρ e (.bool b))
    (he : ∀ whole, isTrue e env whole = (do let v ← whole; standAt e.pos; holding [v] (truthy v)) := by intro _; rfl) : Ts prog w g A env ρ e b := by
  intro N s V E
  refine wpAny_isTrue_value (wpAny_mono (h N s V E) (fun v s₁ h₁ => ?_) fun _ _ x => x) (he _)
  have := h₁.1.bool_inv; subst this
  exact wpAny_truthy_bool ⟨rfl, h₁.2⟩

theorem ts_and2 {x y : Expr} {p : Pos} {a b : Bool} (hx : Ts prog w g A env ρ x a) (hy : a = true → Ts prog w g A env ρ y b) : Ts prog w g A env ρ (.BoolOp .And [x, y] p) (a && b) := by
  intro N s V E
  refine wpAny_isTrue_BoolOp (wpAny_allTrue_And_cons (wpAny_mono (hx N s V E) (fun v s₁ h₁ => ?_) fun _ _ x => x))
  obtain ⟨rfl, k₁⟩ := h₁
  cases v with
  | false => simp only [Bool.false_eq_true, if_false]; exact ⟨rfl, k₁⟩
  | true =>
    simp only [if_true]
    refine wpAny_allTrue_And_cons (wpAny_mono (hy rfl N s₁ (V.keeps k₁) E) (fun v s₂ h₂ => ?_) fun _ _ x => x)
    obtain ⟨rfl, k₂⟩ := h₂
    cases v with
    | false => simp only [Bool.false_eq_true, if_false]; exact ⟨rfl, ktrans k₁ k₂⟩
    | true => simp only [if_true]; exact wpAny_allTrue_And_nil ⟨rfl, ktrans k₁ k₂⟩

theorem ev_ifexp {t b o : Expr} {p : Pos} {k : Bool} {d : D} (ht : Ts prog w g A env ρ t k) (hb : k = true → Ev prog w g A env ρ b d) (ho : k = false → Ev prog w g A env ρ o d) : Ev prog w g A env ρ (.IfExp t b o p) d := by
  intro N s V E
  refine wpAny_IfExp (wpAny_mono (ht N s V E) (fun v s₁ h₁ => ?_) fun _ _ x => x)
  obtain ⟨rfl, k₁⟩ := h₁
  cases v with
  | false => simp only [Bool.false_eq_true, if_false]; exact wpAny_mono (ho rfl N s₁ (V.keeps k₁) E) (fun _ _ h => ⟨h.1, ktrans k₁ h.2⟩) fun _ _ x => x
  | true => simp only [if_true]; exact wpAny_mono (hb rfl N s₁ (V.keeps k₁) E) (fun _ _ h => ⟨h.1, ktrans k₁ h.2⟩) fun _ _ x => x

theorem evs_nil {pos : Pos} : Evs prog w g A env ρ pos [] [] := fun N s _ E => wpAny_items_nil ⟨Reps.nil, krefl _⟩
theorem evs_cons {pos : Pos} {e : Expr} {es : List Expr} {d : D} {ds : List D} (h : Ev prog w g A env ρ e d) (hs : Evs prog w g A env ρ pos es ds)
    (he : ∀ env, starEach (e :: es) env = (false, eval e env) :: starEach es env := by intro _; rfl) : Evs prog w g A env ρ pos (e :: es) (d :: ds) := by
  intro N s V E
  refine wpAny_items_cons (wpAny_mono (h N s V E) (fun v s₁ h₁ => ?_) fun _ _ x => x) (he env)
  refine wpAny_mono (hs N s₁ (V.keeps h₁.2) E) (fun vs s₂ h₂ => ?_) fun _ _ x => x
  exact ⟨Reps.cons (h₁.1.kp (kpOf h₂.2)) h₂.1, ktrans h₁.2 h₂.2⟩

theorem ev_tuple {es : List Expr} {k : Nat} {pos : Pos} {ds : List D} (h : Evs prog w g A env ρ pos es ds) (hz : ds.length ≤ sizeLine := by exact Nat.le_of_ble_eq_true rfl) : Ev prog w g A env ρ (.Tuple es k pos) (.tup ds) := by
  intro N s V E
  refine wpAny_Tuple (wpAny_mono (h N s V E) (fun vs s₁ h₁ => ⟨by rw [h₁.1.length]; exact hz, ?_, ?_⟩) fun _ _ x => x)
  · exact Rep.tup_of (V.keeps h₁.2).old.new (IsTup.new _ _) (h₁.1.kp fun _ _ e => Heap.get?_push_of_some _ e)
  · exact ktrans h₁.2 (kpush _ _)
theorem IsList.new (h : Heap) (items : Array Value) : (h.push { cls := .type "list", data := .seq items }).IsList h.objs.size items := ⟨_, Heap.get?_push_size _ rfl, rfl, _, rfl⟩
theorem ev_list {es : List Expr} {pos : Pos} {ds : List D} (h : Evs prog w g A env ρ pos es ds) (hz : ds.length ≤ sizeLine := by exact Nat.le_of_ble_eq_true rfl) : Ev prog w g A env ρ (.List es pos) (.lst ds) := by
  intro N s V E
  refine wpAny_List (wpAny_mono (h N s V E) (fun vs s₁ h₁ => ⟨by rw [h₁.1.length]; exact hz, ?_, ?_⟩) fun _ _ x => x)
  · exact Rep.lst_of (V.keeps h₁.2).old.new (IsList.new _ _) (h₁.1.kp fun _ _ e => Heap.get?_push_of_some _ e)
  · exact ktrans h₁.2 (kpush _ _)
end
end Mine
end
-- part C2
section
open PySem PySem.W PyProof.Rows
set_option maxRecDepth 100000
set_option linter.unusedVariables false
namespace Mine
section
variable {prog : Program} {w : World} {g : Heap} {A : Around} {env : Env} {ρ : List (Str × D)}

theorem bop_of_int {op : Operator} {a b r : Int} (h : ∀ s t u Q E, Q (.int r s.toks) { s with toks := s.toks + 1 } → wpAny (model prog w) A (binaryOp op (.int a t) (.int b u)) Q E s) : Bop prog w g A op (.int a) (.int b) (.int r) := by
  intro N s va vb _ hN ha hb E
  obtain ⟨t, rfl⟩ := ha.int_inv
  obtain ⟨u, rfl⟩ := hb.int_inv
  exact h s t u _ E ⟨Rep.int _ _, ktok _ _⟩
theorem bop_add {a b : Int} : Bop prog w g A .Add (.int a) (.int b) (.int (a + b)) := bop_of_int fun s t u Q E h => wpAny_add_int h
theorem bop_sub {a b : Int} : Bop prog w g A .Sub (.int a) (.int b) (.int (a - b)) := bop_of_int fun s t u Q E h => PyProof.Rows.sub_int h
theorem bop_mul {a b : Int} (hm : IntMulOk a b) : Bop prog w g A .Mult (.int a) (.int b) (.int (a * b)) := bop_of_int fun s t u Q E h => PyProof.Rows.mul_int h hm
theorem bop_mod {a b : Int} (hb : b ≠ 0) : Bop prog w g A .Mod (.int a) (.int b) (.int (a.fmod b)) := bop_of_int fun s t u Q E h => PyProof.Rows.mod_int hb h
theorem bop_fdiv {a b : Int} (hb : b ≠ 0) (hp : b.natAbs < 1073741824) : Bop prog w g A .FloorDiv (.int a) (.int b) (.int (a.fdiv b)) := bop_of_int fun s t u Q E h => PyProof.Rows.floordiv_int hb h (.inl (PyProof.noPylong_small hp))
theorem bop_pow {a n : Int} (hn : 0 ≤ n) (hsz : (Builtin.Int.intBits a : Int) * n ≤ 2 ^ 27) : Bop prog w g A .Pow (.int a) (.int n) (.int (a ^ n.toNat)) := bop_of_int fun s t u Q E h => PyProof.Rows.pow_int hn hsz h

theorem bop_div {a b : Int} (hb : b ≠ 0) (hi : Float64.isInf (Float64.ofFrac (decide (a < 0) != decide (b < 0)) a.natAbs b.natAbs) = false) :
    Bop prog w g A .Div (.int a) (.int b) (.flt (Float64.ofFrac (decide (a < 0) != decide (b < 0)) a.natAbs b.natAbs)) := by
  intro N s va vb _ hN ha hb' E
  obtain ⟨t, rfl⟩ := ha.int_inv
  obtain ⟨u, rfl⟩ := hb'.int_inv
  exact AutoIntOps.truediv_2 (by simpa using hb) (by rw [hi]; exact Bool.false_ne_true) ⟨Rep.flt _ _ hN.2, ktok _ _⟩

theorem bop_of_flt {op : Operator} {a b r : UInt64} (h : ∀ s t u Q E, Q (.float r s.toks) { s with toks := s.toks + 1 } → wpAny (model prog w) A (binaryOp op (.float a t) (.float b u)) Q E s) : Bop prog w g A op (.flt a) (.flt b) (.flt r) := by
  intro N s va vb _ hN ha hb E
  obtain ⟨t, rfl⟩ := ha.flt_inv
  obtain ⟨u, rfl⟩ := hb.flt_inv
  exact h s (t + 1) (u + 1) _ E ⟨Rep.flt _ _ hN.2, ktok _ _⟩
theorem bop_fadd {a b : UInt64} : Bop prog w g A .Add (.flt a) (.flt b) (.flt (Float64.add a b)) := bop_of_flt fun s t u Q E h => PyProof.Rows.add_float h
theorem bop_fsub {a b : UInt64} : Bop prog w g A .Sub (.flt a) (.flt b) (.flt (Float64.sub a b)) := bop_of_flt fun s t u Q E h => PyProof.Rows.sub_float h
theorem bop_fdivf {a b : UInt64} (hz : Float64.isZero b = false) : Bop prog w g A .Div (.flt a) (.flt b) (.flt (Float64.div a b)) :=
  bop_of_flt fun s t u Q E h => AutoFloatOpsIf.truediv (by rw [hz]; simp only [Bool.false_eq_true, if_false]; exact h)
theorem bop_fmod {a b : UInt64} (hz : Float64.isZero b = false) : Bop prog w g A .Mod (.flt a) (.flt b) (.flt (Float64.divmod a b).2) :=
  bop_of_flt fun s t u Q E h => AutoFloatOpsIf.mod (by rw [hz]; simp only [Bool.false_eq_true, if_false]; exact h)

theorem bop_sadd {a b : Str} (hz : a.length + b.length ≤ sizeLine) : Bop prog w g A .Add (.str a) (.str b) (.str (a ++ b)) := by
  intro N s va vb _ hN ha hb E
  obtain ⟨t, rfl⟩ := ha.str_inv
  obtain ⟨u, rfl⟩ := hb.str_inv
  refine PySem.P.add_str ?_
  by_cases h1 : (a.length == 0) = true
  · rw [if_pos h1]
    have e : a ++ b = b := by
      have : a.cps = #[] := Array.size_eq_zero_iff.mp (by simpa [Str.length] using h1)
      show Str.append a b = b
      unfold Str.append
      rw [this]; simp
    rw [e]
    exact ⟨Rep.str _ _, krefl _⟩
  · rw [if_neg h1]
    by_cases h2 : (b.length == 0) = true
    · rw [if_pos h2]
      have e : a ++ b = a := by
        have : b.cps = #[] := Array.size_eq_zero_iff.mp (by simpa [Str.length] using h2)
        show Str.append a b = a
        unfold Str.append
        rw [this]; simp
      rw [e]
      exact ⟨Rep.str _ _, krefl _⟩
    · rw [if_neg h2]
      exact ⟨by show (a ++ b).length ≤ sizeLine; rw [Str.length_append]; exact hz, Rep.str _ _, ktok _ _⟩

theorem bop_ladd {a b : List D} (hz : a.length + b.length ≤ sizeLine) : Bop prog w g A .Add (.lst a) (.lst b) (.lst (a ++ b)) := by
  intro N s va vb _ hN ha hb E
  obtain ⟨l, vs, rfl, na, hl, rl⟩ := ha.lst_inv
  obtain ⟨m, ws, rfl, nb, hm, rm⟩ := hb.lst_inv
  obtain ⟨⟨cls, dd, data, sl⟩, ho, hc, n, hd⟩ := id hl
  obtain ⟨⟨cls2, dd2, data2, sl2⟩, ho2, hc2, n2, hd2⟩ := id hm
  simp only at hc hd hc2 hd2
  subst hc hd hc2 hd2
  have e : vs.toArray ++ ws.toArray = (vs ++ ws).toArray := by simp
  refine concat_meets ⟨_, ho, rfl⟩ ⟨_, ho2, rfl⟩ noFill_list_add seq_list_add PySem.F.slot_list_add PySem.F.entry_list_add (PySem.F.args_list_add_2 _ _) (list_addW l m vs.toArray ws.toArray n n2 dd dd2 sl sl2 (by simpa [rl.length, rm.length] using hz)) ⟨ho, ho2, ?_⟩
  rw [e]
  refine ⟨Rep.lst_of hN.new (IsList.new _ _) ((Reps.append rl rm).kp fun _ _ e => Heap.get?_push_of_some _ e), kpush _ _⟩

theorem cop_of_int {op : CmpOp} {a b : Int} {r : Bool} (h : ∀ s t u Q E, Q (.bool r) s → wpAny (model prog w) A (compareOp op (.int a t) (.int b u)) Q E s) : Cop prog w g A op (.int a) (.int b) r := by
  intro N s va vb _ hN ha hb E
  obtain ⟨t, rfl⟩ := ha.int_inv
  obtain ⟨u, rfl⟩ := hb.int_inv
  exact h s t u _ E ⟨rfl, krefl _⟩
theorem cop_lt {a b : Int} : Cop prog w g A .Lt (.int a) (.int b) (decide (a < b)) := cop_of_int fun s t u Q E h => wpAny_lt_int h
theorem cop_le {a b : Int} : Cop prog w g A .LtE (.int a) (.int b) (decide (a ≤ b)) := cop_of_int fun s t u Q E h => PyProof.Rows.le_int h
theorem cop_ge {a b : Int} : Cop prog w g A .GtE (.int a) (.int b) (decide (b ≤ a)) := cop_of_int fun s t u Q E h => PyProof.Rows.ge_int h
theorem cop_eq {a b : Int} : Cop prog w g A .Eq (.int a) (.int b) (a == b) := cop_of_int fun s t u Q E h => PyProof.Rows.eq_int h
theorem cop_ne {a b : Int} : Cop prog w g A .NotEq (.int a) (.int b) (a != b) := cop_of_int fun s t u Q E h => PyProof.Rows.ne_int h

theorem cop_of_flt {op : CmpOp} {a b : UInt64} {r : Bool} (h : ∀ s t u Q E, Q (.bool r) s → wpAny (model prog w) A (compareOp op (.float a t) (.float b u)) Q E s) : Cop prog w g A op (.flt a) (.flt b) r := by
  intro N s va vb _ hN ha hb E
  obtain ⟨t, rfl⟩ := ha.flt_inv
  obtain ⟨u, rfl⟩ := hb.flt_inv
  exact h s (t + 1) (u + 1) _ E ⟨rfl, krefl _⟩
theorem cop_flt {a b : UInt64} : Cop prog w g A .Lt (.flt a) (.flt b) (Float64.cmp a b == some Ordering.lt) := cop_of_flt fun s t u Q E h => AutoFloatOps.lt_0 h
theorem cop_fle {a b : UInt64} : Cop prog w g A .LtE (.flt a) (.flt b) (Float64.cmp a b == some Ordering.lt || Float64.cmp a b == some Ordering.eq) := cop_of_flt fun s t u Q E h => AutoFloatOps.le_0 h
theorem cop_feq {a b : UInt64} : Cop prog w g A .Eq (.flt a) (.flt b) (Float64.cmp a b == some Ordering.eq) := cop_of_flt fun s t u Q E h => AutoFloatOps.eq_0 h
theorem cop_slt {a b : Str} : Cop prog w g A .Lt (.str a) (.str b) (decide (a.cps.toList < b.cps.toList)) := by
  intro N s va vb _ hN ha hb E
  obtain ⟨t, rfl⟩ := ha.str_inv
  obtain ⟨u, rfl⟩ := hb.str_inv
  exact PyProof.Rows.lt_str ⟨rfl, krefl _⟩
theorem cop_is_none {v : Value} : Cop prog w g A .Is (.val v) (.val .none) (v == .none) := by
  intro N s va vb _ hN ha hb E
  have := ha.val_inv; subst this
  have := hb.val_inv; subst this
  exact PySem.is_none ⟨rfl, krefl _⟩

/-- an item of a list at a known place -/
theorem ev_item {v i : Expr} {p : Pos} {l : List D} {k : Int} {d : D} (hv : Ev prog w g A env ρ v (.lst l)) (hi : Ev prog w g A env ρ i (.int k)) (h0 : 0 ≤ k) (h1 : k < 2 ^ 63) (hd : l[k.toNat]? = some d)
    (hs : ∀ a b u, subscripted i false (.ref a) (.int b u) = operate [.ref a, .int b u] (getItem (.ref a) (.int b u)) := by intro _ _ _; with_unfolding_all rfl) :
    Ev prog w g A env ρ (.Subscript v i p) d := by
  intro N s V E
  refine Subscript_ (wpAny_mono (hv N s V E) (fun va s₁ h₁ => ?_) fun _ _ x => x)
  refine wpAny_mono (hi N s₁ (V.keeps h₁.2) E) (fun vb s₂ h₂ => ?_) fun _ _ x => x
  obtain ⟨a, vs, rfl, na, hl, r⟩ := (h₁.1.kp (kpOf h₂.2)).lst_inv
  obtain ⟨u, rfl⟩ := h₂.1.int_inv
  obtain ⟨y, hy, ry⟩ := r.get hd
  exact tail_any hl.typeIs slot_list_getitem.lookup (wpAny_getItem_list hl h0 h1 (by simpa using hy) ⟨ry, ktrans h₁.2 h₂.2⟩) (hs a k u)
theorem ev_titem {v i : Expr} {p : Pos} {l : List D} {k : Int} {d : D} (hv : Ev prog w g A env ρ v (.tup l)) (hi : Ev prog w g A env ρ i (.int k)) (h0 : 0 ≤ k) (h1 : k < 2 ^ 63) (hd : l[k.toNat]? = some d)
    (hs : ∀ a b u, subscripted i false (.ref a) (.int b u) = operate [.ref a, .int b u] (getItem (.ref a) (.int b u)) := by intro _ _ _; with_unfolding_all rfl) :
    Ev prog w g A env ρ (.Subscript v i p) d := by
  intro N s V E
  refine Subscript_ (wpAny_mono (hv N s V E) (fun va s₁ h₁ => ?_) fun _ _ x => x)
  refine wpAny_mono (hi N s₁ (V.keeps h₁.2) E) (fun vb s₂ h₂ => ?_) fun _ _ x => x
  obtain ⟨a, vs, rfl, na, hl, r⟩ := (h₁.1.kp (kpOf h₂.2)).tup_inv
  obtain ⟨u, rfl⟩ := h₂.1.int_inv
  obtain ⟨y, hy, ry⟩ := r.get hd
  have hlt : k.toNat < vs.length := by
    rcases Nat.lt_or_ge k.toNat vs.length with h | h
    · exact h
    · rw [List.getElem?_eq_none h] at hy; cases hy
  exact item_tupleT hl (by omega) h1 (j := k.toNat) (by unfold seqIndex?; rw [if_neg (Int.not_lt.mpr h0), if_pos (by simp; omega)]) hy ⟨ry, ktrans h₁.2 h₂.2⟩ (hs a k u)

/-- v[:n] -/
theorem ev_upto {v u : Expr} {p q : Pos} {l : List D} {n : Nat} (hv : Ev prog w g A env ρ v (.lst l)) (hu : Ev prog w g A env ρ u (.int n)) (hz : l.length ≤ sizeLine)
    (ht : ∀ o r, letTemporaryGo v o r = pure () := by intro _ _; rfl) : Ev prog w g A env ρ (.Subscript v (.Slice none (some u) none q) p) (.lst (l.take n)) := by
  intro N s V E
  refine wpAny_Subscript_list_slice (wpAny_mono (hv N s V E) (fun va s₁ h₁ => ?_) fun _ _ x => x) ht
  rw [evalPart_none]
  refine wpAny_pure ?_
  show wpAny _ _ (eval u env) _ _ _
  refine wpAny_mono (hu N s₁ (V.keeps h₁.2) E) (fun vb s₂ h₂ => ?_) fun _ _ x => x
  obtain ⟨a, vs, rfl, na, hl, r⟩ := (h₁.1.kp (kpOf h₂.2)).lst_inv
  obtain ⟨t, rfl⟩ := h₂.1.int_inv
  refine ⟨a, vs.toArray, none, some (n : Int), rfl, hl, by simpa [r.length] using hz, .none, .int _ _, ?_, ?_⟩
  · rw [slicePick_upto']
    have e := IsList.new (s₂.heap.push { cls := .type "slice", data := .fields #[.none, .int n t, .none] }) (vs.take n).toArray
    rw [Heap.size_push] at e
    have nn := ((V.keeps h₁.2).keeps (ktrans h₂.2 (kpush _ { cls := .type "slice", data := .fields #[.none, .int n t, .none] }))).old.new
    rw [Heap.size_push] at nn
    exact Rep.lst_of nn e ((r.take n).kp fun b o e => Heap.get?_push_of_some _ (Heap.get?_push_of_some _ e))
  · exact ktrans h₁.2 (ktrans h₂.2 (ktrans (kpush _ _) (kpush _ _)))
end
end Mine
end
-- part C3
section
open PySem PySem.W PyProof.Rows
set_option maxRecDepth 100000
set_option linter.unusedVariables false
namespace Mine

/-- what the text's top has left, at the ground heap -/
structure Cx (K : Frag) (g : Heap) where
  kx : K.In g
  mg : Str → Option Value
  mb : Str → Option Value
  G : g.Ns mainGlobals mg
  B : g.Ns builtinsNs mb
  bt : ∀ x : Str, x ≠ "__name__" → mb x = bootBuiltins x
  lim : g.NoLimit

/-- the frame's own addresses -/
def Own (env : Env) (oc : List Addr) (b : Addr) : Prop := b = env.locals ∨ b ∈ oc
/-- all but some addresses is kept -/
def Run (X : Addr → Prop) (s s' : Shared) : Prop := ∃ (h' : Heap) (tk : Nat), s' = { s with heap := h', toks := s.toks + tk } ∧ ∀ b o, ¬ X b → s.heap.get? b = some o → h'.get? b = some o
theorem Run.refl (X : Addr → Prop) (s : Shared) : Run X s s := ⟨s.heap, 0, rfl, fun _ _ _ e => e⟩
theorem Run.trans {X : Addr → Prop} {a b c : Shared} (x : Run X a b) (y : Run X b c) : Run X a c := by
  obtain ⟨h, t, rfl, k⟩ := x
  obtain ⟨h', t', rfl, k'⟩ := y
  exact ⟨h', t + t', by show _ = { a with heap := h', toks := a.toks + (t + t') }; rw [← Nat.add_assoc], fun i o n e => k' i o n (k i o n e)⟩
theorem Run.of {X : Addr → Prop} {a b : Shared} (x : Keeps a b) : Run X a b := by
  obtain ⟨h, t, rfl, k⟩ := x
  exact ⟨h, t, rfl, fun b o _ e => k b o e⟩
theorem Run.mono {X Y : Addr → Prop} {a b : Shared} (x : Run X a b) (h : ∀ i, X i → Y i) : Run Y a b := by
  obtain ⟨h', t, rfl, k⟩ := x
  exact ⟨h', t, rfl, fun b o n e => k b o (fun q => n (h b q)) e⟩
theorem Run.kp {X : Addr → Prop} {a b : Shared} (x : Run X a b) {i : Addr} {o : Obj} (n : ¬ X i) (e : a.heap.get? i = some o) : b.heap.get? i = some o := by
  obtain ⟨h', t, rfl, k⟩ := x
  exact k i o n e
theorem Run.tk {X : Addr → Prop} {a b : Shared} (x : Run X a b) : a.toks ≤ b.toks := by
  obtain ⟨h', t, rfl, k⟩ := x
  exact Nat.le_add_right _ _
/-- what is new may change -/
theorem Run.keeps {X : Addr → Prop} {a b c : Shared} (x : Keeps a b) (y : Run X b c) (h : ∀ i, X i → a.heap.get? i = none) : Keeps a c := by
  obtain ⟨h', t, rfl, k⟩ := x
  obtain ⟨h'', t', rfl, k'⟩ := y
  refine ⟨h'', t + t', by show _ = { a with heap := h'', toks := a.toks + (t + t') }; rw [← Nat.add_assoc], fun i o e => k' i o (fun q => ?_) (k i o e)⟩
  rw [h i q] at e; cases e

theorem Ns.unique {h : Heap} {a : Addr} {m m' : Str → Option Value} (x : h.Ns a m) (y : h.Ns a m') : m = m' := by
  obtain ⟨o, es, ep, ho, hd, _, hf⟩ := x
  obtain ⟨o', es', ep', ho', hd', _, hf'⟩ := y
  rw [ho] at ho'; cases ho'
  rw [hd] at hd'; cases hd'
  funext n; rw [← hf n, ← hf' n]

structure Frm (g : Heap) (N : Addr → Prop) (s₀ : Shared) (env : Env) (oc : List Addr) (ρ : List (Str × D)) (s : Shared) : Prop where
  same : Keeps s₀ s
  ns : ∃ m, s.heap.Ns env.locals m
  new : s₀.heap.get? env.locals = none
  cel : ∀ c ∈ oc, (∃ v, s.heap.IsCell c v) ∧ s₀.heap.get? c = none
  inj : ∀ n n' c, c ∈ oc → env.cells.lookup n = some c → env.cells.lookup n' = some c → n = n'
  ground : Kp g s₀.heap
  view : View g N env ρ s

section
variable {g : Heap} {N : Addr → Prop} {s₀ s s' : Shared} {env : Env} {oc : List Addr} {ρ ρ' : List (Str × D)}
theorem Frm.base (F : Frm g N s₀ env oc ρ s) : Kp g s.heap := F.view.base
theorem Frm.keeps (F : Frm g N s₀ env oc ρ s) (k : Keeps s s') : Frm g N s₀ env oc ρ s' :=
  ⟨ktrans F.same k, let ⟨m, hm⟩ := F.ns; ⟨m, hm.keeps (kpOf k)⟩, F.new, fun c hc => let ⟨⟨v, hv⟩, hn⟩ := F.cel c hc; ⟨⟨v, hv.keeps (kpOf k)⟩, hn⟩, F.inj, F.ground, F.view.keeps k⟩
/-- forget, reorder -/
theorem Frm.sub (F : Frm g N s₀ env oc ρ s) (h : ∀ x d, ρ'.lookup x = some d → ρ.lookup x = some d) : Frm g N s₀ env oc ρ' s :=
  ⟨F.same, F.ns, F.new, F.cel, F.inj, F.ground, F.view.base, F.view.old, F.view.fn, F.view.gl, F.view.bu, F.view.cex, fun x d e => F.view.vars x d (h x d e)⟩
theorem Frm.ownNew (F : Frm g N s₀ env oc ρ s) : ∀ b, Own env oc b → s₀.heap.get? b = none := by
  rintro b (rfl | h)
  · exact F.new
  · exact (F.cel b h).2
theorem Frm.notSeq (F : Frm g N s₀ env oc ρ s) {b : Addr} {o : Obj} (ho : s.heap.get? b = some o) (hs : ∃ xs n, o.data = .seq xs n) : ¬ Own env oc b := by
  rintro (rfl | hm)
  · obtain ⟨m, o', es, ep, ho', hd, _⟩ := F.ns
    rw [ho] at ho'; cases ho'
    obtain ⟨xs, n, e⟩ := hs
    rw [hd] at e; cases e
  · obtain ⟨⟨v, o', ho', hd⟩, _⟩ := F.cel b hm
    rw [ho] at ho'; cases ho'
    obtain ⟨xs, n, e⟩ := hs
    rw [hd] at e; cases e
theorem Frm.reps (F : Frm g N s₀ env oc ρ s) (k : Run (Own env oc) s s') : KpS N s.heap s'.heap := fun b o _ q e => k.kp (F.notSeq e q) e

theorem Frm.oldRun (F : Frm g N s₀ env oc ρ s) (k : Run (Own env oc) s s') (h : ∀ b, Own env oc b → ∃ o, s'.heap.get? b = some o) : Old N s' := ⟨fun a na => by
  by_cases ho : Own env oc a
  · exact h a ho
  · obtain ⟨o, e⟩ := F.view.old.1 a na
    exact ⟨o, k.kp ho e⟩, Nat.lt_of_lt_of_le F.view.old.2 k.tk⟩
end

/-- a place a name can be stored to -/
def Stor (env : Env) (oc : List Addr) (x : Str) : Prop := env.kindOf x = some .local ∨ (env.kindOf x = some .cell ∧ ∃ c ∈ oc, env.cells.lookup x = some c)

section
variable {prog : Program} {w : World} {g : Heap} {N : Addr → Prop} {A : Around} {env : Env} {oc : List Addr} {ρ : List (Str × D)} {s₀ s : Shared} {E : Value → Shared → Prop}

theorem store_frm {x : Str} {d : D} {v : Value} {Q : Unit → Shared → Prop} (F : Frm g N s₀ env oc ρ s) (r : Rep N s.heap d v) (hx : Stor env oc x)
    (h : ∀ s', Frm g N s₀ env oc ((x, d) :: ρ) s' → Run (Own env oc) s s' → Q () s') : wpAny (model prog w) A (storeName env x v) Q E s := by
  have key : ∀ y d', List.lookup y ((x, d) :: ρ) = some d' → (y = x ∧ d' = d) ∨ (y ≠ x ∧ ρ.lookup y = some d') := by
    intro y d' e
    rw [List.lookup_cons] at e
    by_cases hy : (y == x) = true
    · rw [hy] at e; exact .inl ⟨beq_iff_eq.mp hy, (Option.some.inj e).symm⟩
    · have : (y == x) = false := by simpa using hy
      rw [this] at e; exact .inr ⟨fun q => hy (beq_iff_eq.mpr q), e⟩
  obtain ⟨m, hm⟩ := F.ns
  have hoL : ∀ b, b = env.locals → s₀.heap.get? b = none := fun b q => q ▸ F.new
  rcases hx with hl | ⟨hl, c, hc, hcl⟩
  · refine wpAny_storeName_local hl hm (fun h' hn' hs' => ?_) (by rw [F.view.fn]; rfl)
    have k : Run (Own env oc) s { s with heap := h', toks := s.toks + 1 } := ⟨h', 1, rfl, fun b o hb e => hs'.extBut b o (fun q => hb (.inl q)) e⟩
    have ks := F.reps k
    have cells : ∀ a u, s.heap.IsCell a u → h'.IsCell a u := fun a u hu => hu.sameBut hs' (fun q => by
      subst q
      obtain ⟨o, ho, hd⟩ := hu
      obtain ⟨o', es, ep, ho', hd', _⟩ := hm
      rw [ho] at ho'; cases ho'; rw [hd] at hd'; cases hd')
    have sm := Run.keeps F.same k F.ownNew
    have hown : ∀ b, Own env oc b → ∃ o, h'.get? b = some o := by
      rintro b (rfl | hb)
      · obtain ⟨o, _, _, ho, _⟩ := hn'; exact ⟨o, ho⟩
      · obtain ⟨⟨u, hu⟩, _⟩ := F.cel b hb
        obtain ⟨o, ho, _⟩ := cells b u hu; exact ⟨o, ho⟩
    refine h _ ⟨sm, ⟨_, hn'⟩, F.new, fun c hc => let ⟨⟨u, hu⟩, hn⟩ := F.cel c hc; ⟨⟨u, cells c u hu⟩, hn⟩, F.inj, F.ground, F.ground.trans (kpOf sm), F.oldRun k hown, F.view.fn, F.view.gl, F.view.bu, fun n a e => let ⟨u, hu⟩ := F.view.cex n a e; ⟨u, cells a u hu⟩, fun y d' e => ?_⟩ k
    · rcases key y d' e with ⟨rfl, rfl⟩ | ⟨hne, e⟩
      · exact .inl ⟨hl, _, v, hn', by simp, Rep.kps r ks⟩
      · rcases F.view.vars y d' e with ⟨a, m', u, n', e', r'⟩ | ⟨a, c, u, e1, e2, e3⟩
        · have := Ns.unique n' hm; subst this
          exact .inl ⟨a, _, u, hn', by simp [hne, e'], Rep.kps r' ks⟩
        · exact .inr ⟨a, c, u, e1, cells c _ e2, Rep.kps e3 ks⟩
  · refine wpAny_storeName_cell F.view.fn hl hcl (F.cel c hc).1.choose_spec fun h' hc' hs' => ?_
    have k : Run (Own env oc) s { s with heap := h' } := ⟨h', 0, rfl, fun b o hb e => hs'.extBut b o (fun q => hb (.inr (q ▸ hc))) e⟩
    have ks := F.reps k
    have sm := Run.keeps F.same k F.ownNew
    have hLc : env.locals ≠ c := fun q => by
      obtain ⟨⟨u, o, ho, hd⟩, _⟩ := F.cel c hc
      obtain ⟨o', es, ep, ho', hd', _⟩ := hm
      rw [q, ho] at ho'; cases ho'; rw [hd] at hd'; cases hd'
    have cells : ∀ a u, a ≠ c → s.heap.IsCell a u → h'.IsCell a u := fun a u hac hu => hu.sameBut hs' hac
    have hown : ∀ b, Own env oc b → ∃ o, h'.get? b = some o := by
      rintro b (rfl | hb)
      · obtain ⟨o, _, _, ho, _⟩ := hm.sameBut hs' hLc; exact ⟨o, ho⟩
      · by_cases hac : b = c
        · subst hac; obtain ⟨o, ho, _⟩ := hc'; exact ⟨o, ho⟩
        · obtain ⟨⟨u, hu⟩, _⟩ := F.cel b hb
          obtain ⟨o, ho, _⟩ := cells b u hac hu; exact ⟨o, ho⟩
    refine h _ ⟨sm, ⟨m, hm.sameBut hs' hLc⟩, F.new, fun a ha => ⟨?_, (F.cel a ha).2⟩, F.inj, F.ground, F.ground.trans (kpOf sm), F.oldRun k hown, F.view.fn, F.view.gl, F.view.bu, fun n a e => ?_, fun y d' e => ?_⟩ k
    rotate_left
    · by_cases hac : a = c
      · subst hac; exact ⟨_, hc'⟩
      · obtain ⟨u, hu⟩ := F.view.cex n a e
        exact ⟨u, cells a u hac hu⟩
    rotate_left
    · by_cases hac : a = c
      · subst hac; exact ⟨_, hc'⟩
      · obtain ⟨⟨u, hu⟩, _⟩ := F.cel a ha
        exact ⟨u, cells a u hac hu⟩
    · rcases key y d' e with ⟨rfl, rfl⟩ | ⟨hne, e⟩
      · exact .inr ⟨.inl hl, c, v, hcl, hc', Rep.kps r ks⟩
      · rcases F.view.vars y d' e with ⟨a, m', u, n', e', r'⟩ | ⟨a, c', u, e1, e2, e3⟩
        · exact .inl ⟨a, m', u, n'.sameBut hs' hLc, e', Rep.kps r' ks⟩
        · exact .inr ⟨a, c', u, e1, cells c' _ (fun q => hne (F.inj y x c hc (q ▸ e1) hcl)) e2, Rep.kps e3 ks⟩
theorem st_assign {x : Str} {p q : Pos} {e : Expr} {rest : List Stmt} {d : D} {Q : Flow → Shared → Prop} (F : Frm g N s₀ env oc ρ s) (he : Ev prog w g A env ρ e d) (hx : Stor env oc x)
    (h : ∀ s', Frm g N s₀ env oc ((x, d) :: ρ) s' → Run (Own env oc) s s' → wpAny (model prog w) A (execs rest env) Q E s')
    (hs : swapsWith e (some (.Name x p)) q.line env = pure false := by rfl) :
    wpAny (model prog w) A (execs (.Assign [.Name x p] e q :: rest) env) Q E s := by
  refine wpAny_execs_cons (wpAny_Assign_Name (wpAny_mono (he N s F.view E) (fun v s₁ h₁ => ?_) fun _ _ x => x) hs)
  exact store_frm (F.keeps h₁.2) h₁.1 hx fun s' F' k => h s' F' (Run.trans (Run.of h₁.2) k)

theorem st_return {e : Expr} {p : Pos} {rest : List Stmt} {d : D} {Q : Flow → Shared → Prop} (F : Frm g N s₀ env oc ρ s) (he : Ev prog w g A env ρ e d) (h : ∀ v s', Rep N s'.heap d v → Keeps s₀ s' → Q (.ret v) s') :
    wpAny (model prog w) A (execs (.Return (some e) p :: rest) env) Q E s := by
  refine wpAny_execs_cons (wpAny_Return_some (wpAny_mono (he N s F.view E) (fun v s₁ h₁ => ?_) fun _ _ x => x))
  exact h v s₁ h₁.1 (ktrans F.same h₁.2)

/-- if: the branch that the test decides -/
theorem st_if {t : Expr} {body orelse rest : List Stmt} {p : Pos} {b : Bool} {Q : Flow → Shared → Prop} (F : Frm g N s₀ env oc ρ s) (ht : Ts prog w g A env ρ t b)
    (h : ∀ s', Frm g N s₀ env oc ρ s' → Keeps s s' → wpAny (model prog w) A (execs (bif b then body else orelse) env) (fun f s'' => match f with | .next => wpAny (model prog w) A (execs rest env) Q E s'' | f => Q f s'') E s') :
    wpAny (model prog w) A (execs (.If t body orelse p :: rest) env) Q E s := by
  refine wpAny_execs_cons (wpAny_If (wpAny_mono (ht N s F.view E) (fun v s₁ h₁ => ?_) fun _ _ x => x))
  obtain ⟨rfl, k⟩ := h₁
  have := h s₁ (F.keeps k) k
  cases v with
  | false => simp only [Bool.false_eq_true, if_false]; exact this
  | true => simp only [if_true]; exact this
theorem st_if_no {t : Expr} {body rest : List Stmt} {p : Pos} {Q : Flow → Shared → Prop} (F : Frm g N s₀ env oc ρ s) (ht : Ts prog w g A env ρ t false)
    (h : ∀ s', Frm g N s₀ env oc ρ s' → Keeps s s' → wpAny (model prog w) A (execs rest env) Q E s') :
    wpAny (model prog w) A (execs (.If t body [] p :: rest) env) Q E s :=
  st_if F ht fun s' F' k => wpAny_execs_nil (h s' F' k)
theorem st_nil {Q : Flow → Shared → Prop} (h : Q .next s) : wpAny (model prog w) A (execs [] env) Q E s := wpAny_execs_nil h

/-- an expression statement that gives no object -/
theorem st_expr {e : Expr} {p : Pos} {rest : List Stmt} {Q : Flow → Shared → Prop} (F : Frm g N s₀ env oc ρ s)
    (h : wpAny (model prog w) A (eval e env) (fun v s' => v = .none ∧ wpAny (model prog w) A (execs rest env) Q E s') E s)
    (hs : swapsWith e none p.line env = pure false := by rfl) : wpAny (model prog w) A (execs (.Expr e p :: rest) env) Q E s := by
  refine wpAny_execs_cons (wpAny_Expr (wpAny_mono h (fun v s' h' => ?_) fun _ _ x => x) (by unfold interactive; rw [F.view.fn]; rfl) hs)
  obtain ⟨rfl, h'⟩ := h'
  exact h'
end
end Mine
end
-- part C4
section
open PySem PySem.W PyProof.Rows
set_option maxRecDepth 100000
set_option linter.unusedVariables false
namespace Mine

structure Room (n : Nat) (A : Around) : Prop where
  h : A.handled = none
  d : A.depth + n < recursionLimit
  u : A.units + 8 * n < cLine
theorem Room.le {n k : Nat} {A : Around} (r : Room n A) (h : k ≤ n) : Room k A := ⟨r.h, by have := r.d; omega, by have := r.u; omega⟩
theorem Room.deeper {n : Nat} {A : Around} {env : Env} (r : Room (n + 1) A) : Room n (A.deeper env) := ⟨r.h, by have := r.d; show A.depth + 1 + n < _; omega, by have := r.u; show A.units + 3 + 8 * n < _; omega⟩
theorem Room.in1 {n : Nat} {A : Around} (r : Room (n + 1) A) : Room n A.in1 := ⟨r.h, by have := r.d; show A.depth + n < _; omega, by have := r.u; show A.units + 1 + 8 * n < _; omega⟩
theorem Room.units {n : Nat} {A : Around} (r : Room n A) : A.units < cLine := by have := r.u; omega
theorem Room.depth {n : Nat} {A : Around} (r : Room n A) : A.depth < recursionLimit := by have := r.d; omega

def RepKw (N : Addr → Prop) (h : Heap) (kw : List (Str × D)) (kvs : List (Str × Value)) : Prop := ∃ ws, kvs = (kw.map (·.1)).zip ws ∧ Reps N h (kw.map (·.2)) ws
theorem RepKw.nil {N : Addr → Prop} {h : Heap} : RepKw N h [] [] := ⟨[], rfl, Reps.nil⟩
theorem RepKw.nil_inv {N : Addr → Prop} {h : Heap} {kvs : List (Str × Value)} (r : RepKw N h [] kvs) : kvs = [] := by obtain ⟨ws, rfl, _⟩ := r; rfl
theorem RepKw.one_inv {N : Addr → Prop} {h : Heap} {x : Str} {d : D} {kvs : List (Str × Value)} (r : RepKw N h [(x, d)] kvs) : ∃ v, kvs = [(x, v)] ∧ Rep N h d v := by
  obtain ⟨ws, rfl, r⟩ := r
  obtain ⟨v, us, rfl, a, b⟩ := Reps.cons_inv r
  exact ⟨v, rfl, a⟩

section
variable (prog : Program) (w : World) (g : Heap)
/-- a callee's contract: n is the room it needs -/
def Fn (n : Nat) (f : Value) (ds : List D) (kw : List (Str × D)) (d : D) : Prop :=
  ∀ A, Room n A → ∀ N s vs kvs, Kp g s.heap → Old N s → Reps N s.heap ds vs → RepKw N s.heap kw kvs → ∀ E, wpAny (model prog w) A (call f vs kvs) (fun v s' => Rep N s'.heap d v ∧ Keeps s s') E s
/-- keyword arguments -/
def Evk (A : Around) (env : Env) (ρ : List (Str × D)) (pos : Pos) (ks : List Keyword) (kw : List (Str × D)) : Prop :=
  ((backToKw pos (keywordEach ks env)).filterMap (·.1)) = kw.map (·.1) ∧ (backToKw pos (keywordEach ks env)).all (·.1.isSome) = true ∧
  ∀ N s, View g N env ρ s → ∀ E, wpAny (model prog w) A (evalAll ((backToKw pos (keywordEach ks env)).map (·.2))) (fun vs s' => Reps N s'.heap (kw.map (·.2)) vs ∧ Keeps s s') E s
end

section
variable {prog : Program} {w : World} {g : Heap} {N : Addr → Prop} {A : Around} {env : Env} {ρ : List (Str × D)} {s₀ s : Shared} {E : Value → Shared → Prop} {K : Frag}

theorem ev_glob (c : Cx K g) {x : Str} {p : Pos} {v : Value} (e : nsIn K mainGlobals x = some (some v)) (hx : env.kindOf x = some .globalImplicit) (hd : (x == ("__debug__" : Str)) = false := by decide) :
    Ev prog w g A env ρ (.Name x p) (.val v) := by
  intro N s V E
  refine Calls.Name_function_global V.fn hx ?_ hd
  exact Calls.loadGlobal_global (V.gl ▸ c.G.keeps V.base) (mg_of c.kx c.G e) ⟨Rep.val _, krefl _⟩
theorem ev_blt (c : Cx K g) {x : Str} {p : Pos} {v : Value} (e : nsIn K mainGlobals x = some none) (hb : bootBuiltins x = some v) (hn : x ≠ "__name__") (hx : env.kindOf x = some .globalImplicit) (hd : (x == ("__debug__" : Str)) = false := by decide) :
    Ev prog w g A env ρ (.Name x p) (.val v) := by
  intro N s V E
  refine Calls.Name_function_global V.fn hx ?_ hd
  exact Calls.loadGlobal_builtin (V.gl ▸ c.G.keeps V.base) (mg_none_of c.kx c.G e) (V.bu ▸ c.B.keeps V.base) ((c.bt x hn).trans hb) ⟨Rep.val _, krefl _⟩

theorem evk_nil {pos : Pos} : Evk prog w g A env ρ pos [] [] := ⟨rfl, rfl, fun N s V E => wpAny_evalAll_nil ⟨Reps.nil, krefl _⟩⟩
theorem evk_one {pos : Pos} {x : Str} {e : Expr} {p : Pos} {d : D} (h : Ev prog w g A env ρ e d) : Evk prog w g A env ρ pos [⟨some x, e, p⟩] [(x, d)] := by
  refine ⟨rfl, rfl, fun N s V E => ?_⟩
  show wpAny _ _ (evalAll [do let v ← eval e env; standAt pos; pure v]) _ _ _
  refine wpAny_evalAll_cons (wpAny_bind (wpAny_mono (h N s V E) (fun v s₁ h₁ => wpAny_bind (wpAny_standAt (wpAny_pure (wpAny_evalAll_nil ?_)))) fun _ _ x => x))
  exact ⟨Reps.one h₁.1, h₁.2⟩

/-- a call of a def of the text -/
theorem ev_call (c : Cx K g) {n : Nat} {f : Expr} {e : Expr} {es : List Expr} {ks : List Keyword} {pos : Pos} {a : Addr} {ds : List D} {kw : List (Str × D)} {d : D}
    (hf : Ev prog w g A env ρ f (.val (.ref a))) (hk : keepIn K (.ref a) = true) (ha : Evs prog w g A env ρ pos (e :: es) ds) (hkw : Evk prog w g A env ρ pos ks kw) (hc : Fn prog w g n (.ref a) ds kw d) (R : Room n A)
    (hn : ∀ env, eval (.Call f (e :: es) ks pos) env = (do callWith pos (← eval f env) [] (backTo pos (starEach (e :: es) env)) (backToKw pos (keywordEach ks env))) := by intro _; rfl)
    (hplain : ∀ env, ((backTo pos (starEach (e :: es) env)).any (·.1) || (backToKw pos (keywordEach ks env)).any (·.1.isNone)) = false := by intro _; rfl)
    (he : ∀ env, starEach (e :: es) env = (false, eval e env) :: starEach es env := by intro _; rfl) :
    Ev prog w g A env ρ (.Call f (e :: es) ks pos) d := by
  intro N s V E
  rw [hn]
  refine wpAny_bind (wpAny_mono (hf N s V E) (fun fv s₁ h₁ => ?_) fun _ _ x => x)
  have := h₁.1.val_inv; subst this
  have V₁ := V.keeps h₁.2
  refine callWith_KW (c.kx.keeps V₁.base) hk hkw.2.1 ?_ (hplain env) (he env)
  refine wpAny_mono (ha N s₁ V₁ E) (fun vs s₂ h₂ => ?_) fun _ _ x => x
  have V₂ := V₁.keeps h₂.2
  refine wpAny_mono (hkw.2.2 N s₂ V₂ E) (fun ks' s₃ h₃ => ?_) fun _ _ x => x
  have V₃ := V₂.keeps h₃.2
  refine ⟨c.kx.keeps V₃.base, ?_⟩
  rw [hkw.1]
  refine wpAny_mono (hc A R N s₃ vs _ V₃.base V₃.old (h₂.1.kp (kpOf h₃.2)) ⟨ks', rfl, h₃.1⟩ E) (fun v s₄ h₄ => ?_) fun _ _ x => x
  exact ⟨h₄.1, ktrans h₁.2 (ktrans h₂.2 (ktrans h₃.2 h₄.2))⟩

/-- a call of a built-in function by position -/
theorem ev_callB {n : Nat} {f : Expr} {e : Expr} {es : List Expr} {pos : Pos} {id : String} {ds : List D} {d : D}
    (hf : Ev prog w g A env ρ f (.val (.builtin id))) (ha : Evs prog w g A env ρ pos (e :: es) ds) (hc : Fn prog w g n (.builtin id) ds [] d) (R : Room n A)
    (hn : ∀ env, eval (.Call f (e :: es) [] pos) env = (do callWith pos (← eval f env) [] (backTo pos (starEach (e :: es) env)) []) := by intro _; rfl)
    (hplain : ∀ env, (backTo pos (starEach (e :: es) env)).any (·.1) = false := by intro _; rfl)
    (he : ∀ env, starEach (e :: es) env = (false, eval e env) :: starEach es env := by intro _; rfl) :
    Ev prog w g A env ρ (.Call f (e :: es) [] pos) d := by
  intro N s V E
  rw [hn]
  refine wpAny_bind (wpAny_mono (hf N s V E) (fun fv s₁ h₁ => ?_) fun _ _ x => x)
  have := h₁.1.val_inv; subst this
  have V₁ := V.keeps h₁.2
  refine Calls.callWith_builtin (hplain env) ?_
  have hp := hplain env
  have ha' := ha N s₁ V₁ E
  rw [he env] at hp ha' ⊢
  refine Calls.evalArgs_plain (wpAny_mono ha' (fun vs s₂ h₂ => ?_) fun _ _ x => x)
  have V₂ := V₁.keeps h₂.2
  refine wpAny_mono (hc A R N s₂ vs _ V₂.base V₂.old h₂.1 RepKw.nil E) (fun v s₄ h₄ => ?_) fun _ _ x => x
  exact ⟨h₄.1, ktrans h₁.2 (ktrans h₂.2 h₄.2)⟩

theorem cellsFrom_mem : ∀ (names : List (Str × NameKind)) (n : Nat) (acc : List (Str × Addr)) (x : Str) (c : Addr), (x, c) ∈ cellsFrom n names acc → (x, c) ∈ acc ∨ n ≤ c
  | [], _, _, _, _, h => .inl h
  | (y, k) :: r, n, acc, x, c, h => by
    unfold cellsFrom at h
    split at h
    · rcases cellsFrom_mem r (n + 1) _ x c h with h | h
      · rcases List.mem_cons.mp h with h | h
        · cases h; exact .inr (Nat.le_refl _)
        · exact .inl h
      · exact .inr (by omega)
    · exact cellsFrom_mem r n acc x c h

theorem nodup_lookup : ∀ {l : List (Str × Addr)}, (l.map (·.1)).Nodup → ∀ n c, (n, c) ∈ l → l.lookup n = some c
  | (y, b) :: r, hn, n, c, h => by
    rw [List.map_cons, List.nodup_cons] at hn
    rw [List.lookup_cons]
    rcases List.mem_cons.mp h with h' | h'
    · cases h'; simp
    · 
      have hne : (n == y) = false := by
        rw [beq_eq_false_iff_ne]; rintro rfl
        exact hn.1 (List.mem_map.mpr ⟨(n, c), h', rfl⟩)
      rw [hne]; exact nodup_lookup hn.2 n c h'
/-- the kinds of an env's names, and its cells -/
structure EF (env : Env) (oc : List Addr) (names onames : List (Str × NameKind)) : Prop where
  kd : ∀ x, env.kindOf x = names.lookup x
  cl : ∀ x, names.lookup x = some .cell → (env.cells.lookup x).isSome = true
  own : ∀ x, onames.lookup x = some .cell → ∃ c ∈ oc, env.cells.lookup x = some c
theorem EF.stor {env : Env} {oc : List Addr} {names onames : List (Str × NameKind)} (f : EF env oc names onames) {x : Str} (h : (names.lookup x == some .local || (names.lookup x == some .cell && onames.lookup x == some .cell)) = true) : Stor env oc x := by
  rw [Bool.or_eq_true, Bool.and_eq_true, beq_iff_eq, beq_iff_eq, beq_iff_eq] at h
  rcases h with h | ⟨h, h'⟩
  · exact .inl ((f.kd x).trans h)
  · exact .inr ⟨(f.kd x).trans h, f.own x h'⟩
theorem EF.kind {env : Env} {oc : List Addr} {names onames : List (Str × NameKind)} (f : EF env oc names onames) {x : Str} {k : NameKind} (h : names.lookup x = some k) : env.kindOf x = some k := (f.kd x).trans h

section
variable {M : Model} {A : Around} {E : Value → Shared → Prop} {s₀ s : Shared} {m cm : Str → Option Value} {env : Env}
/-- a def's frame; the count of tokens does not fall -/
theorem newEnvT {scope : Scope} {globals : Addr} {binds : List (Str × Value)} {qual : Str} {func : Option Addr} {code : Value} {builtins : Addr} {Q : Env → Shared → Prop} (hk : scope.kind = .function)
    (hb : ∀ x ∈ binds, scope.names.lookup x.1 = some .local ∨ (scope.names.lookup x.1 = some .cell ∧ ((cellsFrom (s.heap.objs.size + 1) scope.names []).lookup x.1).isSome = true))
    (hQ : ∀ env, env = newEnv scope s.heap.objs.size globals (cellsFrom (s.heap.objs.size + 1) scope.names []) qual func code none builtins → ∀ s', InCallC s env.locals (bindL env.kindOf binds fun _ => none) env.cells (bindC env.kindOf binds fun _ => none) s' → s.toks ≤ s'.toks → Q env s') :
    wpAny M A (newFunctionEnv scope globals [] binds qual func code none builtins) Q E s :=
  wpAny_with_toks (Nat.le_refl s.toks) (wpAny_newFunctionEnv_cells hk hb fun env he s' x => hQ env he s' x)
end

def bindsOf (ks : List (Str × D)) (vs : List Value) : List (Str × Value) := (ks.map (·.1)).zip vs

/-- entering a def of the text -/
theorem call_fn (c : Cx K g) {n : Nat} {R : Value → Shared → Prop} {f : Addr} {name qual : Str} {params : Arguments} {body : List Stmt} {scope : Scope} {dV kV doc pm cdv ct oc : Value} {an od : Option Addr} {osl : Array (Option Value)} {pos : List Value} {kw : List (Str × Value)} {ρ : List (Str × D)} {vs : List Value}
    (hs : Kp g s.heap) (hN : Old N s) (ho : K.lookup f = some ⟨oc, od, .func (fnOf name qual params body scope dV kV doc pm an cdv ct), osl⟩) (hcd : codeIn K cdv qual = true) (hroom : Room (n + 1) A)
    (hbind : BindsTo s (fnOf name qual params body scope dV kV doc pm an cdv ct) ⟨pos, kw⟩ (bindsOf ρ vs)) (hv : Reps N s.heap (ρ.map (·.2)) vs)
    (hkind : (ρ.all fun y => scope.names.lookup y.1 == some .local || scope.names.lookup y.1 == some .cell) = true) (hnd : ((cellsFrom 0 scope.names []).map (·.1)).Nodup) (hρ : decide ((ρ.map (·.1)).Nodup) = true)
    (hco : scope.isCoroutine = false) (hgen : scope.isGenerator = false) (hk : scope.kind = .function)
    (h : ∀ s₁ env oc A', Room n A' → env = callEnvC (fnOf name qual params body scope dV kV doc pm an cdv ct) s.heap.objs.size f → EF env oc scope.names scope.names → Frm g N s env oc ρ s₁ →
      wpAny (model prog w) A' (execs body env) (fun fl s' => R (match fl with | .ret v => v | _ => .none) s') (fun _ _ => False) s₁) :
    wpAny (model prog w) A (call (.ref f) pos kw) R E s := by
  refine wpAny_call ?_
  have hall : ((bindsOf ρ vs).all fun y => scope.names.lookup y.1 == some .local || scope.names.lookup y.1 == some .cell) = true := by
    rw [List.all_eq_true] at hkind ⊢
    intro x hx
    have hx1 : x.1 ∈ ρ.map (·.1) := (List.of_mem_zip (a := x.1) (b := x.2) hx).1
    obtain ⟨y, hy, e⟩ := List.mem_map.mp hx1
    have := hkind y hy
    rw [e] at this; exact this
  refine codeAny_call_function hroom.depth ((c.kx.keeps hs) _ _ ho) rfl hco hgen rfl (codeRec_of (c.kx.keeps hs) hcd) (hbind _ _ _ _ ?_)
  refine newEnvT hk (kindsX hall _) fun env he s' x htk => ?_
  refine ⟨(c.lim.keeps hs).keeps x.toInCall.keep, codeAny_func ?_⟩
  have hcells : env.cells = cellsFrom (s.heap.objs.size + 1) scope.names [] := by rw [he]; rfl
  have hkd : ∀ y, env.kindOf y = scope.names.lookup y := by intro y; rw [he]; rfl
  have hcs : ∀ y, scope.names.lookup y = some .cell → ∃ c ∈ env.cells.map (·.2), env.cells.lookup y = some c := fun y hy => by
    obtain ⟨c, hc⟩ := Option.isSome_iff_exists.mp (show (env.cells.lookup y).isSome = true by rw [hcells]; exact cellsFrom_some _ _ _ (.inl hy))
    exact ⟨c, List.mem_map.mpr ⟨(y, c), mem_of_lookup hc, rfl⟩, hc⟩
  have hnd' : (env.cells.map (·.1)).Nodup := by rw [hcells, cellsFrom_names scope.names _ 0 [] [] rfl]; exact hnd
  have fr : Frm g N s env (env.cells.map (·.2)) ρ s' := by
    have kk : Keeps s s' := by
      obtain ⟨hh, tk, hse, hkp⟩ := x.done
      subst hse; exact kof hkp htk
    refine ⟨kk, ⟨_, x.toInCall.ns⟩, ?_, fun c hc => ?_, fun n n' c _ e e' => name_of_addr x.apart (mem_of_lookup e) (mem_of_lookup e'), hs, hs.trans x.toInCall.keep, hN.kp kk, by rw [he]; exact hk, by rw [he]; rfl, by rw [he]; rfl, fun n c e => ⟨_, x.cell n c e⟩, fun y d hy => ?_⟩
    · exact Heap.get?_none_of_le x.toInCall.fresh
    · obtain ⟨q, hq, rfl⟩ := List.mem_map.mp hc
      refine ⟨⟨_, x.cell q.1 q.2 (nodup_lookup hnd' q.1 q.2 hq)⟩, Heap.get?_none_of_le (Nat.le_of_lt (Nat.lt_of_le_of_lt x.toInCall.fresh (x.above q.1 q.2 hq)))⟩
    have main : ∀ (ρ : List (Str × D)) (vs : List Value) (m cm : Str → Option Value), (ρ.map (·.1)).Nodup → Reps N s.heap (ρ.map (·.2)) vs → (∀ z ∈ ρ, env.kindOf z.1 = some .local ∨ env.kindOf z.1 = some .cell) → ∀ y d, 
        (ρ.lookup y = some d ∨ (y ∉ ρ.map (·.1) ∧ ((env.kindOf y = some .local ∧ ∃ v, m y = some v ∧ Rep N s.heap d v) ∨ (env.kindOf y = some .cell ∧ ∃ v, cm y = some v ∧ Rep N s.heap d v)))) →
        (env.kindOf y = some .local ∧ ∃ v, bindL env.kindOf (bindsOf ρ vs) m y = some v ∧ Rep N s.heap d v) ∨ (env.kindOf y = some .cell ∧ ∃ v, bindC env.kindOf (bindsOf ρ vs) cm y = some v ∧ Rep N s.heap d v) := by
      intro ρ
      induction ρ with
      | nil =>
        intro vs m cm _ _ _ y d h
        rcases h with h | ⟨_, h⟩
        · cases h
        · exact h
      | cons q r ih =>
        intro vs m cm hn hr hkk y d h
        obtain ⟨x, dx⟩ := q
        obtain ⟨v, ws, rfl, a, b⟩ := Reps.cons_inv hr
        rw [List.map_cons, List.nodup_cons] at hn
        show (_ ∧ ∃ v', bindL env.kindOf (bindsOf r ws) (if env.kindOf x = some .local then fun y => if y = x then some v else m y else m) y = some v' ∧ _) ∨ (_ ∧ ∃ v', bindC env.kindOf (bindsOf r ws) (if env.kindOf x = some .local then cm else fun y => if y = x then some v else cm y) y = some v' ∧ _)
        refine ih ws _ _ hn.2 b (fun z hz => hkk z (List.mem_cons_of_mem _ hz)) y d ?_
        by_cases hyx : y = x
        · subst hyx
          have hd : dx = d := by
            rcases h with h | ⟨h, _⟩
            · simp at h; exact h
            · exact absurd (by simp) h
          subst hd
          refine .inr ⟨hn.1, ?_⟩
          rcases hkk (y, dx) (by simp) with hl | hl
          · exact .inl ⟨hl, v, by rw [if_pos hl]; simp, a⟩
          · refine .inr ⟨hl, v, ?_, a⟩
            rw [if_neg (by rw [hl]; decide)]; simp
        · rcases h with h | ⟨h, h'⟩
          · left
            have hb : (y == x) = false := beq_eq_false_iff_ne.mpr hyx
            rw [List.lookup_cons, hb] at h; exact h
          · refine .inr ⟨fun q => h (by simp; exact .inr (by simpa using q)), ?_⟩
            rcases h' with ⟨hl, u, e1, e2⟩ | ⟨hl, u, e1, e2⟩
            · refine .inl ⟨hl, u, ?_, e2⟩
              split <;> simp [hyx, e1]
            · refine .inr ⟨hl, u, ?_, e2⟩
              split <;> simp [hyx, e1]
    have hkk : ∀ z ∈ ρ, env.kindOf z.1 = some .local ∨ env.kindOf z.1 = some .cell := fun z hz => by
      have := List.all_eq_true.mp hkind z hz
      rw [Bool.or_eq_true, beq_iff_eq, beq_iff_eq] at this
      rw [hkd]; exact this
    rcases main ρ vs (fun _ => none) (fun _ => none) (of_decide_eq_true hρ) hv hkk y d (.inl hy) with ⟨a, v, b, r⟩ | ⟨a, v, b, r⟩
    · exact .inl ⟨a, _, v, x.toInCall.ns, b, r.kp x.toInCall.keep⟩
    · obtain ⟨ca, _, hca⟩ := hcs y (by rw [← hkd]; exact a)
      exact .inr ⟨.inl a, ca, v, hca, b ▸ x.cell y ca hca, r.kp x.toInCall.keep⟩
  exact wpAny_mono (h s' env _ (A.deeper env) hroom.deeper he ⟨hkd, fun y hy => let ⟨c, _, e⟩ := hcs y hy; by rw [e]; rfl, hcs⟩ fr) (fun _ _ q => q) (fun _ _ q => q.elim)
end
end Mine
end
-- part C5
section
open PySem PySem.W PyProof.Rows
set_option maxRecDepth 100000
set_option linter.unusedVariables false
namespace Mine

def IsFS (o : Obj) : Prop := (∃ vs, o.data = .fields vs) ∨ ∃ xs n, o.data = .seq xs n

section
variable {g : Heap} {N N' : Addr → Prop} {s₀ s s' : Shared} {env : Env} {oc : List Addr} {ρ ρ' : List (Str × D)}

theorem Frm.notFS (F : Frm g N s₀ env oc ρ s) {b : Addr} (h : ∀ o, s.heap.get? b = some o → IsFS o) : ¬ Own env oc b := by
  rintro (rfl | hm)
  · obtain ⟨m, o', es, ep, ho', hd, _⟩ := F.ns
    rcases h o' ho' with ⟨vs, e⟩ | ⟨xs, n, e⟩ <;> (rw [hd] at e; cases e)
  · obtain ⟨⟨v, o', ho', hd⟩, _⟩ := F.cel b hm
    rcases h o' ho' with ⟨vs, e⟩ | ⟨xs, n, e⟩ <;> (rw [hd] at e; cases e)

/-- objects of N, new since the frame was made, have turned -/
theorem Frm.mut' {X : Addr → Prop} (F : Frm g N s₀ env oc ρ s) (k : Run X s s') (hX : ∀ b, X b → s₀.heap.get? b = none ∧ N b ∧ ∀ o, s.heap.get? b = some o → IsFS o) (hN : ∀ b, N' b → N b) (hold : Old N' s') : Frm g N' s₀ env oc ρ s' := by
  have sm := Run.keeps F.same k fun b q => (hX b q).1
  have own : ∀ b, Own env oc b → ¬ X b := fun b ho hx => F.notFS (hX b hx).2.2 ho
  have ks : KpS N s.heap s'.heap := fun b o nb _ e => k.kp (fun q => nb (hX b q).2.1) e
  have cells : ∀ a u, s.heap.IsCell a u → s'.heap.IsCell a u := fun a u ⟨o, ho, hd⟩ => ⟨o, k.kp (fun q => by
    rcases (hX a q).2.2 o ho with ⟨vs, e⟩ | ⟨xs, n, e⟩ <;> (rw [hd] at e; cases e)) ho, hd⟩
  have nss : ∀ m, s.heap.Ns env.locals m → s'.heap.Ns env.locals m := fun m hm => hm.at' fun o e => k.kp (own _ (.inl rfl)) e
  obtain ⟨m, hm⟩ := F.ns
  refine ⟨sm, ⟨m, nss m hm⟩, F.new, fun c hc => let ⟨⟨u, hu⟩, hn⟩ := F.cel c hc; ⟨⟨u, cells c u hu⟩, hn⟩, F.inj, F.ground, F.ground.trans (kpOf sm), hold, F.view.fn, F.view.gl, F.view.bu, fun n c e => let ⟨u, hu⟩ := F.view.cex n c e; ⟨u, cells c u hu⟩, fun y d e => ?_⟩
  rcases F.view.vars y d e with ⟨a, m', u, n', e', r'⟩ | ⟨a, c, u, e1, e2, e3⟩
  · exact .inl ⟨a, m', u, nss m' n', e', Rep.mono (Kp.refl _).s (fun b _ n _ q => n (hN b q)) _ _ (r'.kps ks)⟩
  · exact .inr ⟨a, c, u, e1, cells c _ e2, Rep.mono (Kp.refl _).s (fun b _ n _ q => n (hN b q)) _ _ (e3.kps ks)⟩
theorem Frm.mut {X : Addr → Prop} (F : Frm g N s₀ env oc ρ s) (k : Run X s s') (hX : ∀ b, X b → s₀.heap.get? b = none ∧ N b ∧ ∀ o, s.heap.get? b = some o → IsFS o) (hold : Old N s') : Frm g N s₀ env oc ρ s' := F.mut' k hX (fun _ q => q) hold

/-- fewer or more forbidden addresses -/
theorem Frm.weak (F : Frm g N s₀ env oc ρ s) (h : ∀ b o, ¬ N b → s.heap.get? b = some o → ¬ N' b) (hold : Old N' s) : Frm g N' s₀ env oc ρ s :=
  ⟨F.same, F.ns, F.new, F.cel, F.inj, F.ground, F.view.base, hold, F.view.fn, F.view.gl, F.view.bu, F.view.cex, fun y d e => by
    rcases F.view.vars y d e with ⟨a, m', u, n', e', r'⟩ | ⟨a, c, u, e1, e2, e3⟩
    · exact .inl ⟨a, m', u, n', e', Rep.mono (Kp.refl _).s h _ _ r'⟩
    · exact .inr ⟨a, c, u, e1, e2, Rep.mono (Kp.refl _).s h _ _ e3⟩⟩
theorem Frm.less (F : Frm g N s₀ env oc ρ s) (h : ∀ b, N' b → N b) : Frm g N' s₀ env oc ρ s := F.weak (fun b _ n _ q => n (h b q)) ⟨fun a q => F.view.old.1 a (h a q), F.view.old.2⟩
theorem Rep.less {d : D} {v : Value} {hp : Heap} (r : Rep N hp d v) (h : ∀ b, N' b → N b) : Rep N' hp d v := Rep.mono (Kp.refl _).s (fun b _ n _ q => n (h b q)) _ _ r
theorem Reps.less {d : List D} {v : List Value} {hp : Heap} (r : Reps N hp d v) (h : ∀ b, N' b → N b) : Reps N' hp d v := Reps.mono (Kp.refl _).s (fun b _ n _ q => n (h b q)) _ _ r
end

section
variable (prog : Program) (w : World) (g : Heap)

/-- an iterator that gives the data dts one by one; it leans on the data ds at vs -/
structure It (A : Around) (tg : Expr) (I : Addr) (fp wr : List Addr) (dts ds : List D) (vs : List Value) (St : Nat → Heap → Prop) : Prop where
  sub : ∀ b ∈ wr, b ∈ fp
  kind : ∀ i h, St i h → ∀ b ∈ fp, ∃ o, h.get? b = some o ∧ IsFS o
  frame : ∀ i h h', St i h → (∀ b ∈ fp, ∀ o, h.get? b = some o → h'.get? b = some o) → St i h'
  item : ∀ (N : Addr → Prop) (i : Nat) (d : D) (s : Shared) (Q : Value → Shared → Prop) (E : Value → Shared → Prop), (∀ b ∈ wr, N b) → Old N s → Reps N s.heap ds vs → dts[i]? = some d → St i s.heap →
    (∀ (v : Value) (h' : Heap) (tk : Nat), Rep N h' d v → St (i + 1) h' → (∀ b o, b ∉ wr → s.heap.get? b = some o → h'.get? b = some o) → Q v { s with heap := h', toks := s.toks + tk }) →
    wpAny (model prog w) A (pyNext (.ref I)) (fun r s' => ∃ v, r = some v ∧ wpAny (model prog w) A (letOwnedTupleGo tg (.ref I) v) (fun _ s'' => Q v s'') E s') E s
  done : ∀ (s : Shared) (Q : Option Value → Shared → Prop) (E : Value → Shared → Prop), St dts.length s.heap → (∀ (h' : Heap) (tk : Nat), (∀ b o, b ∉ wr → s.heap.get? b = some o → h'.get? b = some o) → Q none { s with heap := h', toks := s.toks + tk }) → wpAny (model prog w) A (pyNext (.ref I)) Q E s
  self : ∀ (i : Nat) (s : Shared) (Q : Value → Shared → Prop) (E : Value → Shared → Prop), St i s.heap → Q (.ref I) s → wpAny (model prog w) A (pyIter (.ref I)) Q E s

/-- an expression whose value is walked -/
def Src (A : Around) (env : Env) (ρ : List (Str × D)) (e tg : Expr) (dts : List D) : Prop :=
  ∀ N s, View g N env ρ s → ∀ E (Q : Value → Shared → Prop), (∀ (s₁ : Shared) (I : Addr) (fp wr : List Addr) (ds : List D) (vs : List Value) (St : Nat → Heap → Prop), Keeps s s₁ → It prog w A tg I fp wr dts ds vs St → St 0 s₁.heap → (∀ b ∈ wr, s.heap.get? b = none) → (∀ b, N b → b ∉ fp) → Reps (fun b => N b ∨ b ∈ wr) s₁.heap ds vs → Q (.ref I) s₁) →
    wpAny (model prog w) A (eval e env) (fun x s' => wpAny (model prog w) A (pyIter x) Q E s') E s

/-- a target takes a datum -/
def Asg (A : Around) (env : Env) (oc : List Addr) (tg : Expr) (d : D) (β : List (Str × D)) : Prop :=
  ∀ N s₀ ρ s v (Q : Unit → Shared → Prop) E, Frm g N s₀ env oc ρ s → Rep N s.heap d v → (∀ s', Frm g N s₀ env oc (β ++ ρ) s' → Run (Own env oc) s s' → Q () s') → wpAny (model prog w) A (assign tg env v) Q E s
end

section
variable {prog : Program} {w : World} {g : Heap} {A : Around} {env : Env} {oc : List Addr} {ρ : List (Str × D)}

theorem asg_name {x : Str} {p : Pos} {d : D} (hx : Stor env oc x) : Asg prog w g A env oc (.Name x p) d [(x, d)] :=
  fun N s₀ ρ s v Q E F r h => wpAny_assign_Name (store_frm F r hx h)
theorem asg_tup2 {t1 t2 : Expr} {k : Nat} {p : Pos} {d1 d2 : D} {β1 β2 : List (Str × D)} (hh : A.handled = none) (h1 : Asg prog w g A env oc t1 d1 β1) (h2 : Asg prog w g A env oc t2 d2 β2)
    (ha : ∀ env, assignEach [t1, t2] env = [(false, assign t1 env), (false, assign t2 env)] := by intro _; rfl) : Asg prog w g A env oc (.Tuple [t1, t2] k p) (.tup [d1, d2]) (β2 ++ β1) := by
  intro N s₀ ρ s v Q E F r h
  obtain ⟨a, vs, rfl, na, ht, rv⟩ := r.tup_inv
  obtain ⟨v1, vs, rfl, r1, rv⟩ := rv.cons_inv
  obtain ⟨v2, vs, rfl, r2, rv⟩ := rv.cons_inv
  have := rv.nil_inv; subst this
  refine wpAny_assign_Tuple hh ht (by rw [ha]; rfl) (by rw [ha]; rfl) fun h' he => ?_
  have kk : Keeps s { s with heap := h' } := ⟨h', 0, rfl, fun b o e => he b o (Nat.ne_of_lt (Heap.lt_size e)) e⟩
  rw [ha]
  refine assignInOrder_cons (h1 N s₀ ρ _ v1 _ _ (F.keeps kk) (r1.kp (kpOf kk)) fun s₁ F₁ k₁ => ?_)
  have ks := (F.keeps kk).reps k₁
  refine assignInOrder_cons (h2 N s₀ _ _ v2 _ _ F₁ ((r2.kp (kpOf kk)).kps ks) fun s₂ F₂ k₂ => ?_)
  refine assignInOrder_nil (h s₂ ?_ (Run.trans (Run.of kk) (Run.trans k₁ k₂)))
  rw [List.append_assoc]; exact F₂
theorem asg_tup3 {t1 t2 t3 : Expr} {k : Nat} {p : Pos} {d1 d2 d3 : D} {β1 β2 β3 : List (Str × D)} (hh : A.handled = none) (h1 : Asg prog w g A env oc t1 d1 β1) (h2 : Asg prog w g A env oc t2 d2 β2) (h3 : Asg prog w g A env oc t3 d3 β3)
    (ha : ∀ env, assignEach [t1, t2, t3] env = [(false, assign t1 env), (false, assign t2 env), (false, assign t3 env)] := by intro _; rfl) : Asg prog w g A env oc (.Tuple [t1, t2, t3] k p) (.tup [d1, d2, d3]) (β3 ++ (β2 ++ β1)) := by
  intro N s₀ ρ s v Q E F r h
  obtain ⟨a, vs, rfl, na, ht, rv⟩ := r.tup_inv
  obtain ⟨v1, vs, rfl, r1, rv⟩ := rv.cons_inv
  obtain ⟨v2, vs, rfl, r2, rv⟩ := rv.cons_inv
  obtain ⟨v3, vs, rfl, r3, rv⟩ := rv.cons_inv
  have := rv.nil_inv; subst this
  refine wpAny_assign_Tuple hh ht (by rw [ha]; rfl) (by rw [ha]; rfl) fun h' he => ?_
  have kk : Keeps s { s with heap := h' } := ⟨h', 0, rfl, fun b o e => he b o (Nat.ne_of_lt (Heap.lt_size e)) e⟩
  rw [ha]
  refine assignInOrder_cons (h1 N s₀ ρ _ v1 _ _ (F.keeps kk) (r1.kp (kpOf kk)) fun s₁ F₁ k₁ => ?_)
  have ks := (F.keeps kk).reps k₁
  refine assignInOrder_cons (h2 N s₀ _ _ v2 _ _ F₁ ((r2.kp (kpOf kk)).kps ks) fun s₂ F₂ k₂ => ?_)
  have ks2 := F₁.reps k₂
  refine assignInOrder_cons (h3 N s₀ _ _ v3 _ _ F₂ (((r3.kp (kpOf kk)).kps ks).kps ks2) fun s₃ F₃ k₃ => ?_)
  refine assignInOrder_nil (h s₃ ?_ (Run.trans (Run.of kk) (Run.trans k₁ (Run.trans k₂ k₃))))
  rw [List.append_assoc, List.append_assoc]; exact F₃
theorem asg_tup4 {t1 t2 t3 t4 : Expr} {k : Nat} {p : Pos} {d1 d2 d3 d4 : D} {β1 β2 β3 β4 : List (Str × D)} (hh : A.handled = none) (h1 : Asg prog w g A env oc t1 d1 β1) (h2 : Asg prog w g A env oc t2 d2 β2) (h3 : Asg prog w g A env oc t3 d3 β3) (h4 : Asg prog w g A env oc t4 d4 β4)
    (ha : ∀ env, assignEach [t1, t2, t3, t4] env = [(false, assign t1 env), (false, assign t2 env), (false, assign t3 env), (false, assign t4 env)] := by intro _; rfl) : Asg prog w g A env oc (.Tuple [t1, t2, t3, t4] k p) (.tup [d1, d2, d3, d4]) (β4 ++ (β3 ++ (β2 ++ β1))) := by
  intro N s₀ ρ s v Q E F r h
  obtain ⟨a, vs, rfl, na, ht, rv⟩ := r.tup_inv
  obtain ⟨v1, vs, rfl, r1, rv⟩ := rv.cons_inv
  obtain ⟨v2, vs, rfl, r2, rv⟩ := rv.cons_inv
  obtain ⟨v3, vs, rfl, r3, rv⟩ := rv.cons_inv
  obtain ⟨v4, vs, rfl, r4, rv⟩ := rv.cons_inv
  have := rv.nil_inv; subst this
  refine wpAny_assign_Tuple hh ht (by rw [ha]; rfl) (by rw [ha]; rfl) fun h' he => ?_
  have kk : Keeps s { s with heap := h' } := ⟨h', 0, rfl, fun b o e => he b o (Nat.ne_of_lt (Heap.lt_size e)) e⟩
  rw [ha]
  refine assignInOrder_cons (h1 N s₀ ρ _ v1 _ _ (F.keeps kk) (r1.kp (kpOf kk)) fun s₁ F₁ k₁ => ?_)
  have ks := (F.keeps kk).reps k₁
  refine assignInOrder_cons (h2 N s₀ _ _ v2 _ _ F₁ ((r2.kp (kpOf kk)).kps ks) fun s₂ F₂ k₂ => ?_)
  have ks2 := F₁.reps k₂
  refine assignInOrder_cons (h3 N s₀ _ _ v3 _ _ F₂ (((r3.kp (kpOf kk)).kps ks).kps ks2) fun s₃ F₃ k₃ => ?_)
  have ks3 := F₂.reps k₃
  refine assignInOrder_cons (h4 N s₀ _ _ v4 _ _ F₃ ((((r4.kp (kpOf kk)).kps ks).kps ks2).kps ks3) fun s₄ F₄ k₄ => ?_)
  refine assignInOrder_nil (h s₄ ?_ (Run.trans (Run.of kk) (Run.trans k₁ (Run.trans k₂ (Run.trans k₃ k₄)))))
  rw [List.append_assoc, List.append_assoc, List.append_assoc]; exact F₄

theorem listiter_go {tg : Expr} {I l : Addr} {i : Nat} {v : Value} {Q : Unit → Shared → Prop} {E : Value → Shared → Prop} {s : Shared} (hit : s.heap.IsListIter I l i) (hQ : Q () s) : wpAny (model prog w) A (letOwnedTupleGo tg (.ref I) v) Q E s := by
  have key : ∀ T, wpAny (model prog w) A (do
      let o ← load I
      match o.cls, o.data with
      | .type n, .fields vs =>
        if ["enumerate", "zip", "dict_itemiterator", "dict_reverseitemiterator", "odict_iterator", "itertools.zip_longest", "itertools.pairwise"].contains n && vs[0]? == some (rawInt T) then
          rule "for.unpacks-the-owned-tuple"
          updateField I 0 .none
      | _, _ => pure () : Sem Unit) Q E s := fun T => by
    obtain ⟨o, ho, hc, hd⟩ := hit
    refine wpAny_bind (wpAny_load ho ?_)
    rw [hc, hd]
    show wpAny _ A (if (["enumerate", "zip", "dict_itemiterator", "dict_reverseitemiterator", "odict_iterator", "itertools.zip_longest", "itertools.pairwise"].contains "list_iterator" && _) = true then _ else _) Q E s
    rw [if_neg (by
      intro h
      rw [show (["enumerate", "zip", "dict_itemiterator", "dict_reverseitemiterator", "odict_iterator", "itertools.zip_longest", "itertools.pairwise"].contains "list_iterator") = false from by decide, Bool.false_and] at h
      cases h)]
    exact wpAny_pure hQ
  cases tg <;> first | exact wpAny_pure hQ | (cases v <;> first | exact wpAny_pure hQ | exact key _)

theorem It.list (hh : A.handled = none) (tg : Expr) (I ax : Addr) (hne : ax ≠ I) (ds : List D) (vs : List Value) (hlen : vs.length = ds.length) :
    It prog w A tg I [I, ax] [I] ds ds vs (fun i h => h.IsListIter I ax i ∧ h.IsList ax vs.toArray) where
  sub := fun b hb => by simp at hb; simp [hb]
  kind := fun i h st b hb => by
    simp at hb
    rcases hb with rfl | rfl
    · obtain ⟨⟨o, ho, _, hd⟩, _⟩ := st; exact ⟨o, ho, .inl ⟨_, hd⟩⟩
    · obtain ⟨_, ⟨o, ho, _, n, hd⟩⟩ := st; exact ⟨o, ho, .inr ⟨_, n, hd⟩⟩
  frame := (Walks.list (prog := prog) (w := w) hh I ax hne vs.toArray).frame
  item := fun N i d s Q E hw hold hr hd st hQ => by
    obtain ⟨v, hv, rv⟩ := hr.get hd
    refine wpAny_pyNext_list_item st.1 st.2 (x := v) (by simpa using hv) fun h' hit' hs' => ⟨v, rfl, listiter_go hit' ?_⟩
    exact hQ v h' 0 (rv.kps fun b o nb _ e => hs'.extBut b o (fun q => nb (hw b (by simp [q]))) e) ⟨hit', st.2.extBut hs'.extBut hne⟩ fun b o hb e => hs'.extBut b o (fun h => hb (by simp [h])) e
  done := fun s Q E st hQ => wpAny_pyNext_list_end hh st.1 st.2 (by simp [hlen]) fun h' he' => hQ h' 0 fun b o hb e => he' b o (fun h => hb (by simp [h])) e
  self := fun i s Q E st hQ => wpAny_pyIter_listiter st.1 hQ

theorem It.range (hh : A.handled = none) (x : Str) (p : Pos) (I : Addr) (a : Int) (n : Nat) :
    It prog w A (.Name x p) I [I] [I] ((List.range n).map fun i => .int (a + (i : Nat))) [] [] (fun i h => IsRangeIter h I (a + (i : Nat) * 1) ((n : Int) - (i : Nat)) 1) where
  sub := fun b hb => hb
  kind := fun i h st b hb => by simp at hb; subst hb; exact ⟨_, st, .inl ⟨_, rfl⟩⟩
  frame := (Walks.range (prog := prog) (w := w) hh I a 1 n).frame
  item := fun N i d s Q E hw hold hr hd st hQ => by
    have hi : i < n := by
      rcases Nat.lt_or_ge i n with h | h
      · exact h
      · rw [List.getElem?_eq_none (by simpa using h)] at hd; cases hd
    refine wpAny_pyNext_range_item st (by omega) fun h' hit' hs' => ⟨_, rfl, wpAny_pure ?_⟩
    refine hQ _ h' 1 ?_ ?_ fun b o hb e => hs'.extBut b o (fun h => hb (by simp [h])) e
    · simp [hi] at hd
      subst hd
      have : a + (i : Int) * 1 = a + (i : Int) := by omega
      rw [this]; exact Rep.int _ _
    · have e1 : a + ((i + 1 : Nat) : Int) * 1 = a + (i : Int) * 1 + 1 := by push_cast; omega
      have e2 : (n : Int) - ((i + 1 : Nat) : Int) = (n : Int) - (i : Int) - 1 := by push_cast; omega
      rw [e1, e2]; exact hit'
  done := fun s Q E st hQ => wpAny_pyNext_range_end hh st (by simp) fun h' he' => hQ h' 0 fun b o hb e => he' b o (fun h => hb (by simp [h])) e
  self := (Walks.range (prog := prog) (w := w) hh I a 1 n).self

theorem src_list {e tg : Expr} {l : List D} (hh : A.handled = none) (h : Ev prog w g A env ρ e (.lst l)) : Src prog w g A env ρ e tg l := by
  intro N s V E Q hQ
  refine wpAny_mono (h N s V E) (fun v s₁ h₁ => ?_) fun _ _ x => x
  obtain ⟨a, vs, rfl, na, hl, r⟩ := h₁.1.lst_inv
  have hlt : a < s₁.heap.objs.size := by obtain ⟨o, ho, _⟩ := hl; exact Heap.lt_size ho
  have V₁ := V.keeps h₁.2
  refine wpAny_pyIter_list hl (hQ _ _ _ _ _ _ _ (ktrans h₁.2 (kpush _ _)) (It.list hh tg s₁.heap.objs.size a (Nat.ne_of_lt hlt) l vs r.length) ⟨⟨_, Heap.get?_push_size _ rfl, rfl, rfl⟩, hl.push _⟩ ?_ ?_ ?_)
  · intro b hb
    simp at hb; subst hb
    cases q : s.heap.get? s₁.heap.objs.size with
    | none => rfl
    | some o => exact absurd (Heap.lt_size (kpOf h₁.2 _ _ q)) (Nat.lt_irrefl _)
  · intro b nb hb
    simp at hb
    rcases hb with hb | hb
    · subst hb; exact V₁.old.new nb
    · subst hb; exact na nb
  · refine Reps.mono (N := N) (fun b o _ _ e => Heap.get?_push_of_some _ e) (fun b o nb e q => ?_) _ _ r
    rcases q with q | q
    · exact nb q
    · simp at q; subst q; exact absurd (Heap.lt_size e) (Nat.lt_irrefl _)
end
end Mine
end
-- part C6
section
open PySem PySem.W PyProof.Rows
set_option maxRecDepth 100000
set_option linter.unusedVariables false
namespace Mine

theorem lookup_append_none {β ρ : List (Str × D)} {x : Str} (h : β.lookup x = none) : (β ++ ρ).lookup x = ρ.lookup x := by
  induction β with
  | nil => rfl
  | cons q r ih =>
    obtain ⟨y, d⟩ := q
    rw [List.lookup_cons] at h
    show List.lookup x ((y, d) :: (r ++ ρ)) = _
    rw [List.lookup_cons]
    cases hb : x == y with
    | true => rw [hb] at h; cases h
    | false => rw [hb] at h; exact ih h
theorem lookup_none_of {β : List (Str × D)} {ns : List Str} (hb : β.map (·.1) = ns) {x : Str} (h : x ∉ ns) : β.lookup x = none := by
  subst hb
  induction β with
  | nil => rfl
  | cons q r ih =>
    obtain ⟨y, d⟩ := q
    simp only [List.map_cons, List.mem_cons, not_or] at h
    rw [List.lookup_cons, beq_eq_false_iff_ne.mpr h.1]
    exact ih h.2

/-- the turn of a comprehension's loop -/
def turnRest (tg : Expr) (ifs : List Expr) (c : Code) (cenv : Env) (inner : Sem Unit) (v : Value) : Sem Fin := do
  assign tg cenv v
  let mut ok := true
  for c in ifs do
    if ok then ok ← isTrue c cenv (eval c cenv)
  if ok then inner
  again c
def turnShape (tg : Expr) (ifs : List Expr) (p : Pos) (c : Code) (it : Value) (cenv : Env) (inner : Sem Unit) : Sem Fin := do
  standAt p
  match ← pyNext it with
  | none => pure (.done .next)
  | some v =>
    letOwnedTupleGo tg it v
    turnRest tg ifs c cenv inner v

section
variable (prog : Program) (w : World) (g : Heap)
def Tests (A : Around) (env : Env) (ρ : List (Str × D)) (ifs : List Expr) (b : Bool) : Prop :=
  ∀ N s, View g N env ρ s → ∀ E, wpAny (model prog w) A (forIn ifs true fun c r => if r = true then do let ok ← isTrue c env (eval c env); pure (ForInStep.yield ok) else pure (ForInStep.yield r)) (fun ok s' => ok = b ∧ Keeps s s') E s
/-- what is done at a turn that passes the tests: out goes onto the list at L -/
def Inn (A : Around) (N : Addr → Prop) (s₀ : Shared) (env : Env) (oc : List Addr) (L : Addr) (ρ : List (Str × D)) (inner : Sem Unit) (out : List D) : Prop :=
  ∀ s ys, Frm g N s₀ env oc ρ s → s.heap.PlainList L (List.toArray ys) → ys.length + out.length ≤ sizeLine → ∀ E,
    wpAny (model prog w) A inner (fun _ s' => ∃ zs, Frm g N s₀ env oc ρ s' ∧ Run (fun b => b = L ∨ Own env oc b) s s' ∧ s'.heap.PlainList L (ys ++ zs).toArray ∧ Reps N s'.heap out zs) E s
end

section
variable {prog : Program} {w : World} {g : Heap} {A : Around} {N : Addr → Prop} {env : Env} {oc : List Addr} {ρ : List (Str × D)} {s₀ s : Shared}

theorem tests_nil : Tests prog w g A env ρ [] true := fun N s _ E => wpAny_tests_nil ⟨rfl, krefl _⟩
theorem tests_one {t : Expr} {b : Bool} (h : Ts prog w g A env ρ t b) : Tests prog w g A env ρ [t] b := fun N s V E => wpAny_tests_one (h N s V E)

theorem turn_item {tg : Expr} {ifs : List Expr} {p : Pos} {c : Code} {inner : Sem Unit} {I : Addr} {fp wr : List Addr} {dts ds : List D} {vs : List Value} {St : Nat → Heap → Prop} {i : Nat} {d : D} {Q : Fin → Shared → Prop} {E : Value → Shared → Prop}
    (IT : It prog w A tg I fp wr dts ds vs St) (hwN : ∀ b ∈ wr, N b) (ho : Old N s) (hr : Reps N s.heap ds vs) (hd : dts[i]? = some d) (st : St i s.heap)
    (h : ∀ (v : Value) (h' : Heap) (tk : Nat), Rep N h' d v → St (i + 1) h' → (∀ b o, b ∉ wr → s.heap.get? b = some o → h'.get? b = some o) → wpAny (model prog w) A (turnRest tg ifs c env inner v) Q E { s with heap := h', toks := s.toks + tk }) :
    wpAny (model prog w) A (turnShape tg ifs p c (.ref I) env inner) Q E s := by
  unfold turnShape
  refine wpAny_bind (wpAny_standAt (wpAny_bind ?_))
  refine wpAny_mono (IT.item N i d s (fun v s' => wpAny (model prog w) A (turnRest tg ifs c env inner v) Q E s') E hwN ho hr hd st h) (fun r s' hr' => ?_) fun _ _ x => x
  obtain ⟨v, rfl, hv⟩ := hr'
  exact wpAny_bind hv
theorem turn_done {tg : Expr} {ifs : List Expr} {p : Pos} {c : Code} {inner : Sem Unit} {I : Addr} {fp wr : List Addr} {dts ds : List D} {vs : List Value} {St : Nat → Heap → Prop} {Q : Fin → Shared → Prop} {E : Value → Shared → Prop}
    (IT : It prog w A tg I fp wr dts ds vs St) (st : St dts.length s.heap) (h : ∀ (h' : Heap) (tk : Nat), (∀ b o, b ∉ wr → s.heap.get? b = some o → h'.get? b = some o) → Q (.done .next) { s with heap := h', toks := s.toks + tk }) :
    wpAny (model prog w) A (turnShape tg ifs p c (.ref I) env inner) Q E s := by
  unfold turnShape
  exact wpAny_bind (wpAny_standAt (wpAny_bind (IT.done s _ _ st fun h' tk k => wpAny_pure (h h' tk k))))

theorem comp_loop {R : Result → Shared → Prop} {e : Expr} {depth : Nat} {tg : Expr} {ifs : List Expr} {p : Pos} {inner : Sem Unit} {I L : Addr} {fp wr : List Addr} {dts ds : List D} {vs : List Value} {St : Nat → Heap → Prop} {β : D → List (Str × D)} {f : D → List D} {ns : List Str}
    (heq : ∀ A (Q : Fin → Shared → Prop) E s, wpAny (model prog w) A (turnShape tg ifs p (.compLoop e depth (.ref I) (.ref L) env) (.ref I) env inner) Q E s → wpAny (model prog w) A (compTurn e depth (.ref I) (.ref L) env) Q E s)
    (hfr : (Code.compLoop e depth (.ref I) (.ref L) env).isFrame = false)
    (hq : (Code.compLoop e depth (.ref I) (.ref L) env).quiet = true) (hu : ∀ A : Around, A.under (Code.compLoop e depth (.ref I) (.ref L) env) = A)
    (IT : It prog w A tg I fp wr dts ds vs St) (hwN : ∀ b ∈ wr, N b) (hwn : ∀ b ∈ wr, s₀.heap.get? b = none) (hL : N L) (hLn : s₀.heap.get? L = none) (hLf : L ∉ fp)
    (hβ : ∀ d ∈ dts, (β d).map (·.1) = ns) (hdis : ∀ x d, ρ.lookup x = some d → x ∉ ns)
    (hel : ∀ d ∈ dts, Asg prog w g A env oc tg d (β d) ∧ ∃ b, Tests prog w g A env (β d ++ ρ) ifs b ∧ (b = false → f d = []) ∧ (b = true → Inn prog w g A N s₀ env oc L (β d ++ ρ) inner (f d)))
    (F : Frm g N s₀ env oc ρ s) (hst : St 0 s.heap) (hr : Reps N s.heap ds vs) {ys : List Value} (hacc : s.heap.PlainList L ys.toArray) (hsz : ys.length + (dts.flatMap f).length ≤ sizeLine)
    (hR : ∀ s' zs, Frm g (fun b => N b ∧ b ∉ wr) s₀ env oc ρ s' → Run (fun b => b = L ∨ Own env oc b ∨ b ∈ wr) s s' → s'.heap.PlainList L (ys ++ zs).toArray → Reps (fun b => N b ∧ b ∉ wr) s'.heap (dts.flatMap f) zs → R (.ok .next) s') :
    codeAny (model prog w) A (.compLoop e depth (.ref I) (.ref L) env) R s := by
  refine codeAny_loop hq (fun n s' => ∃ i zs, n = dts.length - i ∧ i ≤ dts.length ∧ Frm g N s₀ env oc ρ s' ∧ St i s'.heap ∧ Reps N s'.heap ds vs ∧ Run (fun b => b = L ∨ Own env oc b ∨ b ∈ wr) s s' ∧ s'.heap.PlainList L (ys ++ zs).toArray ∧ Reps N s'.heap ((dts.take i).flatMap f) zs) ?_ dts.length ⟨0, [], by simp, Nat.zero_le _, F, hst, hr, Run.refl _ _, by simpa using hacc, by simpa using Reps.nil⟩
  rintro n s₁ ⟨i, zs, rfl, hi, F₁, st₁, r₁, k₁, a₁, o₁⟩
  rw [hu]
  show wpAny _ A (denote table (.compLoop e depth (.ref I) (.ref L) env)) _ _ s₁
  unfold denote
  simp only [hfr, Bool.false_eq_true, if_false]
  refine wpAny_noted (heq _ _ _ _ ?_)
  by_cases hlt : i < dts.length
  · obtain ⟨d, hd⟩ : ∃ d, dts[i]? = some d := ⟨dts[i], List.getElem?_eq_getElem hlt⟩
    have hmem : d ∈ dts := List.mem_of_getElem? hd
    obtain ⟨has, b, htst, hb0, hb1⟩ := hel d hmem
    refine turn_item IT hwN F₁.view.old r₁ hd st₁ fun v h₂ tk₂ rv st₂ kk => ?_
    have run₂ : Run (fun b => b ∈ wr) s₁ { s₁ with heap := h₂, toks := s₁.toks + tk₂ } := ⟨h₂, tk₂, rfl, fun b o nb e => kk b o nb e⟩
    have old₂ : Old N { s₁ with heap := h₂, toks := s₁.toks + tk₂ } := ⟨fun a na => by
      by_cases hw : a ∈ wr
      · obtain ⟨o, ho, _⟩ := IT.kind _ _ st₂ a (IT.sub a hw); exact ⟨o, ho⟩
      · obtain ⟨o, ho⟩ := F₁.view.old.1 a na; exact ⟨o, kk a o hw ho⟩, Nat.lt_of_lt_of_le F₁.view.old.2 (Nat.le_add_right _ _)⟩
    have F₂ : Frm g N s₀ env oc ρ { s₁ with heap := h₂, toks := s₁.toks + tk₂ } := F₁.mut run₂ (fun b hb => ⟨hwn b hb, hwN b hb, fun o ho => by
      obtain ⟨o', ho', hf⟩ := IT.kind _ _ st₁ b (IT.sub b hb)
      rw [ho] at ho'; cases ho'; exact hf⟩) old₂
    have ks₂ : KpS N s₁.heap h₂ := fun b o nb _ e => kk b o (fun q => nb (hwN b q)) e
    have fpOwn : ∀ (s' : Shared), Frm g N s₀ env oc ρ s' → ∀ j, St j s'.heap → ∀ b ∈ fp, ¬ Own env oc b := fun s' F' j st b hb => F'.notFS fun o ho => by
      obtain ⟨o', ho', hf⟩ := IT.kind _ _ st b hb
      rw [ho] at ho'; cases ho'; exact hf
    unfold turnRest
    refine wpAny_bind (has N s₀ ρ _ v _ _ F₂ rv fun s₃ F₃ k₃ => ?_)
    refine wpAny_bind (wpAny_mono (htst N s₃ F₃.view _) (fun ok s₄ h₄ => ?_) fun _ _ x => x)
    obtain ⟨rfl, k₄⟩ := h₄
    have F₄ := F₃.keeps k₄
    have k₂₄ : Run (Own env oc) { s₁ with heap := h₂, toks := s₁.toks + tk₂ } s₄ := Run.trans k₃ (Run.of k₄)
    have st₄ : St (i + 1) s₄.heap := IT.frame _ _ _ st₂ fun b hb o e => k₂₄.kp (fpOwn _ F₂ _ st₂ b hb) e
    have ks₄ : KpS N h₂ s₄.heap := F₂.reps k₂₄
    have hLown : ¬ Own env oc L := by
      obtain ⟨nn, e⟩ := id a₁
      exact F₁.notSeq e ⟨_, _, rfl⟩
    have hLwr : L ∉ wr := fun q => hLf (IT.sub L q)
    have a₄ : s₄.heap.PlainList L (ys ++ zs).toArray := a₁.at fun o e => k₂₄.kp hLown (kk L o hLwr e)
    have back : ∀ (s' : Shared), Frm g N s₀ env oc (β d ++ ρ) s' → Frm g N s₀ env oc ρ s' := fun s' F' => F'.sub fun x d' e => by
      rw [lookup_append_none (lookup_none_of (hβ d hmem) (hdis x d' e))]; exact e
    have tk : (dts.take (i + 1)).flatMap f = (dts.take i).flatMap f ++ f d := by
      rw [List.take_add_one, hd]; simp
    have r04 : Run (fun b => b = L ∨ Own env oc b ∨ b ∈ wr) s s₄ := Run.trans k₁ (Run.trans (run₂.mono fun b q => .inr (.inr q)) (k₂₄.mono fun b q => .inr (.inl q)))
    cases ok with
    | false =>
      simp only [Bool.false_eq_true, if_false]
      refine wpAny_pure ⟨rfl, dts.length - (i + 1), by omega, i + 1, zs, rfl, hlt, back _ F₄, st₄, (r₁.kps ks₂).kps ks₄, r04, a₄, ?_⟩
      rw [tk, hb0 rfl, List.append_nil]
      exact (o₁.kps ks₂).kps ks₄
    | true =>
      simp only [if_true]
      have hlen : (ys ++ zs).length + (f d).length ≤ sizeLine := by
        have e1 := o₁.length
        have e2 : ((dts.take (i + 1)).flatMap f).length ≤ (dts.flatMap f).length := by
          conv => rhs; rw [← List.take_append_drop (i + 1) dts, List.flatMap_append, List.length_append]
          omega
        rw [tk, List.length_append] at e2
        rw [List.length_append, e1]; omega
      refine wpAny_bind (wpAny_mono (hb1 rfl s₄ (ys ++ zs) F₄ a₄ hlen _) (fun _ s₅ h₅ => ?_) fun _ _ x => x)
      obtain ⟨us, F₅, k₅, a₅, o₅⟩ := h₅
      have ks₅ : KpS N s₄.heap s₅.heap := fun b o nb hs e => k₅.kp (fun q => by
        rcases q with rfl | q
        · exact nb hL
        · exact F₄.notSeq e hs q) e
      refine wpAny_pure ⟨rfl, dts.length - (i + 1), by omega, i + 1, zs ++ us, rfl, hlt, back _ F₅, ?_, ((r₁.kps ks₂).kps ks₄).kps ks₅, Run.trans r04 (k₅.mono fun b q => q.elim .inl fun q => .inr (.inl q)), by rw [← List.append_assoc]; exact a₅, ?_⟩
      · refine IT.frame _ _ _ st₄ fun b hb o e => k₅.kp (fun q => ?_) e
        rcases q with rfl | q
        · exact hLf hb
        · exact fpOwn _ (back _ F₄) _ st₄ b hb q
      · rw [tk]; exact Reps.append (((o₁.kps ks₂).kps ks₄).kps ks₅) o₅
  · have hin : i = dts.length := by omega
    subst hin
    refine turn_done IT st₁ fun h₂ tk₂ kk => ?_
    have run₂ : Run (fun b => b ∈ wr) s₁ { s₁ with heap := h₂, toks := s₁.toks + tk₂ } := ⟨h₂, tk₂, rfl, fun b o nb e => kk b o nb e⟩
    have hLwr : L ∉ wr := fun q => hLf (IT.sub L q)
    have ks₂ : KpS N s₁.heap h₂ := fun b o nb _ e => kk b o (fun q => nb (hwN b q)) e
    refine hR _ zs (F₁.mut' run₂ (fun b hb => ⟨hwn b hb, hwN b hb, fun o ho => by
      obtain ⟨o', ho', hf⟩ := IT.kind _ _ st₁ b (IT.sub b hb)
      rw [ho] at ho'; cases ho'; exact hf⟩) (fun b q => q.1) ⟨fun a na => by
        obtain ⟨o, ho⟩ := F₁.view.old.1 a na.1; exact ⟨o, kk a o na.2 ho⟩, Nat.lt_of_lt_of_le F₁.view.old.2 (Nat.le_add_right _ _)⟩)
      (Run.trans k₁ (run₂.mono fun b q => .inr (.inr q))) (a₁.at fun o e => kk L o hLwr e) ?_
    rw [List.take_length] at o₁
    exact Reps.less (o₁.kps ks₂) fun b q => q.1
end
end Mine
end
-- part C7
section
open PySem PySem.W PyProof.Rows
set_option maxRecDepth 100000
set_option linter.unusedVariables false
namespace Mine

section
variable {prog : Program} {w : World} {g : Heap} {A : Around} {N : Addr → Prop} {env : Env} {oc : List Addr} {ρ : List (Str × D)} {s₀ s : Shared} {E : Value → Shared → Prop}

/-- the element goes onto the list -/
theorem inn_emit {elt : Expr} {L : Addr} {o : D} (hL : N L) (hLn : s₀.heap.get? L = none) (h : Ev prog w g A env ρ elt o) :
    Inn prog w g A N s₀ env oc L ρ (do let _ ← call (.builtin "list.append") [.ref L, ← eval elt env]) [o] := by
  intro s ys F ha hsz E
  refine wpAny_bind (wpAny_mono (h N s F.view E) (fun v s₁ h₁ => ?_) fun _ _ x => x)
  have F₁ := F.keeps h₁.2
  have a₁ : s₁.heap.PlainList L ys.toArray := ha.at fun o e => kpOf h₁.2 _ o e
  have hz : ys.toArray.size ≤ sizeLine := by rw [List.size_toArray]; simp at hsz; omega
  refine wpAny_bind (wpAny_list_append_plain (hsz := hz) a₁ fun h₂ hl₂ hs₂ => wpAny_pure ?_)
  have run : Run (fun b => b = L) s₁ { s₁ with heap := h₂ } := ⟨h₂, 0, rfl, fun b o nb e => hs₂.extBut b o nb e⟩
  have ks : KpS N s₁.heap h₂ := fun b o nb _ e => hs₂.extBut b o (fun q => nb (q ▸ hL)) e
  refine ⟨[v], F₁.mut run (fun b hb => ⟨hb ▸ hLn, hb ▸ hL, fun o ho => ?_⟩) ⟨fun a na => ?_, F₁.view.old.2⟩, Run.trans (Run.of h₁.2) (run.mono fun b q => .inl q), ?_, Reps.one (h₁.1.kps ks)⟩
  · subst hb
    obtain ⟨n, e⟩ := a₁
    rw [ho] at e; cases e
    exact .inr ⟨_, _, rfl⟩
  · by_cases hq : a = L
    · subst hq; obtain ⟨n, e⟩ := hl₂; exact ⟨_, e⟩
    · obtain ⟨o, ho⟩ := F₁.view.old.1 a na
      exact ⟨o, hs₂.extBut a o hq ho⟩
  · simpa using hl₂

def relabelN (names snames : List (Str × NameKind)) : List (Str × NameKind) := snames.map fun q => if q.2 == .free && names.lookup q.1 == some .cell then (q.1, .cell) else q

theorem lookup_relabelN (names : List (Str × NameKind)) : ∀ (l : List (Str × NameKind)) (x : Str), (relabelN names l).lookup x = (l.lookup x).map fun k => if k == .free && names.lookup x == some .cell then .cell else k
  | [], _ => rfl
  | (n, k) :: r, x => by
    have ih := lookup_relabelN names r x
    have e : relabelN names ((n, k) :: r) = (n, if k == .free && names.lookup n == some .cell then .cell else k) :: relabelN names r := by
      show (if (k == .free && names.lookup n == some .cell) = true then (n, NameKind.cell) else (n, k)) :: relabelN names r = _
      by_cases hc : (k == .free && names.lookup n == some .cell) = true
      · rw [if_pos hc, if_pos hc]
      · rw [if_neg hc, if_neg hc]
    rw [e, List.lookup_cons, List.lookup_cons]
    cases hx : x == n with
    | true =>
      have := beq_iff_eq.mp hx; subst this
      rfl
    | false => exact ih

theorem cellsFrom_append : ∀ (l : List (Str × NameKind)) (n : Nat) (acc acc' : List (Str × Addr)), cellsFrom n l (acc ++ acc') = cellsFrom n l acc ++ acc'
  | [], _, _, _ => rfl
  | (x, k) :: r, n, acc, acc' => by
    unfold cellsFrom
    split
    · exact cellsFrom_append r (n + 1) ((x, n) :: acc) acc'
    · exact cellsFrom_append r n acc acc'
theorem cellsFrom_lookup_none {x : Str} : ∀ (l : List (Str × NameKind)) (n : Nat) (acc : List (Str × Addr)), (∀ q ∈ l, q.2 = .cell → q.1 ≠ x) → acc.lookup x = none → (cellsFrom n l acc).lookup x = none
  | [], _, _, _, h => h
  | (y, k) :: r, n, acc, hl, h => by
    unfold cellsFrom
    split
    · rename_i hk
      refine cellsFrom_lookup_none r (n + 1) _ (fun q hq => hl q (List.mem_cons_of_mem _ hq)) ?_
      rw [List.lookup_cons, beq_eq_false_iff_ne.mpr (Ne.symm (hl (y, k) (by simp) (by simpa using hk)))]; exact h
    · exact cellsFrom_lookup_none r n acc (fun q hq => hl q (List.mem_cons_of_mem _ hq)) h
theorem lookup_append_none' {β ρ : List (Str × Addr)} {x : Str} (h : β.lookup x = none) : (β ++ ρ).lookup x = ρ.lookup x := by
  induction β with
  | nil => rfl
  | cons q r ih =>
    obtain ⟨y, d⟩ := q
    rw [List.lookup_cons] at h
    show List.lookup x ((y, d) :: (r ++ ρ)) = _
    rw [List.lookup_cons]
    cases hb : x == y with
    | true => rw [hb] at h; cases h
    | false => rw [hb] at h; exact ih h
theorem lookup_append_some' {β ρ : List (Str × Addr)} {x : Str} {c : Addr} (h : β.lookup x = some c) : (β ++ ρ).lookup x = some c := by
  induction β with
  | nil => cases h
  | cons q r ih =>
    obtain ⟨y, d⟩ := q
    rw [List.lookup_cons] at h
    show List.lookup x ((y, d) :: (r ++ ρ)) = _
    rw [List.lookup_cons]
    cases hb : x == y with
    | true => rw [hb] at h; exact h
    | false => rw [hb] at h; exact ih h

/-- the cells that a comprehension's free names find -/
theorem closure_at {scope : Scope} (h : ∀ q ∈ scope.names, q.2 = .free → (env.cells.lookup q.1).isSome = true) :
    ∃ cl, closureFor scope env = pure cl ∧ (∀ n c, (n, c) ∈ cl → env.cells.lookup n = some c) ∧ ∀ q ∈ scope.names, q.2 = .free → cl.lookup q.1 = env.cells.lookup q.1 := by
  have main : ∀ (l : List (Str × NameKind)) (acc : List (Str × Addr)), (∀ q ∈ l, q.2 = .free → (env.cells.lookup q.1).isSome = true) → (∀ n c, (n, c) ∈ acc → env.cells.lookup n = some c) →
      ∃ cl, (forIn l acc fun (x : Str × NameKind) (r : List (Str × Addr)) => if (x.2 == NameKind.free) = true then do let a ← cellOf env x.1; pure (ForInStep.yield ((x.1, a) :: r)) else pure (ForInStep.yield r) : Sem (List (Str × Addr))) = pure cl ∧
        (∀ n c, (n, c) ∈ cl → env.cells.lookup n = some c) ∧ (∀ x, x ∈ acc.map (·.1) → x ∈ cl.map (·.1)) ∧ ∀ q ∈ l, q.2 = .free → q.1 ∈ cl.map (·.1) := by
    intro l
    induction l with
    | nil => intro acc _ ha; exact ⟨acc, rfl, ha, fun _ q => q, fun q hq => nomatch hq⟩
    | cons q r ih =>
      intro acc hl ha
      obtain ⟨x, k⟩ := q
      rw [List.forIn_cons]
      by_cases hk : (k == NameKind.free) = true
      · obtain ⟨c, hc⟩ := Option.isSome_iff_exists.mp (hl (x, k) (by simp) (by simpa using hk))
        obtain ⟨cl, e, h1, h2, h3⟩ := ih ((x, c) :: acc) (fun q hq => hl q (List.mem_cons_of_mem _ hq)) (fun n c' hm => by
          rcases List.mem_cons.mp hm with q | q
          · cases q; exact hc
          · exact ha n c' q)
        refine ⟨cl, ?_, h1, fun y hy => h2 y (by simp at hy ⊢; exact .inr hy), fun q hq hf => ?_⟩
        · rw [if_pos hk]
          have : cellOf env x = pure c := by unfold cellOf; rw [hc]
          rw [this]; exact e
        · rcases List.mem_cons.mp hq with q | q
          · subst q; exact h2 _ (by simp)
          · exact h3 _ q hf
      · obtain ⟨cl, e, h1, h2, h3⟩ := ih acc (fun q hq => hl q (List.mem_cons_of_mem _ hq)) ha
        refine ⟨cl, ?_, h1, h2, fun q hq hf => ?_⟩
        · rw [if_neg hk]; exact e
        · rcases List.mem_cons.mp hq with q | q
          · subst q; exact absurd (by simpa using hf) hk
          · exact h3 _ q hf
  obtain ⟨cl, e, h1, _, h3⟩ := main scope.names [] h (fun _ _ q => nomatch q)
  refine ⟨cl, ?_, h1, fun q hq hf => ?_⟩
  · unfold closureFor
    show (forIn scope.names ([] : List (Str × Addr)) _ >>= _) = _
    refine Eq.trans (congrArg (fun (m : Sem (List (Str × Addr))) => m >>= fun r => pure r) e) rfl
  · have hm := h3 q hq hf
    have : ∀ (l : List (Str × Addr)), (∀ n c, (n, c) ∈ l → env.cells.lookup n = some c) → q.1 ∈ l.map (·.1) → l.lookup q.1 = env.cells.lookup q.1 := by
      intro l
      induction l with
      | nil => intro _ h; simp at h
      | cons p r ih =>
        intro hl hx
        obtain ⟨y, c⟩ := p
        rw [List.lookup_cons]
        cases hb : q.1 == y with
        | true => have := beq_iff_eq.mp hb; rw [this]; exact (hl y c (by simp)).symm
        | false =>
          refine ih (fun n c hm => hl n c (List.mem_cons_of_mem _ hm)) ?_
          simp only [List.map_cons, List.mem_cons] at hx
          rcases hx with e | e
          · rw [e] at hb; simp at hb
          · exact e
    exact this cl h1 hm
end
end Mine
end
-- part C8
section
open PySem PySem.W PyProof.Rows
set_option maxRecDepth 100000
set_option linter.unusedVariables false
namespace Mine

section
variable {prog : Program} {w : World} {g : Heap} {A : Around} {N : Addr → Prop} {env : Env} {oc : List Addr} {ρ : List (Str × D)} {s₀ s : Shared} {E : Value → Shared → Prop}

def cEnv (scope : Scope) (cl : List (Str × Addr)) (L : Addr) (env : Env) : Env :=
  { scope := relabel scope env, locals := L, globals := env.globals, cells := cellsFrom (L + 1) scope.names cl, qual := env.qual, func := none, code := env.code, frame := env.frame, builtins := env.builtins }

theorem newEnv_comp {scope : Scope} {cl : List (Str × Addr)} {Q : Env → Shared → Prop}
    (h : Q { scope := scope, locals := s.heap.objs.size, globals := env.globals, cells := cellsFrom (s.heap.objs.size + 1) scope.names cl, qual := env.qual, func := none, code := env.code, frame := env.frame, builtins := env.builtins }
      { s with heap := pushCells (s.heap.push { cls := .type "dict", data := .dict #[] }) scope.names }) :
    wpAny (model prog w) A (newFunctionEnv scope env.globals cl [] env.qual none .none (some env)) Q E s := by
  simp only [newFunctionEnv, Option.isSome_some, if_true]
  refine wpAny_bind (wpAny_alloc ?_)
  refine wpAny_bind (wpAny_layCells _ (fun name kind cells => by cases hkc : kind == NameKind.cell <;> simp [hkc]) _ _ _ _ ?_)
  rw [show ({ s with heap := s.heap.push { cls := .type "dict", data := .dict #[] } } : Shared).heap.objs.size = s.heap.objs.size + 1 from Heap.size_push ..]
  exact wpAny_bind (wpAny_pure (wpAny_pure h))

theorem pushCells_size : ∀ (l : List (Str × NameKind)) (h : Heap), h.objs.size ≤ (pushCells h l).objs.size
  | [], _ => Nat.le_refl _
  | (_, k) :: r, h => by
    unfold pushCells
    split
    · exact Nat.le_trans (by rw [Heap.size_push]; omega) (pushCells_size r _)
    · exact pushCells_size r h

def freeOf (scope : Scope) (ρ : List (Str × D)) : List (Str × D) := ρ.filter fun q => scope.names.lookup q.1 == some .free
theorem lookup_filter {f : Str → Bool} : ∀ (ρ : List (Str × D)) (x : Str) (d : D), (ρ.filter fun q => f q.1).lookup x = some d → ρ.lookup x = some d ∧ f x = true
  | [], _, _, h => by cases h
  | (y, e) :: r, x, d, h => by
    rw [List.filter_cons] at h
    by_cases hf : f y = true
    · simp only [hf, if_true] at h
      rw [List.lookup_cons] at h ⊢
      cases hb : x == y with
      | true => rw [hb] at h; have := beq_iff_eq.mp hb; subst this; exact ⟨h, hf⟩
      | false => rw [hb] at h; exact lookup_filter r x d h
    · have hf' : f y = false := by simpa using hf
      simp only [hf', Bool.false_eq_true, if_false] at h
      have := lookup_filter r x d h
      rw [List.lookup_cons]
      cases hb : x == y with
      | true => have e := beq_iff_eq.mp hb; subst e; rw [hf'] at this; exact absurd this.2 (by simp)
      | false => exact this

/-- the comprehension's scope is a plain one -/
structure ScOk (names : List (Str × NameKind)) (scope : Scope) : Prop where
  kind : scope.kind = .function
  nd : (scope.names.map (·.1)).Nodup
  fr : (scope.names.all fun q => q.2 != .free || names.lookup q.1 == some .cell) = true
  cls : (scope.names.all fun q => q.1 != ("__classdict__" : Str)) = true

theorem lookup_of_mem : ∀ {l : List (Str × NameKind)} {x : Str} {k : NameKind}, (l.map (·.1)).Nodup → (x, k) ∈ l → l.lookup x = some k
  | (y, c) :: r, x, k, hn, h => by
    rw [List.map_cons, List.nodup_cons] at hn
    rw [List.lookup_cons]
    rcases List.mem_cons.mp h with h' | h'
    · cases h'; simp
    · have hne : (x == y) = false := by
        rw [beq_eq_false_iff_ne]; rintro rfl
        exact hn.1 (List.mem_map.mpr ⟨(x, k), h', rfl⟩)
      rw [hne]; exact lookup_of_mem hn.2 h'
theorem mem_of_lookupK : ∀ {l : List (Str × NameKind)} {x : Str} {k : NameKind}, l.lookup x = some k → (x, k) ∈ l := fun h => mem_of_lookup h

/-- a comprehension: its frame is made, its loop is run -/
theorem comp_core {names onames : List (Str × NameKind)} {use : Option (Value → Sem Unit)} {Q : Value → Shared → Prop} {elt tg iter : Expr} {ifs : List Expr} {more : List Comprehension} {scope : Scope} {pos p : Pos} {dts : List D} {β : D → List (Str × D)} {f : D → List D} {ns : List Str} {inner : Env → Addr → Sem Unit}
    (hEF : EF env oc names onames) (hsc : ScOk names scope) (V : View g N env ρ s) (hsrc : Src prog w g A env ρ iter tg dts) (hfold : ∀ x, foldedSetIterable iter env x = pure x)
    (hturn : ∀ cenv it acc A (Q : Fin → Shared → Prop) E s, wpAny (model prog w) A (turnShape tg ifs p (.compLoop (.ListComp elt (⟨tg, iter, ifs, 0⟩ :: more) scope pos) 0 it (.ref acc) cenv) it cenv (inner cenv acc)) Q E s → wpAny (model prog w) A (compTurn (.ListComp elt (⟨tg, iter, ifs, 0⟩ :: more) scope pos) 0 it (.ref acc) cenv) Q E s)
    (hβ : ∀ d ∈ dts, (β d).map (·.1) = ns) (hdis : ((freeOf scope ρ).all fun q => !ns.contains q.1) = true) (hz : (dts.flatMap f).length ≤ sizeLine)
    (hel : ∀ N' s₀ cenv oc' L, N' L → s₀.heap.get? L = none → (∀ b, N b → N' b) → EF cenv oc' (relabelN names scope.names) scope.names → ∀ d ∈ dts, Asg prog w g A cenv oc' tg d (β d) ∧ ∃ b, Tests prog w g A cenv (β d ++ freeOf scope ρ) ifs b ∧ (b = false → f d = []) ∧ (b = true → Inn prog w g A N' s₀ cenv oc' L (β d ++ freeOf scope ρ) (inner cenv L) (f d)))
    (hfin : ∀ L C s' zs, s.heap.get? L = none → s.heap.get? C = none → C ≠ L → Keeps s s' → (∃ m, s'.heap.Ns C m) → s'.heap.PlainList L (List.toArray zs) → Reps N s'.heap (dts.flatMap f) zs → ¬ N L → compPost (model prog w) A E use Q (.ref L) C (.ok .next) s') :
    wpAny (model prog w) A (comprehension (.ListComp elt (⟨tg, iter, ifs, 0⟩ :: more) scope pos) scope env (firstIterPos (⟨tg, iter, ifs, 0⟩ :: more) pos) (newList []) false (eval iter env) use) Q E s := by
  have hfr : ∀ x, scope.names.lookup x = some .free → names.lookup x = some .cell := fun x hx => by
    have := List.all_eq_true.mp hsc.fr _ (mem_of_lookupK hx)
    simpa using this
  obtain ⟨cl, hcl, hcl1, hcl2⟩ := closure_at (env := env) (scope := scope) fun q hq hf => hEF.cl q.1 (hfr q.1 (by obtain ⟨x, k⟩ := q; simp only at hf; subst hf; exact lookup_of_mem hsc.nd hq))
  refine wpAny_comprehension_free (cl := cl) (g := ⟨tg, iter, ifs, 0⟩) (gs := more) rfl hfold hcl hsc.kind (fun q hq hl => by obtain ⟨x, k⟩ := q; simp only at hl; subst hl; exact lookup_of_mem hsc.nd hq) ?_
  refine hsrc N s V E _ fun s₁ I fp wr ds vs St k₁ IT st₁ hwn hNw r₁ => ?_
  refine wpAny_newObj_type ?_ (by show (#[] : Array Value).size ≤ sizeLine; exact Nat.zero_le _)
  refine newEnv_comp ?_
  -- the addresses
  generalize hL : s₁.heap.objs.size = L
  have hL1 : (s₁.heap.push { cls := .type "list", data := .seq ([] : List Value).toArray }).objs.size = L + 1 := by rw [Heap.size_push, hL]
  generalize hH : s₁.heap.push { cls := .type "list", data := .seq ([] : List Value).toArray } = H at hL1
  simp only [hL1]
  generalize hH2 : pushCells (H.push { cls := .type "dict", data := .dict #[] }) scope.names = H2
  have up1 : Kp s₁.heap H := fun b o e => hH ▸ Heap.get?_push_of_some _ e
  have up2 : Kp H H2 := fun b o e => hH2 ▸ pushCells_keeps _ _ b o (Heap.get?_push_of_some _ e)
  have kk : Keeps s { s₁ with heap := H2 } := ktrans k₁ ⟨H2, 0, rfl, up1.trans up2⟩
  have newL : ∀ b, L ≤ b → s₁.heap.get? b = none := fun b hb => Heap.get?_none_of_le (hL ▸ hb)
  have newS : ∀ b, L ≤ b → s.heap.get? b = none := fun b hb => by
    cases q : s.heap.get? b with
    | none => rfl
    | some o => have := kpOf k₁ b o q; rw [newL b hb] at this; cases this
  have hLH : H.get? L = some { cls := .type "list", data := .seq ([] : List Value).toArray } := by rw [← hH, ← hL]; exact Heap.get?_push_size _ rfl
  have hCH : (H.push { cls := .type "dict", data := .dict #[] }).Ns (L + 1) fun _ => none := by rw [← hL1]; exact Heap.Ns.new H (.type "dict")
  have cok := cellsFrom_ok scope.names (H.push { cls := .type "dict", data := .dict #[] }) (L + 2) [] ⟨fun _ _ hm => (nomatch hm), List.Pairwise.nil⟩ (by rw [Heap.size_push, hL1]; exact Nat.le_refl _)
  rw [Heap.size_push, hL1, hH2] at cok
  have hcells : cellsFrom (L + 1 + 1) scope.names cl = cellsFrom (L + 1 + 1) scope.names [] ++ cl := cellsFrom_append scope.names (L + 1 + 1) [] cl
  have hcs : ∀ x, scope.names.lookup x ≠ some .cell → (cellsFrom (L + 1 + 1) scope.names []).lookup x = none := fun x hx => cellsFrom_lookup_none _ _ _ (fun q hq hc e => hx (by obtain ⟨y, k⟩ := q; simp only at hc e; subst hc e; exact lookup_of_mem hsc.nd hq)) rfl
  -- forbidden addresses
  have hLfp : L ∉ fp := fun q => by
    obtain ⟨o, ho, _⟩ := IT.kind _ _ st₁ L q
    rw [newL L (Nat.le_refl _)] at ho; cases ho
  have hkd : ∀ x, (cEnv scope cl (L + 1) env).kindOf x = (relabelN names scope.names).lookup x := fun x => by
    show (relabel scope env).names.lookup x = _
    congr 1
    unfold relabel relabelN
    refine List.map_congr_left fun q _ => ?_
    obtain ⟨n, k⟩ := q
    simp only [V.fn, hEF.kd, beq_self_eq_true, Bool.and_true]
  have own1 : ∀ x, scope.names.lookup x = some .cell → ∃ c ∈ (cellsFrom (L + 1 + 1) scope.names []).map (·.2), (cEnv scope cl (L + 1) env).cells.lookup x = some c := fun x hx => by
    obtain ⟨c, hc⟩ := Option.isSome_iff_exists.mp (cellsFrom_some scope.names (L + 1 + 1) [] (.inl hx))
    refine ⟨c, List.mem_map.mpr ⟨(x, c), mem_of_lookup hc, rfl⟩, ?_⟩
    show (cellsFrom (L + 1 + 1) scope.names cl).lookup x = _
    rw [hcells]; exact lookup_append_some' hc
  have free1 : ∀ x, scope.names.lookup x = some .free → (cEnv scope cl (L + 1) env).cells.lookup x = env.cells.lookup x := fun x hx => by
    show (cellsFrom (L + 1 + 1) scope.names cl).lookup x = _
    rw [hcells, lookup_append_none' (hcs x (by rw [hx]; decide))]
    exact hcl2 (x, .free) (mem_of_lookupK hx) rfl
  have hEF' : EF (cEnv scope cl (L + 1) env) ((cellsFrom (L + 1 + 1) scope.names []).map (·.2)) (relabelN names scope.names) scope.names := by
    refine ⟨hkd, fun x hx => ?_, own1⟩
    rw [lookup_relabelN] at hx
    cases hq : scope.names.lookup x with
    | none => rw [hq] at hx; cases hx
    | some k =>
      rw [hq] at hx
      simp only [Option.map_some, Option.some.injEq] at hx
      by_cases hc : (k == .free && names.lookup x == some .cell) = true
      · have hkf : k = .free := by
          have := (Bool.and_eq_true_iff.mp hc).1; simpa using this
        subst hkf
        rw [free1 x hq]
        exact hEF.cl x (hfr x hq)
      · rw [if_neg hc] at hx
        subst hx
        obtain ⟨c, _, e⟩ := own1 x hq
        rw [e]; rfl
  have hNN : ∀ b, N b → (s₁.heap.get? b).isSome = true := fun b nb => by
    obtain ⟨o, ho⟩ := (V.keeps k₁).old.1 b nb; rw [ho]; rfl
  have old' : Old (fun b => (N b ∨ b ∈ wr) ∨ b = L) { s₁ with heap := H2 } := by
    refine ⟨?_, (V.keeps k₁).old.2⟩
    rintro a ((na | hw) | rfl)
    · obtain ⟨o, ho⟩ := (V.keeps k₁).old.1 a na; exact ⟨o, (up1.trans up2) a o ho⟩
    · obtain ⟨o, ho, _⟩ := IT.kind _ _ st₁ a (IT.sub a hw); exact ⟨o, (up1.trans up2) a o ho⟩
    · exact ⟨_, up2 _ _ hLH⟩
  have F : Frm g (fun b => (N b ∨ b ∈ wr) ∨ b = L) s (cEnv scope cl (L + 1) env) ((cellsFrom (L + 1 + 1) scope.names []).map (·.2)) (freeOf scope ρ) { s₁ with heap := H2 } := by
    refine ⟨kk, ⟨_, (hH2 ▸ hCH.keeps (pushCells_keeps _ _) : H2.Ns (L + 1) fun _ => none)⟩, newS _ (Nat.le_succ _), fun c hc => ?_, fun n n' c hc e e' => ?_, V.base, V.base.trans (kpOf kk), old', hsc.kind, V.gl, V.bu, fun n c e => ?_, fun x d e => ?_⟩
    · obtain ⟨q, hq, rfl⟩ := List.mem_map.mp hc
      have := cok.empty q.1 q.2 hq
      exact ⟨⟨_, this.1⟩, newS _ (by omega)⟩
    · obtain ⟨q, hq, rfl⟩ := List.mem_map.mp hc
      have hlo := (cok.empty q.1 q.2 hq).2
      have inOwn : ∀ n, (cEnv scope cl (L + 1) env).cells.lookup n = some q.2 → (n, q.2) ∈ cellsFrom (L + 1 + 1) scope.names [] := fun n e => by
        have hm := mem_of_lookup e
        have hm' : (n, q.2) ∈ cellsFrom (L + 1 + 1) scope.names [] ++ cl := hcells ▸ hm
        rcases List.mem_append.mp hm' with h | h
        · exact h
        · exfalso
          obtain ⟨u, o, ho, _⟩ := V.cex n q.2 (hcl1 n q.2 h)
          rw [newS q.2 (by omega)] at ho; cases ho
      exact name_of_addr cok.apart (inOwn n e) (inOwn n' e')
    · have hm := mem_of_lookup e
      have hm' : (n, c) ∈ cellsFrom (L + 1 + 1) scope.names [] ++ cl := hcells ▸ hm
      rcases List.mem_append.mp hm' with h | h
      · exact ⟨_, (cok.empty n c h).1⟩
      · obtain ⟨u, hu⟩ := V.cex n c (hcl1 n c h)
        exact ⟨u, hu.keeps (kpOf kk)⟩
    · obtain ⟨e1, e2⟩ := lookup_filter (f := fun y => scope.names.lookup y == some .free) ρ x d e
      have hxf : scope.names.lookup x = some .free := by simpa using e2
      have hkx : env.kindOf x = some .cell := (hEF.kd x).trans (hfr x hxf)
      rcases V.vars x d e1 with ⟨a, m, v, n, ev, r⟩ | ⟨a, c, v, ec, ic, r⟩
      · rw [hkx] at a; cases a
      · refine .inr ⟨.inl ?_, c, v, (free1 x hxf).trans ec, ic.keeps (kpOf kk), ?_⟩
        · rw [hkd, lookup_relabelN, hxf]
          simp [hfr x hxf]
        · refine Rep.mono (N := N) (fun b o _ _ e => kpOf kk b o e) (fun b o nb eb q => ?_) _ _ r
          rcases q with (q | q) | q
          · exact nb q
          · rw [hwn b q] at eb; cases eb
          · subst q; rw [newS _ (Nat.le_refl _)] at eb; cases eb
  have r₂ : Reps (fun b => (N b ∨ b ∈ wr) ∨ b = L) H2 ds vs := Reps.mono (fun b o _ _ e => (up1.trans up2) b o e) (fun b o nb eb q => by
    rcases q with q | q
    · exact nb q
    · subst q; rw [newL _ (Nat.le_refl _)] at eb; cases eb) _ _ r₁
  have st₂ : St 0 H2 := IT.frame _ _ _ st₁ fun b _ o e => (up1.trans up2) b o e
  have hd : ∀ x d, (freeOf scope ρ).lookup x = some d → x ∉ ns := fun x d e hx => by
    have hm := List.all_eq_true.mp hdis (x, d) (mem_of_lookup e)
    simp only [Bool.not_eq_true', List.contains_iff_mem] at hm
    simp [hx] at hm
  have loop : codeAny (model prog w) A (.compLoop (.ListComp elt (⟨tg, iter, ifs, 0⟩ :: more) scope pos) 0 (.ref I) (.ref L) (cEnv scope cl (L + 1) env)) (compPost (model prog w) A E use Q (.ref L) (L + 1)) { s₁ with heap := H2 } := by
    refine comp_loop (inner := inner (cEnv scope cl (L + 1) env) L) (fun A Q E s h => hturn _ _ _ A Q E s h) rfl rfl (fun A => Around.under_of_weight rfl) IT (fun b hb => .inl (.inr hb)) hwn (.inr rfl) (newS _ (Nat.le_refl _)) hLfp hβ hd
      (hel _ s _ _ L (.inr rfl) (newS _ (Nat.le_refl _)) (fun b q => .inl (.inl q)) hEF') F st₂ r₂ (ys := []) ⟨_, up2 _ _ hLH⟩ (by simpa using hz) fun s' zs F' k' a' o' => ?_
    refine hfin L (L + 1) s' zs (newS _ (Nat.le_refl _)) (newS _ (Nat.le_succ _)) (Nat.succ_ne_self L) F'.same F'.ns (by simpa using a') (Reps.less o' fun b nb => ⟨.inl (.inl nb), fun q => hNw b nb (IT.sub b q)⟩) fun nb => ?_
    have := hNN L nb
    rw [newL L (Nat.le_refl _)] at this; cases this
  exact codeAny_compStart_list loop (IT.self 0 _ _ _ st₂ loop)
end
end Mine
end
-- part C9
section
open PySem PySem.W PyProof.Rows
set_option maxRecDepth 100000
set_option linter.unusedVariables false
namespace Mine

section
variable {prog : Program} {w : World} {g : Heap} {A : Around} {N : Addr → Prop} {env : Env} {oc : List Addr} {ρ : List (Str × D)} {s₀ s : Shared} {E : Value → Shared → Prop}

theorem turn_one {elt tg iter : Expr} {ifs : List Expr} {scope : Scope} {pos : Pos} (cenv : Env) (it : Value) (acc : Addr) :
    compTurn (.ListComp elt [⟨tg, iter, ifs, 0⟩] scope pos) 0 it (.ref acc) cenv = turnShape tg ifs iter.pos (.compLoop (.ListComp elt [⟨tg, iter, ifs, 0⟩] scope pos) 0 it (.ref acc) cenv) it cenv (do let _ ← call (.builtin "list.append") [.ref acc, ← eval elt cenv]) := rfl

theorem comp_end {Q : Value → Shared → Prop} {L C : Addr} {s' : Shared} {zs : List Value} {out : List D} (hQ : ∀ v s'', Rep N s''.heap (.lst out) v → Keeps s s'' → Q v s'')
    (hL : s.heap.get? L = none) (hC : s.heap.get? C = none) (hCL : C ≠ L) (k : Keeps s s') (hn : ∃ m, s'.heap.Ns C m) (a : s'.heap.PlainList L (List.toArray zs)) (r : Reps N s'.heap out zs) (hN : ¬ N L) :
    compPost (model prog w) A E none Q (.ref L) C (.ok .next) s' := by
  obtain ⟨m, hm⟩ := hn
  refine ⟨m, hm, fun h' hs' => hQ _ _ ?_ ?_⟩
  · refine Rep.lst_of hN (a.isList.extBut hs'.extBut (Ne.symm hCL)) (r.kps fun b o _ hq e => hs'.extBut b o (fun q => ?_) e)
    subst q
    obtain ⟨o', es, ep, ho', hd, _⟩ := hm
    rw [e] at ho'; cases ho'
    obtain ⟨xs, n, e'⟩ := hq
    rw [hd] at e'; cases e'
  · obtain ⟨h₁, t, rfl, kk⟩ := k
    exact ⟨h', t, rfl, fun b o e => hs'.extBut b o (fun q => by subst q; rw [hC] at e; cases e) (kk b o e)⟩

/-- a list comprehension of one clause -/
theorem ev_comp {names onames : List (Str × NameKind)} {elt tg iter : Expr} {ifs : List Expr} {scope : Scope} {pos : Pos} {dts : List D} (β : D → List (Str × D)) (f : D → List D) {ns : List Str}
    (hEF : EF env oc names onames) (hsc : ScOk names scope) (hsrc : Src prog w g A env ρ iter tg dts)
    (hβ : ∀ d ∈ dts, (β d).map (·.1) = ns) (hdis : ((freeOf scope ρ).all fun q => !ns.contains q.1) = true) (hz : (dts.flatMap f).length ≤ sizeLine)
    (hel : ∀ cenv oc', EF cenv oc' (relabelN names scope.names) scope.names → ∀ d ∈ dts, Asg prog w g A cenv oc' tg d (β d) ∧ ∃ b, Tests prog w g A cenv (β d ++ freeOf scope ρ) ifs b ∧ (b = false → f d = []) ∧ (b = true → ∃ o, f d = [o] ∧ Ev prog w g A cenv (β d ++ freeOf scope ρ) elt o))
    (hfold : ∀ env x, foldedSetIterable iter env x = pure x := by intro _ _; rfl) :
    Ev prog w g A env ρ (.ListComp elt [⟨tg, iter, ifs, 0⟩] scope pos) (.lst (dts.flatMap f)) := by
  intro N s V E
  rw [eval_ListComp]
  refine comp_core (use := none) (more := []) (inner := fun cenv L => do let _ ← call (.builtin "list.append") [.ref L, ← eval elt cenv]) hEF hsc V hsrc (hfold env) (fun cenv it acc A Q E s h => by rw [turn_one]; exact h) hβ hdis hz ?_ ?_
  · intro N' s₀ cenv oc' L hL hLn _ hef d hd
    obtain ⟨h1, b, h2, h3, h4⟩ := hel cenv oc' hef d hd
    refine ⟨h1, b, h2, h3, fun hb => ?_⟩
    obtain ⟨o, e, he⟩ := h4 hb
    rw [e]; exact inn_emit hL hLn he
  · intro L C s' zs hL hC hCL k hn a r hN
    exact comp_end (fun v s'' r k => ⟨r, k⟩) hL hC hCL k hn a r hN

/-- x = [ .. ]: the store comes before the names go -/
theorem st_assign_compG {names onames : List (Str × NameKind)} {y : Str} {py spos : Pos} {rest : List Stmt} {Q : Flow → Shared → Prop} {elt tg iter : Expr} {ifs : List Expr} {more : List Comprehension} {scope : Scope} {pos p : Pos} {dts : List D} {inner : Env → Addr → Sem Unit} (β : D → List (Str × D)) (f : D → List D) {ns : List Str}
    (F : Frm g N s₀ env oc ρ s) (hEF : EF env oc names onames) (hsc : ScOk names scope) (hsrc : Src prog w g A env ρ iter tg dts)
    (hβ : ∀ d ∈ dts, (β d).map (·.1) = ns) (hdis : ((freeOf scope ρ).all fun q => !ns.contains q.1) = true) (hz : (dts.flatMap f).length ≤ sizeLine)
    (hturn : ∀ cenv it acc A (Q : Fin → Shared → Prop) E s, wpAny (model prog w) A (turnShape tg ifs p (.compLoop (.ListComp elt (⟨tg, iter, ifs, 0⟩ :: more) scope pos) 0 it (.ref acc) cenv) it cenv (inner cenv acc)) Q E s → wpAny (model prog w) A (compTurn (.ListComp elt (⟨tg, iter, ifs, 0⟩ :: more) scope pos) 0 it (.ref acc) cenv) Q E s)
    (hel : ∀ N' s₀ cenv oc' L, N' L → s₀.heap.get? L = none → (∀ b, N b → N' b) → EF cenv oc' (relabelN names scope.names) scope.names → ∀ d ∈ dts, Asg prog w g A cenv oc' tg d (β d) ∧ ∃ b, Tests prog w g A cenv (β d ++ freeOf scope ρ) ifs b ∧ (b = false → f d = []) ∧ (b = true → Inn prog w g A N' s₀ cenv oc' L (β d ++ freeOf scope ρ) (inner cenv L) (f d)))
    (hy : names.lookup y = some .local) (hyl : (py.line == pos.line) = true) (hys : (scope.names.any fun q => q.1 == y && (q.2 == .local || q.2 == .cell)) = false)
    (h : ∀ s', Frm g N s₀ env oc ((y, .lst (dts.flatMap f)) :: ρ) s' → Run (Own env oc) s s' → wpAny (model prog w) A (execs rest env) Q E s')
    (hfold : ∀ env x, foldedSetIterable iter env x = pure x := by intro _ _; rfl) :
    wpAny (model prog w) A (execs (.Assign [.Name y py] (.ListComp elt (⟨tg, iter, ifs, 0⟩ :: more) scope pos) spos :: rest) env) Q E s := by
  have hky : env.kindOf y = some .local := (hEF.kd y).trans hy
  have hsw : swapsWith (.ListComp elt (⟨tg, iter, ifs, 0⟩ :: more) scope pos) (some (.Name y py)) spos.line env = pure true := by
    show (pure (env.blockKind == .function && env.kindOf y == some .local && py.line == pos.line && !(scope.names.any fun (n, k) => n == y && (k == .local || k == .cell))) : Sem Bool) = pure true
    have hb : env.blockKind = .function := by unfold Env.blockKind; rw [F.view.fn]; rfl
    rw [hb, hky, hyl]
    have : (scope.names.any fun (n, k) => n == y && (k == .local || k == .cell)) = false := hys
    rw [this]; rfl
  refine wpAny_execs_cons ?_
  rw [exec_Assign_Name_used _ _ _ _ hsw]
  refine wpAny_bind (wpAny_standAt (wpAny_bind ?_))
  show wpAny _ A (do let _ ← comprehension (.ListComp elt (⟨tg, iter, ifs, 0⟩ :: more) scope pos) scope env _ (newList []) false (eval iter env) (some (assign (.Name y py) env))) _ _ s
  refine wpAny_bind (wpAny_mono (comp_core (use := some (assign (.Name y py) env)) (Q := fun _ s' => wpAny (model prog w) A (execs rest env) Q E s') (inner := inner) hEF hsc F.view hsrc (hfold env) hturn hβ hdis hz hel ?_) (fun _ s' hq => wpAny_pure (wpAny_pure hq)) fun _ _ x => x)
  · intro L C s' zs hL hC hCL k hn a r hN
    have F' := F.keeps k
    show wpAny _ A (assign (.Name y py) env (.ref L)) _ _ _
    have rl : Rep N s'.heap (.lst (dts.flatMap f)) (.ref L) := Rep.lst_of hN a.isList r
    refine wpAny_assign_Name (store_frm F' rl (.inl hky) fun s'' F'' k'' => ?_)
    obtain ⟨m, hm⟩ := hn
    have hCown : ¬ Own env oc C := by
      rintro (q | q)
      · subst q; obtain ⟨mm, o, _, _, ho, _⟩ := F.ns; rw [hC] at ho; cases ho
      · obtain ⟨⟨v, o, ho, _⟩, _⟩ := F.cel C q; rw [hC] at ho; cases ho
    have hm'' : s''.heap.Ns C m := hm.at' fun o e => k''.kp hCown e
    refine ⟨m, hm'', fun h' hs' => ?_⟩
    -- the comprehension's own names go
    have run : Run (fun b => b = C) s'' { s'' with heap := h' } := ⟨h', 0, rfl, fun b o nb e => hs'.extBut b o nb e⟩
    have fr : Frm g N s₀ env oc ((y, .lst (dts.flatMap f)) :: ρ) { s'' with heap := h' } := by
      have notC : ∀ b o, s''.heap.get? b = some o → (∃ xs n, o.data = .seq xs n) → b ≠ C := fun b o e hq q => by
        subst q
        obtain ⟨o', es, ep, ho', hd, _⟩ := hm''
        rw [e] at ho'; cases ho'
        obtain ⟨xs, n, e'⟩ := hq
        rw [hd] at e'; cases e'
      have cells : ∀ a u, s''.heap.IsCell a u → h'.IsCell a u := fun a u hu => hu.sameBut hs' fun q => by
        subst q
        obtain ⟨o, ho, hd⟩ := hu
        obtain ⟨o', es, ep, ho', hd', _⟩ := hm''
        rw [ho] at ho'; cases ho'; rw [hd] at hd'; cases hd'
      have ks : KpS N s''.heap h' := fun b o _ hq e => hs'.extBut b o (notC b o e hq) e
      have s₀C : s₀.heap.get? C = none := by
        cases q : s₀.heap.get? C with
        | none => rfl
        | some o => have := kpOf F.same _ _ q; rw [hC] at this; cases this
      have sm : Keeps s₀ { s'' with heap := h' } := Run.keeps F''.same run fun b q => q ▸ s₀C
      have hLC : env.locals ≠ C := fun q => hCown (.inl q.symm)
      obtain ⟨mm, hmm⟩ := F''.ns
      refine ⟨sm, ⟨mm, hmm.sameBut hs' hLC⟩, F''.new, fun c hc => let ⟨⟨u, hu⟩, hn⟩ := F''.cel c hc; ⟨⟨u, cells c u hu⟩, hn⟩, F''.inj, F''.ground, F''.ground.trans (kpOf sm), ⟨fun a na => ?_, F''.view.old.2⟩, F''.view.fn, F''.view.gl, F''.view.bu, fun n a e => let ⟨u, hu⟩ := F''.view.cex n a e; ⟨u, cells a u hu⟩, fun x d e => ?_⟩
      · obtain ⟨o, ho⟩ := F.view.old.1 a na
        have hac : a ≠ C := fun q => by subst q; rw [hC] at ho; cases ho
        obtain ⟨o', ho'⟩ := F''.view.old.1 a na
        exact ⟨o', hs'.extBut a o' hac ho'⟩
      · rcases F''.view.vars x d e with ⟨a, m', u, n', e', r'⟩ | ⟨a, c, u, e1, e2, e3⟩
        · exact .inl ⟨a, m', u, n'.sameBut hs' hLC, e', r'.kps ks⟩
        · exact .inr ⟨a, c, u, e1, cells c _ e2, e3.kps ks⟩
    refine h _ fr ?_
    have r1 : Run (Own env oc) s s'' := Run.trans (Run.of k) k''
    obtain ⟨h1, t1, rfl, kk⟩ := r1
    exact ⟨h', t1, rfl, fun b o nb e => hs'.extBut b o (fun q => by subst q; rw [hC] at e; cases e) (kk b o nb e)⟩

theorem st_assign_comp {names onames : List (Str × NameKind)} {y : Str} {py spos : Pos} {rest : List Stmt} {Q : Flow → Shared → Prop} {elt tg iter : Expr} {ifs : List Expr} {scope : Scope} {pos : Pos} {dts : List D} (β : D → List (Str × D)) (f : D → List D) {ns : List Str}
    (F : Frm g N s₀ env oc ρ s) (hEF : EF env oc names onames) (hsc : ScOk names scope) (hsrc : Src prog w g A env ρ iter tg dts)
    (hβ : ∀ d ∈ dts, (β d).map (·.1) = ns) (hdis : ((freeOf scope ρ).all fun q => !ns.contains q.1) = true) (hz : (dts.flatMap f).length ≤ sizeLine)
    (hel : ∀ cenv oc', EF cenv oc' (relabelN names scope.names) scope.names → ∀ d ∈ dts, Asg prog w g A cenv oc' tg d (β d) ∧ ∃ b, Tests prog w g A cenv (β d ++ freeOf scope ρ) ifs b ∧ (b = false → f d = []) ∧ (b = true → ∃ o, f d = [o] ∧ Ev prog w g A cenv (β d ++ freeOf scope ρ) elt o))
    (hy : names.lookup y = some .local) (hyl : (py.line == pos.line) = true) (hys : (scope.names.any fun q => q.1 == y && (q.2 == .local || q.2 == .cell)) = false)
    (h : ∀ s', Frm g N s₀ env oc ((y, .lst (dts.flatMap f)) :: ρ) s' → Run (Own env oc) s s' → wpAny (model prog w) A (execs rest env) Q E s')
    (hfold : ∀ env x, foldedSetIterable iter env x = pure x := by intro _ _; rfl) :
    wpAny (model prog w) A (execs (.Assign [.Name y py] (.ListComp elt [⟨tg, iter, ifs, 0⟩] scope pos) spos :: rest) env) Q E s := by
  refine st_assign_compG (more := []) (inner := fun cenv L => do let _ ← call (.builtin "list.append") [.ref L, ← eval elt cenv]) β f F hEF hsc hsrc hβ hdis hz (fun cenv it acc A Q E s h => by rw [turn_one]; exact h) ?_ hy hyl hys h hfold
  intro N' s₀ cenv oc' L hL hLn _ hef d hd
  obtain ⟨h1, b, h2, h3, h4⟩ := hel cenv oc' hef d hd
  refine ⟨h1, b, h2, h3, fun hb => ?_⟩
  obtain ⟨o, e, he⟩ := h4 hb
  rw [e]; exact inn_emit hL hLn he

/-- range(a, b) as a source -/
theorem range_go {x : Str} {p : Pos} {a b : Int} {r : Addr} {t u v : Tok} {Q : Value → Shared → Prop} (hh : A.handled = none) (hr : IsRange s.heap r a b 1 t u v) (ha : -(2 ^ 62) ≤ a) (ha' : a < 2 ^ 62) (hb : -(2 ^ 62) ≤ b) (hb' : b < 2 ^ 62) (hN : Old N s)
    (hQ : ∀ I St, It prog w A (.Name x p) I [I] [I] ((List.range (b - a).toNat).map fun i => .int (a + (i : Nat))) [] [] St → St 0 (s.heap.push { cls := .type "range_iterator", data := .fields #[rawInt a, rawInt (Builtin.Range.rangeSize a b 1), rawInt 1] }) → I = s.heap.objs.size → Q (.ref I) { s with heap := s.heap.push { cls := .type "range_iterator", data := .fields #[rawInt a, rawInt (Builtin.Range.rangeSize a b 1), rawInt 1] } }) :
    wpAny (model prog w) A (pyIter (.ref r)) Q E s := by
  refine wpAny_pyIter_range hr (small_one ha ha' hb hb') (hQ s.heap.objs.size _ (It.range hh x p s.heap.objs.size a (b - a).toNat) ?_ rfl)
  have e : Builtin.Range.rangeSize a b 1 = ((b - a).toNat : Int) - (0 : Nat) := by
    rw [rangeSize_one]; split <;> omega
  have e' : a + ((0 : Nat) : Int) * 1 = a := by omega
  rw [e']
  rw [← e]
  exact Heap.get?_push_size _ rfl

theorem src_range2 {f e1 e2 : Expr} {pos : Pos} {x : Str} {p : Pos} {a b : Int} (hh : A.handled = none) (hf : Ev prog w g A env ρ f (.val (.type "range"))) (h1 : Ev prog w g A env ρ e1 (.int a)) (h2 : Ev prog w g A env ρ e2 (.int b))
    (ha : -(2 ^ 62) ≤ a) (ha' : a < 2 ^ 62) (hb : -(2 ^ 62) ≤ b) (hb' : b < 2 ^ 62)
    (hn : ∀ env, eval (.Call f [e1, e2] [] pos) env = (do callWith pos (← eval f env) [] (backTo pos (starEach [e1, e2] env)) []) := by intro _; rfl)
    (he : ∀ env, starEach [e1, e2] env = (false, eval e1 env) :: starEach [e2] env := by intro _; rfl) (he2 : ∀ env, starEach [e2] env = (false, eval e2 env) :: starEach [] env := by intro _; rfl) :
    Src prog w g A env ρ (.Call f [e1, e2] [] pos) (.Name x p) ((List.range (b - a).toNat).map fun i => .int (a + (i : Nat))) := by
  intro N s V E Q hQ
  rw [hn]
  refine wpAny_bind (wpAny_mono (hf N s V E) (fun fv s₁ k₁ => ?_) fun _ _ x => x)
  have := k₁.1.val_inv; subst this
  have V₁ := V.keeps k₁.2
  refine Pv.callWith_type1 ?_ (he env) (by rw [he2]; rfl)
  refine wpAny_mono ((evs_cons h1 (evs_cons h2 evs_nil he2) he) N s₁ V₁ E) (fun vs s₂ k₂ => ?_) fun _ _ x => x
  obtain ⟨v1, ws, rfl, r1, rr⟩ := k₂.1.cons_inv
  obtain ⟨v2, ws, rfl, r2, rr⟩ := rr.cons_inv
  have := rr.nil_inv; subst this
  obtain ⟨t1, rfl⟩ := r1.int_inv
  obtain ⟨t2, rfl⟩ := r2.int_inv
  refine call_range_2 ?_
  have K12 : Keeps s { s₂ with heap := s₂.heap.push { cls := .type "range", data := .fields #[.int a t1, .int b t2, .int 1 s₂.toks] }, toks := s₂.toks + 1 } := ktrans k₁.2 (ktrans k₂.2 ⟨_, 1, rfl, fun b o e => Heap.get?_push_of_some _ e⟩)
  have V₃ := V.keeps K12
  refine range_go (x := x) (p := p) hh (IsRange.new _ _ _ _ _ _ _) ha ha' hb hb' V₃.old fun I St IT st e => ?_
  refine hQ _ I _ _ _ _ St (ktrans K12 (kpush _ _)) IT st ?_ ?_ (by rw [Reps])
  · intro b hb
    simp at hb; subst hb; subst e
    cases q : s.heap.get? (s₂.heap.push { cls := .type "range", data := .fields #[.int a t1, .int _ t2, .int 1 s₂.toks] }).objs.size with
    | none => rfl
    | some o => exact absurd (Heap.lt_size (kpOf K12 _ _ q)) (Nat.lt_irrefl _)
  · intro b nb hb
    simp at hb; subst hb; subst e
    exact V₃.old.new nb

theorem src_range1 {f e1 : Expr} {pos : Pos} {x : Str} {p : Pos} {b : Int} (hh : A.handled = none) (hf : Ev prog w g A env ρ f (.val (.type "range"))) (h1 : Ev prog w g A env ρ e1 (.int b))
    (hb : -(2 ^ 62) ≤ b) (hb' : b < 2 ^ 62)
    (hn : ∀ env, eval (.Call f [e1] [] pos) env = (do callWith pos (← eval f env) [] (backTo pos (starEach [e1] env)) []) := by intro _; rfl)
    (he : ∀ env, starEach [e1] env = (false, eval e1 env) :: starEach [] env := by intro _; rfl) :
    Src prog w g A env ρ (.Call f [e1] [] pos) (.Name x p) ((List.range b.toNat).map fun i => .int (i : Nat)) := by
  intro N s V E Q hQ
  rw [hn]
  refine wpAny_bind (wpAny_mono (hf N s V E) (fun fv s₁ k₁ => ?_) fun _ _ x => x)
  have := k₁.1.val_inv; subst this
  have V₁ := V.keeps k₁.2
  refine Pv.callWith_type1 ?_ (he env) rfl
  refine wpAny_mono ((evs_cons h1 evs_nil he) N s₁ V₁ E) (fun vs s₂ k₂ => ?_) fun _ _ x => x
  obtain ⟨v1, ws, rfl, r1, rr⟩ := k₂.1.cons_inv
  have := rr.nil_inv; subst this
  obtain ⟨t1, rfl⟩ := r1.int_inv
  refine call_range_1 ?_
  have K12 : Keeps s { s₂ with heap := s₂.heap.push { cls := .type "range", data := .fields #[.int 0 s₂.toks, .int b t1, .int 1 (s₂.toks + 1)] }, toks := s₂.toks + 1 + 1 } := ktrans k₁.2 (ktrans k₂.2 ⟨_, 2, rfl, fun b o e => Heap.get?_push_of_some _ e⟩)
  have V₃ := V.keeps K12
  refine range_go (x := x) (p := p) hh (IsRange.new _ _ _ _ _ _ _) (by decide) (by decide) hb hb' V₃.old fun I St IT st e => ?_
  have e0 : ((List.range (b - 0).toNat).map fun i => D.int (0 + (i : Nat))) = (List.range b.toNat).map fun i => D.int (i : Nat) := by simp
  rw [e0] at IT
  refine hQ _ I _ _ _ _ St (ktrans K12 (kpush _ _)) IT st ?_ ?_ (by rw [Reps])
  · intro b hb
    simp at hb; subst hb; subst e
    cases q : s.heap.get? (s₂.heap.push { cls := .type "range", data := .fields #[.int 0 s₂.toks, .int _ t1, .int 1 (s₂.toks + 1)] }).objs.size with
    | none => rfl
    | some o => exact absurd (Heap.lt_size (kpOf K12 _ _ q)) (Nat.lt_irrefl _)
  · intro b nb hb
    simp at hb; subst hb; subst e
    exact V₃.old.new nb
end
end Mine
end
-- part C10
section
open PySem PySem.W PyProof.Rows
set_option maxRecDepth 100000
set_option linter.unusedVariables false
namespace Mine

section
variable {prog : Program} {w : World} {g : Heap} {A : Around} {N : Addr → Prop} {env : Env} {oc : List Addr} {ρ : List (Str × D)} {s₀ s : Shared} {E : Value → Shared → Prop}

def inner2 (elt tg iter tg2 iter2 : Expr) (ifs ifs2 : List Expr) (scope : Scope) (pos : Pos) (cenv : Env) (L : Addr) : Sem Unit := do
  let x ← eval iter2 cenv
  standAt iter2.pos
  let x ← foldedSetIterable iter2 cenv x
  let _ ← runOwn (.compStart (.ListComp elt [⟨tg, iter, ifs, 0⟩, ⟨tg2, iter2, ifs2, 0⟩] scope pos) 1 (← holding [x] (pyIter x)) (.ref L) cenv) cenv

theorem turn_two {elt tg iter tg2 iter2 : Expr} {ifs ifs2 : List Expr} {scope : Scope} {pos : Pos} (cenv : Env) (it : Value) (acc : Addr) :
    compTurn (.ListComp elt [⟨tg, iter, ifs, 0⟩, ⟨tg2, iter2, ifs2, 0⟩] scope pos) 0 it (.ref acc) cenv = turnShape tg ifs iter.pos (.compLoop (.ListComp elt [⟨tg, iter, ifs, 0⟩, ⟨tg2, iter2, ifs2, 0⟩] scope pos) 0 it (.ref acc) cenv) it cenv (inner2 elt tg iter tg2 iter2 ifs ifs2 scope pos cenv acc) := by
  have e : compTurn (.ListComp elt [⟨tg, iter, ifs, 0⟩, ⟨tg2, iter2, ifs2, 0⟩] scope pos) 0 it (.ref acc) cenv = (do
      standAt iter.pos
      match ← pyNext it with
      | none => pure (.done .next)
      | some v =>
        letOwnedTupleGo tg it v
        assign tg cenv v
        let mut ok := true
        for c in ifs do
          if ok then ok ← isTrue c cenv (eval c cenv)
        if ok then
          let x ← eval iter2 cenv
          standAt iter2.pos
          let x ← foldedSetIterable iter2 cenv x
          let _ ← runOwn (.compStart (.ListComp elt [⟨tg, iter, ifs, 0⟩, ⟨tg2, iter2, ifs2, 0⟩] scope pos) 1 (← holding [x] (pyIter x)) (.ref acc) cenv) cenv
        again (.compLoop (.ListComp elt [⟨tg, iter, ifs, 0⟩, ⟨tg2, iter2, ifs2, 0⟩] scope pos) 0 it (.ref acc) cenv)) := rfl
  rw [e]
  unfold turnShape turnRest inner2
  congr 1; funext _
  congr 1; funext r
  cases r with
  | none => rfl
  | some v =>
    dsimp only
    congr 1; funext _
    congr 1; funext _
    congr 1; funext b
    cases b <;> simp [bind_assoc, pure_bind]
theorem turn_two1 {elt tg iter tg2 iter2 : Expr} {ifs ifs2 : List Expr} {scope : Scope} {pos : Pos} (cenv : Env) (it : Value) (acc : Addr) :
    compTurn (.ListComp elt [⟨tg, iter, ifs, 0⟩, ⟨tg2, iter2, ifs2, 0⟩] scope pos) 1 it (.ref acc) cenv = turnShape tg2 ifs2 iter2.pos (.compLoop (.ListComp elt [⟨tg, iter, ifs, 0⟩, ⟨tg2, iter2, ifs2, 0⟩] scope pos) 1 it (.ref acc) cenv) it cenv (do let _ ← call (.builtin "list.append") [.ref acc, ← eval elt cenv]) := rfl

theorem compStart1 {elt tg iter tg2 iter2 : Expr} {ifs ifs2 : List Expr} {scope : Scope} {pos : Pos} {it acc : Value} {R : Result → Shared → Prop}
    (h0 : codeAny (model prog w) A (.compLoop (.ListComp elt [⟨tg, iter, ifs, 0⟩, ⟨tg2, iter2, ifs2, 0⟩] scope pos) 1 it acc env) R s)
    (h : wpAny (model prog w) A (pyIter it) (fun it' s' => codeAny (model prog w) A (.compLoop (.ListComp elt [⟨tg, iter, ifs, 0⟩, ⟨tg2, iter2, ifs2, 0⟩] scope pos) 1 it' acc env) R s')
      (notedBy (model prog w) A env fun x s' => R (.error x) s') s) :
    codeAny (model prog w) A (.compStart (.ListComp elt [⟨tg, iter, ifs, 0⟩, ⟨tg2, iter2, ifs2, 0⟩] scope pos) 1 it acc env) R s := by
  refine codeAny_of_tree ?_
  show wpAny _ _ ((compStart (.ListComp elt [⟨tg, iter, ifs, 0⟩, ⟨tg2, iter2, ifs2, 0⟩] scope pos) 1 it acc env).onRaise (fun x => do noteFrame x env; standAt theWindowsPlace)) _ _ s
  refine wpAny_notedAt ?_
  unfold compStart
  show wpAny _ _ (ask >>= _) _ _ s
  refine wpAny_bind (wpAny_askSetting (wpAny_ite ?_))
  split
  · first
      | exact wpAny_bind (wpAny_pure (wpAny_pure (And.intro rfl h0)))
      | exact wpAny_pure (And.intro rfl h0)
  · first
      | exact wpAny_bind (wpAny_rule (wpAny_bind (wpAny_standAt (wpAny_bind (wpAny_mono h (fun it' s' h' => wpAny_pure (And.intro rfl h')) fun _ _ x => x)))))
      | (refine wpAny_bind (wpAny_rule ?_); show wpAny _ _ (standAt iter2.pos >>= _) _ _ s; exact wpAny_bind (wpAny_standAt (wpAny_bind (wpAny_mono h (fun it' s' h' => wpAny_pure (And.intro rfl h')) fun _ _ x => x))))

/-- the second clause of a comprehension -/
theorem inn_nest {elt tg iter tg2 iter2 : Expr} {ifs ifs2 : List Expr} {scope : Scope} {pos : Pos} {L : Addr} {dts : List D} (β : D → List (Str × D)) (f : D → List D) {ns : List Str}
    (hL : N L) (hLn : s₀.heap.get? L = none) (hsrc : Src prog w g A env ρ iter2 tg2 dts)
    (hβ : ∀ d ∈ dts, (β d).map (·.1) = ns) (hdis : (ρ.all fun q => !ns.contains q.1) = true)
    (hel : ∀ d ∈ dts, Asg prog w g A env oc tg2 d (β d) ∧ ∃ b, Tests prog w g A env (β d ++ ρ) ifs2 b ∧ (b = false → f d = []) ∧ (b = true → ∃ o, f d = [o] ∧ Ev prog w g A env (β d ++ ρ) elt o))
    (hfold : ∀ env x, foldedSetIterable iter2 env x = pure x := by intro _ _; rfl) :
    Inn prog w g A N s₀ env oc L ρ (inner2 elt tg iter tg2 iter2 ifs ifs2 scope pos env L) (dts.flatMap f) := by
  intro s ys F ha hsz E
  unfold inner2
  refine wpAny_bind ?_
  have hd : ∀ x d, ρ.lookup x = some d → x ∉ ns := fun x d e hx => by
    have hm := List.all_eq_true.mp hdis (x, d) (mem_of_lookup e)
    simp [hx] at hm
  refine wpAny_mono (hsrc N s F.view E _ fun s₁ I fp wr ds vs St k₁ IT st₁ hwn hNf r₁ => ?_) (fun x s₁ h₁ => wpAny_bind (wpAny_standAt (wpAny_bind (wpAny_of_eq (hfold env x) (wpAny_bind (wpAny_holding h₁)))))) fun _ _ x => x
  have F₁ := F.keeps k₁
  have hwN : ∀ b, N b → b ∉ wr := fun b nb q => hNf b nb (IT.sub b q)
  have F₂ : Frm g (fun b => N b ∨ b ∈ wr) s₀ env oc ρ s₁ := by
    have F₀ : Frm g (fun b => N b ∨ b ∈ wr) s₀ env oc ρ s₁ := by
      obtain ⟨h', t, e, kk⟩ := id k₁
      refine ⟨F₁.same, F₁.ns, F₁.new, F₁.cel, F₁.inj, F₁.ground, F₁.view.base, ⟨?_, F₁.view.old.2⟩, F₁.view.fn, F₁.view.gl, F₁.view.bu, F₁.view.cex, fun x d e => ?_⟩
      · rintro a (na | hw)
        · exact F₁.view.old.1 a na
        · obtain ⟨o, ho, _⟩ := IT.kind _ _ st₁ a (IT.sub a hw); exact ⟨o, ho⟩
      · have hN : ∀ b o, ¬ N b → s.heap.get? b = some o → ¬ (N b ∨ b ∈ wr) := fun b o nb eb q => by
          rcases q with q | q
          · exact nb q
          · rw [hwn b q] at eb; cases eb
        rcases F.view.vars x d e with ⟨a, m', u, n', e', r'⟩ | ⟨a, c, u, e1, e2, e3⟩
        · exact .inl ⟨a, m', u, n'.keeps (kpOf k₁), e', Rep.mono (kpOf k₁).s hN _ _ r'⟩
        · exact .inr ⟨a, c, u, e1, e2.keeps (kpOf k₁), Rep.mono (kpOf k₁).s hN _ _ e3⟩
    exact F₀
  have wrn : ∀ b ∈ wr, s₀.heap.get? b = none := fun b hb => by
    cases q : s₀.heap.get? b with
    | none => rfl
    | some o => have := kpOf F.same b o q; rw [hwn b hb] at this; cases this
  refine wpAny_bind (wpAny_runOwn ?_)
  have a₁ : s₁.heap.PlainList L ys.toArray := ha.at fun o e => kpOf k₁ _ o e
  have loop : codeAny (model prog w) A (.compLoop (.ListComp elt [⟨tg, iter, ifs, 0⟩, ⟨tg2, iter2, ifs2, 0⟩] scope pos) 1 (.ref I) (.ref L) env) (fun r s' => match r with
      | .ok f' => wpAny (model prog w) A (pure ⟨⟩ : Sem Unit) (fun _ s' => ∃ zs, Frm g N s₀ env oc ρ s' ∧ Run (fun b => b = L ∨ Own env oc b) s s' ∧ s'.heap.PlainList L (ys ++ zs).toArray ∧ Reps N s'.heap (dts.flatMap f) zs) E s'
      | .error e => cameBackBy (model prog w) A env E e s') s₁ := by
    refine comp_loop (inner := do let _ ← call (.builtin "list.append") [.ref L, ← eval elt env]) (fun A Q E s h => by rw [turn_two1]; exact h) rfl rfl (fun A => Around.under_of_weight rfl) IT (fun b hb => .inr hb) wrn (.inl hL) hLn (hNf L hL) hβ hd ?_ F₂ st₁ r₁ a₁ hsz fun s' zs F' k' a' o' => wpAny_pure ?_
    · intro d hd
      obtain ⟨h1, b, h2, h3, h4⟩ := hel d hd
      refine ⟨h1, b, h2, h3, fun hb => ?_⟩
      obtain ⟨o, e, he⟩ := h4 hb
      rw [e]; exact inn_emit (.inl hL) hLn he
    · refine ⟨zs, F'.less fun b nb => ⟨.inl nb, hwN b nb⟩, ?_, a', Reps.less o' fun b nb => ⟨.inl nb, hwN b nb⟩⟩
      obtain ⟨h1, t1, rfl, kk⟩ := k₁
      obtain ⟨h2, t2, rfl, kk'⟩ := k'
      refine ⟨h2, t1 + t2, by show _ = { s with heap := h2, toks := s.toks + (t1 + t2) }; rw [← Nat.add_assoc], fun b o nb e => kk' b o (fun q => ?_) (kk b o e)⟩
      rcases q with q | q | q
      · exact nb (.inl q)
      · exact nb (.inr q)
      · rw [hwn b q] at e; cases e
  exact compStart1 loop (IT.self 0 _ _ _ st₁ loop)

/-- for: the body keeps the frame's names and goes on -/
theorem st_for {tg e : Expr} {body rest : List Stmt} {pos : Pos} {dts : List D} {Q : Flow → Shared → Prop} {bnames : List Str}
    (F : Frm g N s₀ env oc ρ s) (hsrc : Src prog w g A env ρ e tg dts)
    (hbody : ∀ (i : Nat) (d : D), dts[i]? = some d → ∀ N' s₁ v, (∀ b, N b → N' b) → Frm g N' s₀ env oc ρ s₁ → Rep N' s₁.heap d v → ∀ E', wpAny (model prog w) A (assign tg env v) (fun _ s₂ => wpAny (model prog w) A (execs body env) (fun fl s₃ => fl = .next ∧ Frm g N' s₀ env oc ρ s₃ ∧ Run (Own env oc) s₁ s₃) E' s₂) E' s₁)
    (h : ∀ s', Frm g N s₀ env oc ρ s' → wpAny (model prog w) A (execs rest env) Q E s')
    (hfold : ∀ env x, foldedSetIterable e env x = pure x := by intro _ _; rfl) :
    wpAny (model prog w) A (execs (.For tg e body [] pos :: rest) env) Q E s := by
  refine wpAny_execs_cons (wpAny_For ?_ (hfold env))
  refine hsrc N s F.view E _ fun s₁ I fp wr ds vs St k₁ IT st₁ hwn hNf r₁ => ?_
  have F₁ := F.keeps k₁
  have hwN : ∀ b, N b → b ∉ wr := fun b nb q => hNf b nb (IT.sub b q)
  have hN' : ∀ b o, ¬ N b → s.heap.get? b = some o → ¬ (N b ∨ b ∈ wr) := fun b o nb eb q => by
    rcases q with q | q
    · exact nb q
    · rw [hwn b q] at eb; cases eb
  have F₂ : Frm g (fun b => N b ∨ b ∈ wr) s₀ env oc ρ s₁ := by
    refine ⟨F₁.same, F₁.ns, F₁.new, F₁.cel, F₁.inj, F₁.ground, F₁.view.base, ⟨?_, F₁.view.old.2⟩, F₁.view.fn, F₁.view.gl, F₁.view.bu, F₁.view.cex, fun x d e => ?_⟩
    · rintro a (na | hw)
      · exact F₁.view.old.1 a na
      · obtain ⟨o, ho, _⟩ := IT.kind _ _ st₁ a (IT.sub a hw); exact ⟨o, ho⟩
    · rcases F.view.vars x d e with ⟨a, m', u, n', e', r'⟩ | ⟨a, c, u, e1, e2, e3⟩
      · exact .inl ⟨a, m', u, n'.keeps (kpOf k₁), e', Rep.mono (kpOf k₁).s hN' _ _ r'⟩
      · exact .inr ⟨a, c, u, e1, e2.keeps (kpOf k₁), Rep.mono (kpOf k₁).s hN' _ _ e3⟩
  have wrn : ∀ b ∈ wr, s₀.heap.get? b = none := fun b hb => by
    cases q : s₀.heap.get? b with
    | none => rfl
    | some o => have := kpOf F.same b o q; rw [hwn b hb] at this; cases this
  refine codeAny_loop' rfl (fun n s' => ∃ i, n = dts.length - i ∧ i ≤ dts.length ∧ Frm g (fun b => N b ∨ b ∈ wr) s₀ env oc ρ s' ∧ St i s'.heap ∧ Reps (fun b => N b ∨ b ∈ wr) s'.heap ds vs) (fun n s' hI => ?_) dts.length ⟨0, by simp, Nat.zero_le _, F₂, st₁, r₁⟩
  obtain ⟨i, rfl, hi, F', st', r'⟩ := hI
  show wpAny _ _ ((forTurn tg (.ref I) body [] env).onRaise (fun x => do noteFrame x env; theTreesLotGoes x)) _ _ s'
  refine wpAny_noted ?_
  have kindX : ∀ j (s' : Shared), St j s'.heap → ∀ b ∈ wr, ∀ o, s'.heap.get? b = some o → IsFS o := fun j s' st b hb o ho => by
    obtain ⟨o', ho', hf⟩ := IT.kind _ _ st b (IT.sub b hb)
    rw [ho] at ho'; cases ho'; exact hf
  simp only [forTurn]
  refine wpAny_bind (wpAny_standAt (wpAny_bind (wpAny_onRaise ?_)))
  by_cases hlt : i < dts.length
  · obtain ⟨d, hd⟩ : ∃ d, dts[i]? = some d := ⟨dts[i], List.getElem?_eq_getElem hlt⟩
    refine wpAny_mono (IT.item (fun b => N b ∨ b ∈ wr) i d s' (fun v s₂ => Frm g (fun b => N b ∨ b ∈ wr) s₀ env oc ρ s₂ ∧ St (i + 1) s₂.heap ∧ Reps (fun b => N b ∨ b ∈ wr) s₂.heap ds vs ∧ Rep (fun b => N b ∨ b ∈ wr) s₂.heap d v) (fun _ _ => False) (fun b hb => .inr hb) F'.view.old r' hd st' ?_) (fun r s₂ h₂ => ?_) fun _ _ x => x.elim
    · intro v h' tk rv st'' kk
      have run : Run (fun b => b ∈ wr) s' { s' with heap := h', toks := s'.toks + tk } := ⟨h', tk, rfl, fun b o nb e => kk b o nb e⟩
      have ks : KpS (fun b => N b ∨ b ∈ wr) s'.heap h' := fun b o nb _ e => kk b o (fun q => nb (.inr q)) e
      refine ⟨F'.mut run (fun b hb => ⟨wrn b hb, .inr hb, kindX _ _ st' b hb⟩) ⟨fun a na => ?_, Nat.lt_of_lt_of_le F'.view.old.2 (Nat.le_add_right _ _)⟩, st'', r'.kps ks, rv⟩
      by_cases hw : a ∈ wr
      · obtain ⟨o, ho, _⟩ := IT.kind _ _ st'' a (IT.sub a hw); exact ⟨o, ho⟩
      · obtain ⟨o, ho⟩ := F'.view.old.1 a na; exact ⟨o, kk a o hw ho⟩
    · obtain ⟨v, rfl, hv⟩ := h₂
      refine wpAny_bind (wpAny_mono hv (fun _ s₃ h₃ => ?_) fun _ _ x => x.elim)
      obtain ⟨F₃, st₃, r₃, rv₃⟩ := h₃
      refine wpAny_bind (wpAny_mono (hbody i d hd _ s₃ v (fun b q => .inl q) F₃ rv₃ _) (fun _ s₄ h₄ => wpAny_bind (wpAny_mono h₄ (fun fl s₅ h₅ => ?_) fun _ _ x => x)) fun _ _ x => x)
      obtain ⟨rfl, F₅, k₅⟩ := h₅
      have fpOwn : ∀ b ∈ fp, ¬ Own env oc b := fun b hb => F₃.notFS fun o ho => by
        obtain ⟨o', ho', hf⟩ := IT.kind _ _ st₃ b hb
        rw [ho] at ho'; cases ho'; exact hf
      exact wpAny_pure (.inl ⟨rfl, dts.length - (i + 1), by omega, i + 1, rfl, hlt, F₅, IT.frame _ _ _ st₃ fun b hb o e => k₅.kp (fpOwn b hb) e, r₃.kps (F₃.reps k₅)⟩)
  · have hin : i = dts.length := by omega
    subst hin
    refine IT.done s' _ _ st' fun h' tk kk => ?_
    have run : Run (fun b => b ∈ wr) s' { s' with heap := h', toks := s'.toks + tk } := ⟨h', tk, rfl, fun b o nb e => kk b o nb e⟩
    have F'' : Frm g N s₀ env oc ρ { s' with heap := h', toks := s'.toks + tk } := F'.mut' run (fun b hb => ⟨wrn b hb, .inr hb, kindX _ _ st' b hb⟩) (fun b q => .inl q) ⟨fun a na => by
      obtain ⟨o, ho⟩ := F'.view.old.1 a (.inl na); exact ⟨o, kk a o (hwN a na) ho⟩, Nat.lt_of_lt_of_le F'.view.old.2 (Nat.le_add_right _ _)⟩
    refine wpAny_pure (.inr ⟨rfl, codeAny_block ?_⟩)
    exact wpAny_execs_nil (h _ F'')
end
end Mine
end
-- part D1
section
open PySem PySem.W PyProof.Rows
set_option maxRecDepth 100000
set_option linter.unusedVariables false
namespace Mine

def fgt (a b : UInt64) : Bool := Float64.cmp a b == some Ordering.gt
def flt (a b : UInt64) : Bool := Float64.cmp a b == some Ordering.lt
def best3 (bt : UInt64 → UInt64 → Bool) (a b c : UInt64) : UInt64 := let m := if bt b a then b else a; if bt c m then c else m

section
variable {prog : Program} {w : World} {g : Heap} {N : Addr → Prop} {A : Around} {env : Env} {oc : List Addr} {ρ : List (Str × D)} {s₀ s : Shared} {E : Value → Shared → Prop}
theorem st_if_t {t : Expr} {body orelse rest : List Stmt} {p : Pos} {Q : Flow → Shared → Prop} (F : Frm g N s₀ env oc ρ s) (ht : Ts prog w g A env ρ t true)
    (h : ∀ s', Frm g N s₀ env oc ρ s' → Keeps s s' → wpAny (model prog w) A (execs body env) (fun f s'' => match f with | .next => wpAny (model prog w) A (execs rest env) Q E s'' | f => Q f s'') E s') :
    wpAny (model prog w) A (execs (.If t body orelse p :: rest) env) Q E s := st_if F ht h
theorem st_if_f {t : Expr} {body orelse rest : List Stmt} {p : Pos} {Q : Flow → Shared → Prop} (F : Frm g N s₀ env oc ρ s) (ht : Ts prog w g A env ρ t false)
    (h : ∀ s', Frm g N s₀ env oc ρ s' → Keeps s s' → wpAny (model prog w) A (execs orelse env) (fun f s'' => match f with | .next => wpAny (model prog w) A (execs rest env) Q E s'' | f => Q f s'') E s') :
    wpAny (model prog w) A (execs (.If t body orelse p :: rest) env) Q E s := st_if F ht h
theorem Ts.of {t : Expr} {b b' : Bool} (h : Ts prog w g A env ρ t b) (e : b = b') : Ts prog w g A env ρ t b' := e ▸ h
theorem Ev.of {t : Expr} {d d' : D} (h : Ev prog w g A env ρ t d) (e : d = d') : Ev prog w g A env ρ t d' := e ▸ h
theorem ev_flt {i : UInt64} {k : Nat} {p : Pos} : Ev prog w g A env ρ (.Constant (.float i) k p) (.flt i) := fun N s V E => wpAny_Constant_float ⟨Rep.flt _ _ V.old.2, ktok _ _⟩
end

section
variable {prog : Program} {w : World} {g : Heap} {A : Around}

theorem items3 {a b c : UInt64} {t u x : Nat} (i : Nat) (v : Value) (h : (#[Value.float a (t + 1), .float b (u + 1), .float c (x + 1)] : Array Value)[i]? = some v) : ∃ q : Nat, v = .float ([a, b, c][i]?.getD 0) (q + 1) := by
  match i, h with
  | 0, h => simp at h; exact ⟨t, by simp [← h]⟩
  | 1, h => simp at h; exact ⟨u, by simp [← h]⟩
  | 2, h => simp at h; exact ⟨x, by simp [← h]⟩
  | i + 3, h => simp at h

theorem best3_at {bt : UInt64 → UInt64 → Bool} {a b c : UInt64} {t u x : Nat} {v : Value} (h : (#[Value.float a (t + 1), .float b (u + 1), .float c (x + 1)] : Array Value)[argBest (fun i j => bt ([a, b, c][i]?.getD 0) ([a, b, c][j]?.getD 0)) 2]? = some v) : ∃ q : Nat, v = .float (best3 bt a b c) (q + 1) := by
  obtain ⟨q, rfl⟩ := items3 _ _ h
  refine ⟨q, ?_⟩
  congr 1
  unfold argBest argBest argBest best3
  cases h1 : bt b a <;> simp [h1] <;> split <;> simp_all

theorem fn_best {id : String} {bt : UInt64 → UInt64 → Bool} {a b c : UInt64} {op : CmpOp}
    (hc : ∀ (A : Around) (s : Shared) (v1 v2 v3 : Value) (Q : Value → Shared → Prop) (E : Value → Shared → Prop), wpAny (model prog w) A.in1 (pyIter (.ref s.heap.objs.size)) (fun it s₂ => ∃ I fp wr n P St bt, it = .ref I ∧ Walks prog w A.in1 I fp wr n P St ∧ St 0 s₂.heap ∧ (∀ b ∈ fp, b < s₂.heap.objs.size) ∧ 0 < n ∧ CmpOf prog w A.in1 op P bt ∧
      ∀ v h' tk, P (argBest bt (n - 1)) v → (∀ b o, b ∉ wr → s₂.heap.get? b = some o → h'.get? b = some o) → Q v { s₂ with heap := h', toks := tk }) E
      { s with heap := s.heap.push { cls := .type "tuple", data := .seq #[v1, v2, v3] } } → wpAny (model prog w) A (call (.builtin id) [v1, v2, v3]) Q E s)
    (hcmp : ∀ A a b t u (s : Shared) (Q : Value → Shared → Prop) (E : Value → Shared → Prop), Q (.bool (bt a b)) s → wpAny (model prog w) A (richCompare op (.float a t) (.float b u)) Q E s) :
    Fn prog w g 1 (.builtin id) [.flt a, .flt b, .flt c] [] (.flt (best3 bt a b c)) := by
  intro A R N s vs kvs hs hN hv hk E
  have := hk.nil_inv; subst this
  obtain ⟨v1, vs, rfl, r1, hv⟩ := hv.cons_inv
  obtain ⟨v2, vs, rfl, r2, hv⟩ := hv.cons_inv
  obtain ⟨v3, vs, rfl, r3, hv⟩ := hv.cons_inv
  have := hv.nil_inv; subst this
  obtain ⟨t, rfl⟩ := r1.flt_inv
  obtain ⟨u, rfl⟩ := r2.flt_inv
  obtain ⟨x, rfl⟩ := r3.flt_inv
  generalize hsz : s.heap.objs.size = n
  have hT : (s.heap.push { cls := .type "tuple", data := .seq #[.float a (t + 1), .float b (u + 1), .float c (x + 1)] }).IsTuple s.heap.objs.size #[.float a (t + 1), .float b (u + 1), .float c (x + 1)] := ⟨_, Heap.get?_push_size _ rfl, rfl, 0, rfl⟩
  have hsz1 : (s.heap.push { cls := .type "tuple", data := .seq #[.float a (t + 1), .float b (u + 1), .float c (x + 1)] }).objs.size = s.heap.objs.size + 1 := Heap.size_push ..
  refine wpAny_with_toks (Nat.le_refl s.toks) (hc A s _ _ _ _ _ (wpAny_pyIter_tuple hT ?_))
  refine ⟨_, _, _, _, _, _, (fun i j => bt ([a, b, c][i]?.getD 0) ([a, b, c][j]?.getD 0)), rfl, Walks.tuple (A := A.in1) R.h _ s.heap.objs.size (fun q => ?_) #[.float a (t + 1), .float b (u + 1), .float c (x + 1)], ⟨⟨_, Heap.get?_push_size _ rfl, rfl, rfl⟩, hT.push _⟩, fun d hd => ?_, Nat.succ_pos 2, fun i j vi vj s Q E hi hj h => ?_, fun v h' tk hP hm htk => ?_⟩
  · rw [hsz1] at q; exact absurd q (Nat.ne_of_lt (Nat.lt_succ_self _))
  · simp only [List.mem_cons, List.not_mem_nil, or_false] at hd
    show d < ((s.heap.push _).push _).objs.size
    rw [Heap.size_push, hsz1]
    rcases hd with e | e
    · rw [e, hsz1]; exact Nat.lt_succ_self _
    · rw [e]; exact Nat.lt_succ_of_lt (Nat.lt_succ_self _)
  · obtain ⟨q, rfl⟩ := items3 _ _ hi
    obtain ⟨q', rfl⟩ := items3 _ _ hj
    exact hcmp _ _ _ _ _ _ _ _ h
  · obtain ⟨q, rfl⟩ := best3_at hP
    refine ⟨Rep.flt _ _ (Nat.succ_pos _), kof (s := s) (fun d o e => hm d o (fun q => ?_) (Heap.get?_push_of_some _ (Heap.get?_push_of_some _ e))) htk⟩
    simp only [List.mem_singleton] at q
    have := Heap.lt_size e
    rw [q, hsz1] at this
    exact absurd this (Nat.not_lt.mpr (Nat.le_succ _))

theorem fn_max3 {a b c : UInt64} : Fn prog w g 1 (.builtin "max") [.flt a, .flt b, .flt c] [] (.flt (best3 fgt a b c)) :=
  fn_best (op := .Gt) (fun A s v1 v2 v3 Q E h => call_max_three h) fun A a b t u s Q E h => richCompare_gives (op := .Gt) (typeIs_float s a t) (typeIs_float s b u) F.slot_float_gt F.entry_float_gt (F.args_float_gt_2 _ _) (AutoFloatG4.float___gt___float_float_0 a t b u) (fun x => nomatch x) h
theorem fn_min3 {a b c : UInt64} : Fn prog w g 1 (.builtin "min") [.flt a, .flt b, .flt c] [] (.flt (best3 flt a b c)) :=
  fn_best (op := .Lt) (fun A s v1 v2 v3 Q E h => call_min_three h) fun A a b t u s Q E h => richCompare_gives (op := .Lt) (typeIs_float s a t) (typeIs_float s b u) F.slot_float_lt F.entry_float_lt (F.args_float_lt_2 _ _) (AutoFloatG5.float___lt___float_float_0 a t b u) (fun x => nomatch x) h

theorem fn_len {l : List D} (hz : l.length ≤ sizeLine) : Fn prog w g 1 (.builtin "len") [.lst l] [] (.int l.length) := by
  intro A R N s vs kvs hs hN hv hk E
  have := hk.nil_inv; subst this
  obtain ⟨v1, vs, rfl, r1, hv⟩ := hv.cons_inv
  have := hv.nil_inv; subst this
  obtain ⟨a, vs, rfl, na, hl, r⟩ := r1.lst_inv
  have hsz : vs.length = l.length := r.length
  have hb : sizeLine < 2 ^ 63 := by decide
  refine Calls.call_len_list hl (by simp only [List.size_toArray]; rw [hsz]; omega) ⟨?_, ktok _ _⟩
  simp only [List.size_toArray]; rw [hsz]; exact Rep.int _ _

theorem fn_lenS {x : Str} (hz : x.length ≤ sizeLine) : Fn prog w g 1 (.builtin "len") [.str x] [] (.int x.length) := by
  intro A R N s vs kvs hs hN hv hk E
  have := hk.nil_inv; subst this
  obtain ⟨v1, vs, rfl, r1, hv⟩ := hv.cons_inv
  have := hv.nil_inv; subst this
  obtain ⟨t, rfl⟩ := r1.str_inv
  have hb : sizeLine < 2 ^ 63 := by decide
  exact PySem.P.len_str (by omega) ⟨Rep.int _ _, ktok _ _⟩

theorem preSum_eq (val : Nat → Int) : ∀ (ns : List Int) (k : Nat), (∀ i n, ns[i]? = some n → val (k + i) = n) → preSum val (k + ns.length) = preSum val k + ns.sum
  | [], k, _ => by simp
  | n :: r, k, h => by
    have h1 := preSum_eq val r (k + 1) fun i m e => by rw [← h (i + 1) m (by simpa using e)]; congr 1; omega
    have h0 := h 0 n rfl
    rw [List.length_cons, show k + (r.length + 1) = k + 1 + r.length by omega, h1]
    show preSum val k + val k + _ = _
    rw [show val k = n from h0, List.sum_cons]; omega

theorem fn_sum {ns : List Int} (hlong : ∀ j, j < ns.length → InLong (ns[j]?.getD 0) ∧ InLong (preSum (fun i => ns[i]?.getD 0) (j + 1))) : Fn prog w g 1 (.builtin "sum") [.lst (ns.map .int)] [] (.int ns.sum) := by
  intro A R N s vs kvs hs hN hv hk E
  have := hk.nil_inv; subst this
  obtain ⟨v1, vs, rfl, r1, hv⟩ := hv.cons_inv
  have := hv.nil_inv; subst this
  obtain ⟨a, vs, rfl, na, hl, r⟩ := r1.lst_inv
  have hlt : a < s.heap.objs.size := by obtain ⟨o, ho, _⟩ := hl; exact Heap.lt_size ho
  have hlen : vs.length = ns.length := by simpa using r.length
  refine wpAny_with_toks (Nat.le_refl s.toks) (call_sum_walk (wpAny_pyIter_list hl ⟨_, _, _, _, _, _, (fun i => ns[i]?.getD 0), rfl, Walks.list (A := A.in1) R.h _ a (Nat.ne_of_lt hlt) vs.toArray, ⟨⟨_, Heap.get?_push_size _ rfl, rfl, rfl⟩, hl.push _⟩, ?_, ?_, ?_, ?_⟩))
  · intro b hb
    simp at hb
    show b < (s.heap.push _).objs.size
    rw [Heap.size_push]
    rcases hb with rfl | rfl
    · exact Nat.lt_succ_self _
    · exact Nat.lt_succ_of_lt hlt
  · intro i v hv
    have hi : i < ns.length := by
      have : i < vs.toArray.size := (Array.getElem?_eq_some_iff.mp hv).1
      simpa [hlen] using this
    obtain ⟨v', hv', rv⟩ := r.get (i := i) (d := .int ns[i]) (by simp [hi])
    have : v = v' := by have h2 : vs[i]? = some v := by simpa using hv
                        rw [hv'] at h2; exact (Option.some.inj h2).symm
    subst this
    obtain ⟨t, rfl⟩ := rv.int_inv
    exact ⟨t, by simp [hi]⟩
  · intro j hj
    exact hlong j (by simpa [hlen] using hj)
  · intro h' tk t' hm htk
    have e := preSum_eq (fun i => ns[i]?.getD 0) ns 0 (fun i n e => by simp [e])
    have e' : preSum (fun i => ns[i]?.getD 0) vs.toArray.size = ns.sum := by
      simp only [List.size_toArray, hlen]; simpa [preSum] using e
    rw [e']
    refine ⟨Rep.int _ _, kof (s := s) (fun d o e => hm d o (fun q => ?_) (Heap.get?_push_of_some _ e)) htk⟩
    simp at q; subst q; exact absurd (Heap.lt_size e) (Nat.lt_irrefl _)
end
end Mine
end
-- part D2
section
open PySem PySem.W PyProof.Rows
set_option maxRecDepth 100000
set_option linter.unusedVariables false
namespace Mine
section
variable {prog : Program} {w : World} {g : Heap} {N : Addr → Prop} {A : Around} {env : Env} {oc : List Addr} {ρ : List (Str × D)} {s₀ s : Shared} {E : Value → Shared → Prop}
/-- a, b, c = e -/
theorem st_unpack {tg e : Expr} {q : Pos} {rest : List Stmt} {d : D} {β : List (Str × D)} {Q : Flow → Shared → Prop} (F : Frm g N s₀ env oc ρ s) (he : Ev prog w g A env ρ e d) (ha : Asg prog w g A env oc tg d β)
    (h : ∀ s', Frm g N s₀ env oc (β ++ ρ) s' → Run (Own env oc) s s' → wpAny (model prog w) A (execs rest env) Q E s')
    (hs : swapsWithSole [tg] e q.line env = pure false := by rfl) (hw : swappedStores [tg] e env = pure none := by rfl) (hea : ∀ env, (assignEach [tg] env).map (·.2) = [assign tg env] := by intro _; rfl) :
    wpAny (model prog w) A (execs (.Assign [tg] e q :: rest) env) Q E s := by
  refine wpAny_execs_cons (wpAny_Assign_stores (wpAny_mono (he N s F.view E) (fun v s₁ h₁ => ?_) fun _ _ x => x) hs hw)
  rw [hea]
  exact ha N s₀ ρ s₁ v _ E (F.keeps h₁.2) h₁.1 fun s' F' k => h s' F' (Run.trans (Run.of h₁.2) k)
/-- while, with no else -/
theorem st_while {test : Expr} {body rest : List Stmt} {pos : Pos} {Q : Flow → Shared → Prop} (I : Nat → List (Str × D) → Prop) {n : Nat} (F : Frm g N s₀ env oc ρ s) (h0 : I n ρ)
    (turn : ∀ n ρ, I n ρ → ∃ b, Ts prog w g A env ρ test b ∧ 
      (b = true → ∀ s' E', Frm g N s₀ env oc ρ s' → wpAny (model prog w) A (execs body env) (fun f s'' => f = .next ∧ ∃ m ρ', m < n ∧ I m ρ' ∧ Frm g N s₀ env oc ρ' s'') E' s') ∧
      (b = false → ∀ s', Frm g N s₀ env oc ρ s' → wpAny (model prog w) A (execs rest env) Q E s')) :
    wpAny (model prog w) A (execs (.While test body [] pos :: rest) env) Q E s := by
  refine wpAny_execs_cons (wpAny_While (codeAny_whileLoop (fun n s => ∃ ρ, I n ρ ∧ Frm g N s₀ env oc ρ s) (fun n s hI => ?_) n ⟨ρ, h0, F⟩))
  obtain ⟨ρ, hI, F⟩ := hI
  obtain ⟨b, ht, h1, h2⟩ := turn n ρ hI
  refine wpAny_mono (ht N s F.view _) (fun v s₂ h => ?_) fun _ _ x => x
  obtain ⟨rfl, k⟩ := h
  cases v with
  | true =>
    simp only [if_true]
    refine wpAny_mono (h1 rfl s₂ _ (F.keeps k)) (fun f s₃ h₃ => ?_) fun _ _ x => x
    obtain ⟨rfl, m, ρ', hm, hI', F'⟩ := h₃
    exact ⟨m, hm, ρ', hI', F'⟩
  | false =>
    simp only [Bool.false_eq_true, if_false]
    exact wpAny_execs_nil (h2 rfl s₂ (F.keeps k))

/-- some names of a frame -/
inductive Subs (ρ : List (Str × D)) : List (Str × D) → Prop
  | nil : Subs ρ []
  | cons {x : Str} {d : D} {r : List (Str × D)} (h : ρ.lookup x = some d) (t : Subs ρ r) : Subs ρ ((x, d) :: r)
theorem Subs.look {ρ ρ' : List (Str × D)} (h : Subs ρ ρ') : ∀ x d, ρ'.lookup x = some d → ρ.lookup x = some d := by
  induction h with
  | nil => intro x d e; cases e
  | @cons y dy r h t ih =>
    intro x d e
    rw [List.lookup_cons] at e
    by_cases q : (x == y) = true
    · rw [q] at e; cases e; rw [beq_iff_eq.mp q]; exact h
    · have : (x == y) = false := by simpa using q
      rw [this] at e; exact ih x d e
theorem Frm.pick {ρ' : List (Str × D)} (F : Frm g N s₀ env oc ρ s) (h : Subs ρ ρ') : Frm g N s₀ env oc ρ' s := F.sub h.look
theorem cop_is_none_int {i : Int} : Cop prog w g A .Is (.int i) (.val .none) false := by
  intro N s va vb _ hN ha hb E
  obtain ⟨t, rfl⟩ := ha.int_inv
  have := hb.val_inv; subst this
  exact PySem.is_none ⟨rfl, krefl _⟩
end
end Mine
end
-- part D3
section
open PySem PySem.W PyProof.Rows
set_option maxRecDepth 100000
set_option linter.unusedVariables false
namespace Mine
def insAt {α : Type} (l : List α) (k : Nat) (x : α) : List α := l.take k ++ x :: l.drop k
section
variable {prog : Program} {w : World} {g : Heap} {N : Addr → Prop} {A : Around} {env : Env} {oc : List Addr} {ρ ρ' : List (Str × D)} {s₀ s : Shared} {E : Value → Shared → Prop}

theorem View.retype {x : Str} {v : Value} {d : D} (V : View g N env ρ s) (hx : ρ.lookup x = some (.val v)) (r : Rep N s.heap d v) : View g N env ((x, d) :: ρ) s :=
  ⟨V.base, V.old, V.fn, V.gl, V.bu, V.cex, fun y d' e => by
    rw [List.lookup_cons] at e
    by_cases q : (y == x) = true
    · rw [q] at e; cases e
      have := beq_iff_eq.mp q; subst this
      rcases V.vars y _ hx with ⟨a, m', u, n', e', r'⟩ | ⟨a, c, u, e1, e2, e3⟩
      · have := r'.val_inv; subst this; exact .inl ⟨a, m', u, n', e', r⟩
      · have := e3.val_inv; subst this; exact .inr ⟨a, c, u, e1, e2, r⟩
    · have : (y == x) = false := by simpa using q
      rw [this] at e; exact V.vars y d' e⟩
/-- an assignment, its value told in another view of the frame -/
theorem st_assignV {x : Str} {p q : Pos} {e : Expr} {rest : List Stmt} {d : D} {Q : Flow → Shared → Prop} (F : Frm g N s₀ env oc ρ s) (V : View g N env ρ' s) (he : Ev prog w g A env ρ' e d) (hx : Stor env oc x)
    (h : ∀ s' s₁, Keeps s s₁ → Run (Own env oc) s₁ s' → Frm g N s₀ env oc ((x, d) :: ρ) s' → wpAny (model prog w) A (execs rest env) Q E s')
    (hs : swapsWith e (some (.Name x p)) q.line env = pure false := by rfl) :
    wpAny (model prog w) A (execs (.Assign [.Name x p] e q :: rest) env) Q E s := by
  refine wpAny_execs_cons (wpAny_Assign_Name (wpAny_mono (he N s V E) (fun v s₁ h₁ => ?_) fun _ _ x => x) hs)
  exact store_frm (F.keeps h₁.2) h₁.1 hx fun s' F' k => h s' s₁ h₁.2 k F'

theorem Reps.less' {h : Heap} {N' : Addr → Prop} {ds : List D} {vs : List Value} (r : Reps N h ds vs) (hN : ∀ b, N' b → N b) : Reps N' h ds vs := Reps.mono (fun b o _ _ e => e) (fun b o n _ q => n (hN b q)) _ _ r
theorem Rep.less' {h : Heap} {N' : Addr → Prop} {d : D} {v : Value} (r : Rep N h d v) (hN : ∀ b, N' b → N b) : Rep N' h d v := Rep.mono (fun b o _ _ e => e) (fun b o n _ q => n (hN b q)) _ _ r
theorem Reps.drop {h : Heap} : ∀ {l : List D} {vs : List Value} (n : Nat), Reps N h l vs → Reps N h (l.drop n) (vs.drop n)
  | _, _, 0, x => by simpa using x
  | [], _, n + 1, x => by have := x.nil_inv; subst this; simp; exact Reps.nil
  | d :: l, _, n + 1, x => by obtain ⟨v, ws, rfl, a, b⟩ := x.cons_inv; simpa using Reps.drop n b
theorem Reps.ins {h : Heap} {l : List D} {vs : List Value} {d : D} {v : Value} (k : Nat) (r : Reps N h l vs) (rv : Rep N h d v) : Reps N h (insAt l k d) (insAt vs k v) := (r.take k).append (Reps.cons rv (r.drop k))

theorem ins_arr {i : Int} {xs : List Value} {k : Nat} (v : Value) (hi : i = k) (hk : k ≤ xs.length) : (have k' := if i < 0 then (i + ((xs.toArray.size : Nat) : Int)).toNat else min i.toNat xs.toArray.size; (xs.toArray.extract 0 k').push v ++ xs.toArray.extract k') = (insAt xs k v).toArray := by
  have e1 : (if i < 0 then (i + ((xs.toArray.size : Nat) : Int)).toNat else min i.toNat xs.toArray.size) = k := by
    rw [if_neg (by omega), List.size_toArray]; omega
  simp only [e1]
  exact kl_ins_eq xs k v
/-- S.insert(i, x) -/
theorem insert_at {S : Addr} {xs : List Value} {i : Int} {k : Nat} {t : Tok} {v : Value} {Q : Value → Shared → Prop} (hl : s.heap.PlainList S xs.toArray) (hi : i = k) (hk : k ≤ xs.length) (hz : xs.length ≤ sizeLine)
    (h : ∀ h', h'.PlainList S (insAt xs k v).toArray → (∀ b o, b ≠ S → s.heap.get? b = some o → h'.get? b = some o) → Q .none { s with heap := h' }) :
    wpAny (model prog w) A (call (.builtin "list.insert") [.ref S, .int i t, v]) Q E s := by
  obtain ⟨n, hn⟩ := id hl
  have hb : sizeLine < 2 ^ 60 := by decide
  have hfit : Builtin.List.listFitsIndex i = true := by
    unfold Builtin.List.listFitsIndex
    simp only [Bool.and_eq_true, decide_eq_true_eq]
    omega
  refine call_meets PySem.F.slot_list_insert ⟨_, hn, rfl⟩ PySem.F.entry_list_insert (PySem.F.args_list_insert_3 _ _ _) (PySem.AutoSeq1.list_insert_list_int_val_1 S _ n i t v (by rw [hfit]; decide) (by rw [List.size_toArray]; exact hz)) ⟨hn, ?_⟩
  have q := PySem.IsL.update (l := S) (h := s.heap) hn (fun xs => have k' := if i < 0 then (i + ((xs.size : Nat) : Int)).toNat else min i.toNat xs.size; (xs.extract 0 k').push v ++ xs.extract k')
  rw [ins_arr v hi hk] at q
  exact h _ ⟨_, q⟩ fun b o hb e => (Heap.get?_update_other _ _ (Ne.symm hb)).trans e
end
end Mine
end
-- part R1
section
open PySem PySem.W PyProof.Rows
set_option maxRecDepth 100000
set_option linter.unusedVariables false
namespace Mine
open PySem.Sre (M)

theorem runFor_done {m : M} (h : m.outcome.isSome = true) : ∀ n, M.runFor n m = m
  | 0 => rfl
  | n + 1 => by unfold M.runFor; rw [if_pos h]
theorem runFor_add : ∀ (a b : Nat) (m : M), M.runFor (a + b) m = M.runFor b (M.runFor a m)
  | 0, b, m => by simp [M.runFor]
  | a + 1, b, m => by
    by_cases h : m.outcome.isSome = true
    · rw [runFor_done h, runFor_done h, runFor_done h]
    · rw [show a + 1 + b = (a + b) + 1 by omega]
      show (if m.outcome.isSome = true then m else M.runFor (a + b) m.step) = M.runFor b (if m.outcome.isSome = true then m else M.runFor a m.step)
      rw [if_neg h, if_neg h]; exact runFor_add a b m.step
theorem runFor_step {m : M} (h : m.outcome = none) (n : Nat) : M.runFor (n + 1) m = M.runFor n m.step := by
  show (if m.outcome.isSome = true then m else M.runFor n m.step) = _
  rw [h]; rfl

section
variable {Md : Model} {A : Around} {s : Shared} {E : Value → Shared → Prop}
theorem wp_drive {Q : M → Shared → Prop} : ∀ (T n : Nat) (m : M), n < 4 * T → (M.runFor n m).outcome.isSome = true → Q (M.runFor n m) s → wpAny Md A (Builtin.Re.reDrive T m) Q E s
  | 0, n, m, hT, _, _ => by omega
  | T + 1, n, m, hT, hd, hq => by
    unfold Builtin.Re.reDrive
    show wpAny Md A (if (M.runFor 4 m).outcome.isSome = true then pure (M.runFor 4 m) else do rule "sre.turn"; Builtin.Re.reDrive T (M.runFor 4 m)) Q E s
    by_cases h4 : (M.runFor 4 m).outcome.isSome = true
    · rw [if_pos h4]
      refine wpAny_pure ?_
      have e : M.runFor n m = M.runFor 4 m := by
        by_cases hn : n ≤ 4
        · have := runFor_add n (4 - n) m
          rw [show n + (4 - n) = 4 by omega] at this
          rw [this, runFor_done hd]
        · have := runFor_add 4 (n - 4) m
          rw [show 4 + (n - 4) = n by omega] at this
          rw [this, runFor_done h4]
      rw [← e]; exact hq
    · rw [if_neg h4]
      refine wpAny_bind (wpAny_rule ?_)
      have hn : 4 ≤ n := by
        by_cases hn : 4 ≤ n
        · exact hn
        · have := runFor_add n (4 - n) m
          rw [show n + (4 - n) = 4 by omega, runFor_done hd] at this
          rw [this] at h4; exact absurd hd h4
      have e := runFor_add 4 (n - 4) m
      rw [show 4 + (n - 4) = n by omega] at e
      rw [e] at hd hq
      exact wp_drive T (n - 4) _ (by omega) hd hq

theorem wp_toEnd {Q : Option M → Shared → Prop} {m : M} (n : Nat) (hn : n < 2 ^ 64) {b : Bool} (hd : (M.runFor n m).outcome = some (if b then .matched else .failed))
    (hq : Q (if b then some (M.runFor n m) else none) s) : wpAny Md A (Builtin.Re.reRunToEnd m) Q E s := by
  unfold Builtin.Re.reRunToEnd
  refine wpAny_bind (wp_drive (2 ^ 64) n m (by omega) (by rw [hd]; rfl) ?_)
  generalize M.runFor n m = m' at hd hq
  refine wpAny_bind ?_
  have loop : ∀ (l : List Nat) (R : PUnit → Shared → Prop), R ⟨⟩ s → wpAny Md A (forIn l PUnit.unit fun i r => (if m'.seen.has i = true then (do rule (Sre.names.getD i ""); pure (ForInStep.yield PUnit.unit)) else pure (ForInStep.yield PUnit.unit) : Sem (ForInStep PUnit))) R E s := by
    intro l
    induction l with
    | nil => intro R h; exact wpAny_pure h
    | cons i l ih =>
      intro R h
      rw [List.forIn_cons]
      refine wpAny_bind ?_
      by_cases hi : m'.seen.has i = true
      · simp only [hi, if_true]
        exact wpAny_bind (wpAny_rule (wpAny_pure (ih R h)))
      · simp only [hi, Bool.false_eq_true, if_false]
        exact wpAny_pure (ih R h)
  refine wpAny_mono (loop (List.range Sre.names.size) (fun _ s' => s' = s) rfl) (fun _ s' e => ?_) fun _ _ x => x
  subst e
  rw [hd]
  cases b <;> exact wpAny_pure hq
end
end Mine
end
-- part R2
section
open PySem PySem.W PyProof.Rows
set_option maxRecDepth 100000
set_option linter.unusedVariables false
namespace Mine
open PySem.Sre (M Frame)

def code1 : Array Nat := #[14, 4, 0, 1, 1, 6, 1, 16, 46, 1]
def code2 : Array Nat := #[14, 9, 4, 1, 2, 16, 10, 16, 13, 0, 7, 7, 16, 13, 16, 10, 15, 18, 5, 16, 10, 15, 13, 11, 16, 13, 5, 5, 0, 16, 10, 1, 15, 2, 0, 1]

section
variable (text : Array Nat) (lim s : Nat) (o : Bool) (seen : Sre.Seen)

def T1 (pc pos : Nat) (ans : Option Bool) : M := { code := code1, text, lim, start := s, lastStart := lim, pc, pos, handed := s, outermost := o, marks := #[], frames := [{ wait := .nextStart, pc := 5, pos := s, outermost := o }], weight := 1, answer := ans, seen }
def U1 (h : Nat) (ans : Bool) (out : Option Sre.Outcome) : M := { code := code1, text, lim, start := s, lastStart := lim, pc := 5, pos := s, handed := h, outermost := o, marks := #[], frames := [], weight := 0, answer := some ans, seen, outcome := out }
/-- at the start of a line -/
def bolAt : Bool := s == 0 || text.getD (s - 1) 0 == 10
theorem s1_a : (T1 text lim s o seen 5 s none).step = if bolAt text s = true then T1 text lim s o ((seen.add 6).add 44) 7 s none else T1 text lim s o ((seen.add 6).add 44) 5 s (some false) := rfl
theorem s1_lit : M.step (T1 text lim s o seen 7 s none) = (if s ≥ lim then T1 text lim s o (seen.add 16) 7 s (some false) else match (text.getD s 0 == 46) with | false => T1 text lim s o (seen.add 16) 7 s (some false) | true => T1 text lim s o (seen.add 16) 9 (s + 1) none) := by
  show (if s ≥ lim then _ else match PySem.Sre.accepts code1 7 (text.getD s 0) (seen.add 16) with | .error why => _ | .ok (false, seen) => _ | .ok (true, seen) => _) = _
  split
  · rfl
  · show (match (Except.ok (text.getD s 0 == 46, seen.add 16) : Except String (Bool × Sre.Seen)) with | .error why => _ | .ok (false, seen) => _ | .ok (true, seen) => _) = _
    cases text.getD s 0 == 46 <;> rfl
theorem s1_b (hl : s < lim) (hc : text.getD s 0 = 46) : M.step (T1 text lim s o seen 7 s none) = T1 text lim s o (seen.add 16) 9 (s + 1) none := by
  rw [s1_lit, if_neg (by omega), hc]; rfl
theorem s1_c (h : lim ≤ s ∨ text.getD s 0 ≠ 46) : M.step (T1 text lim s o seen 7 s none) = T1 text lim s o (seen.add 16) 7 s (some false) := by
  rw [s1_lit]
  rcases h with h | h
  · rw [if_pos h]
  · have : (text.getD s 0 == 46) = false := by simpa using h
    rw [this]; simp
/-- the answer is no: on to the next place, or the end -/
theorem s1_no (pc pos : Nat) : M.step (T1 text lim s o seen pc pos (some false)) = if s < lim then T1 text lim (s + 1) false seen 5 (s + 1) none else U1 text lim s o seen s false none := rfl
theorem s1_yes : M.runFor 3 (T1 text lim s o seen 9 (s + 1) none) = U1 text lim s o (seen.add 1) (s + 1) true (some .matched) := by
  cases o <;> rfl
theorem s1_end : M.runFor 1 (U1 text lim s o seen s false none) = U1 text lim s o seen s false (some .failed) := rfl
end

/-- a dot at the start of a line -/
def dotAt (text : Array Nat) (p : Nat) : Prop := bolAt text p = true ∧ text.getD p 0 = 46

/-- what a search finds -/
structure Found (P : Nat → Prop) (w : Nat → Nat) (lim s : Nat) (m : M) (b : Bool) : Prop where
  yes : b = true → m.outcome = some .matched ∧ s ≤ m.start ∧ m.start < lim ∧ P m.start ∧ (∀ q, s ≤ q → q < m.start → ¬ P q) ∧ m.handed = m.start + w m.start
  no : b = false → m.outcome = some .failed ∧ ∀ q, s ≤ q → q < lim → ¬ P q

theorem Found.back {P : Nat → Prop} {w : Nat → Nat} {lim s : Nat} {m : M} {b : Bool} (f : Found P w lim (s + 1) m b) (h : ¬ P s) : Found P w lim s m b := by
  refine ⟨fun hb => ?_, fun hb => ?_⟩
  · obtain ⟨h1, h2, h3, h4, h5, h6⟩ := f.yes hb
    refine ⟨h1, by omega, h3, h4, fun q hq hq' => ?_, h6⟩
    by_cases e : q = s
    · subst e; exact h
    · exact h5 q (by omega) hq'
  · obtain ⟨h1, h2⟩ := f.no hb
    refine ⟨h1, fun q hq hq' => ?_⟩
    by_cases e : q = s
    · subst e; exact h
    · exact h2 q (by omega) hq'
theorem Found.fail {P : Nat → Prop} {w : Nat → Nat} {lim s : Nat} {m : M} (h : m.outcome = some .failed) (h' : ∀ q, s ≤ q → q < lim → ¬ P q) : Found P w lim s m false := ⟨fun h => (nomatch h), fun _ => ⟨h, h'⟩⟩
theorem Found.hit {P : Nat → Prop} {w : Nat → Nat} {lim s : Nat} {m : M} (h : m.outcome = some .matched) (h1 : m.start = s) (h2 : s < lim) (h3 : P s) (h4 : m.handed = s + w s) : Found P w lim s m true :=
  ⟨fun _ => ⟨h, by omega, by omega, by rw [h1]; exact h3, fun q a b => by omega, by rw [h1]; exact h4⟩, fun h => (nomatch h)⟩

theorem search1 (text : Array Nat) (lim : Nat) : ∀ (k s : Nat) (o : Bool) (seen : Sre.Seen), lim - s = k → s ≤ lim → ∃ n b, n ≤ 3 * k + 6 ∧ Found (dotAt text) (fun _ => 1) lim s (M.runFor n (T1 text lim s o seen 5 s none)) b := by
  intro k
  induction k with
  | zero =>
    intro s o seen hk hs
    have he : s = lim := by omega
    by_cases hb : bolAt text s = true
    · refine ⟨4, false, by omega, .fail ?_ fun q _ _ => by omega⟩
      rw [runFor_step rfl, s1_a, if_pos hb, runFor_step rfl, s1_c (h := .inl (by omega)), runFor_step rfl, s1_no, if_neg (by omega), s1_end]; rfl
    · refine ⟨3, false, by omega, .fail ?_ fun q _ _ => by omega⟩
      rw [runFor_step rfl, s1_a, if_neg hb, runFor_step rfl, s1_no, if_neg (by omega), s1_end]; rfl
  | succ k ih =>
    intro s o seen hk hs
    by_cases hb : bolAt text s = true
    · by_cases hc : text.getD s 0 = 46
      · refine ⟨5, true, by omega, ?_⟩
        rw [runFor_step rfl, s1_a, if_pos hb, runFor_step rfl, s1_b (hl := by omega) (hc := hc), s1_yes]
        exact .hit rfl rfl (by omega) ⟨hb, hc⟩ rfl
      · obtain ⟨n, b, hn, hf⟩ := ih (s + 1) false (((seen.add 6).add 44).add 16) (by omega) (by omega)
        refine ⟨n + 3, b, by omega, ?_⟩
        rw [show n + 3 = n + 1 + 1 + 1 by omega, runFor_step rfl, s1_a, if_pos hb, runFor_step rfl, s1_c (h := .inr hc), runFor_step rfl, s1_no, if_pos (by omega)]
        exact hf.back fun q => hc q.2
    · obtain ⟨n, b, hn, hf⟩ := ih (s + 1) false ((seen.add 6).add 44) (by omega) (by omega)
      refine ⟨n + 2, b, by omega, ?_⟩
      rw [show n + 2 = n + 1 + 1 by omega, runFor_step rfl, s1_a, if_neg hb, runFor_step rfl, s1_no, if_pos (by omega)]
      exact hf.back fun q => hb q.1

theorem find1 (text : Array Nat) (lim s : Nat) (hs : s ≤ lim) : ∃ n b, n ≤ 3 * lim + 6 ∧ Found (dotAt text) (fun _ => 1) lim s (M.runFor n (Sre.forSearch code1 text 0 s lim false)) b := by
  by_cases h : s = lim
  · refine ⟨1, false, by omega, .fail ?_ fun q _ _ => by omega⟩
    have : Sre.forSearch code1 text 0 s lim false = M.say { code := code1, text, lim, start := s, pc := 5, pos := s, handed := s, marks := #[], seen := ({} : Sre.Seen).add 14 } false := by
      show (if (decide (s > lim) || decide (lim - s < 1)) = true then _ else _) = _
      rw [if_pos (by simp; omega)]; rfl
    rw [this]; rfl
  · have : Sre.forSearch code1 text 0 s lim false = T1 text lim s true (({} : Sre.Seen).add 14) 5 s none := by
      show (if (decide (s > lim) || decide (lim - s < 1)) = true then _ else _) = _
      rw [if_neg (by simp; omega)]; rfl
    rw [this]
    obtain ⟨n, b, hn, hf⟩ := search1 text lim (lim - s) s true (({} : Sre.Seen).add 14) rfl hs
    exact ⟨n, b, by omega, hf⟩
end Mine
end
-- part R3
section
open PySem PySem.W PyProof.Rows
set_option maxRecDepth 100000
set_option linter.unusedVariables false
namespace Mine
open PySem.Sre (M)

section
variable (text : Array Nat) (lim s : Nat) (o : Bool) (seen : Sre.Seen)
def kp0 : Sre.Kept := { lastmark := -1, lastindex := -1, whole := false, marks := #[] }
def f0 : Sre.Frame := { wait := .nextStart, pc := 10, pos := s, outermost := o }
def fb (pc : Nat) : Sre.Frame := { wait := .nextBranch, pc, pos := s, outermost := o, kept := kp0 }
def fn : Sre.Frame := { wait := .lookNot, pc := 26, pos := s + 1, outermost := o, kept := kp0 }
def T2 (ou : Bool) (pc pos hd : Nat) (ans : Option Bool) (fs : List Sre.Frame) (wt : Nat) : M := { code := code2, text, lim, start := s, lastStart := lim, pc, pos, handed := hd, outermost := ou, marks := #[], frames := fs, weight := wt, answer := ans, seen }
theorem lit12 (ou : Bool) (p hd : Nat) (fs : List Sre.Frame) (wt : Nat) : M.step (T2 text lim s seen ou 12 p hd none fs wt) = (if p ≥ lim then T2 text lim s (seen.add 16) ou 12 p hd (some false) fs wt else match (text.getD p 0 == 13) with | false => T2 text lim s (seen.add 16) ou 12 p hd (some false) fs wt | true => T2 text lim s (seen.add 16) ou 14 (p + 1) hd none fs wt) := by
  show (if p ≥ lim then _ else match PySem.Sre.accepts code2 12 (text.getD p 0) (seen.add 16) with | .error why => _ | .ok (false, seen) => _ | .ok (true, seen) => _) = _
  split
  · rfl
  · show (match (Except.ok (text.getD p 0 == 13, seen.add 16) : Except String (Bool × Sre.Seen)) with | .error why => _ | .ok (false, seen) => _ | .ok (true, seen) => _) = _
    cases text.getD p 0 == 13 <;> rfl
theorem lit12y (ou : Bool) (p hd : Nat) (fs : List Sre.Frame) (wt : Nat) (h1 : p < lim) (h2 : text.getD p 0 = 13) : M.step (T2 text lim s seen ou 12 p hd none fs wt) = T2 text lim s (seen.add 16) ou 14 (p + 1) hd none fs wt := by
  rw [lit12, if_neg (by omega), h2]; rfl
theorem lit12n (ou : Bool) (p hd : Nat) (fs : List Sre.Frame) (wt : Nat) (h : lim ≤ p ∨ text.getD p 0 ≠ 13) : M.step (T2 text lim s seen ou 12 p hd none fs wt) = T2 text lim s (seen.add 16) ou 12 p hd (some false) fs wt := by
  rw [lit12]
  rcases h with h | h
  · rw [if_pos h]
  · have : (text.getD p 0 == 13) = false := by simpa using h
    rw [this]; simp
theorem lit14 (ou : Bool) (p hd : Nat) (fs : List Sre.Frame) (wt : Nat) : M.step (T2 text lim s seen ou 14 p hd none fs wt) = (if p ≥ lim then T2 text lim s (seen.add 16) ou 14 p hd (some false) fs wt else match (text.getD p 0 == 10) with | false => T2 text lim s (seen.add 16) ou 14 p hd (some false) fs wt | true => T2 text lim s (seen.add 16) ou 16 (p + 1) hd none fs wt) := by
  show (if p ≥ lim then _ else match PySem.Sre.accepts code2 14 (text.getD p 0) (seen.add 16) with | .error why => _ | .ok (false, seen) => _ | .ok (true, seen) => _) = _
  split
  · rfl
  · show (match (Except.ok (text.getD p 0 == 10, seen.add 16) : Except String (Bool × Sre.Seen)) with | .error why => _ | .ok (false, seen) => _ | .ok (true, seen) => _) = _
    cases text.getD p 0 == 10 <;> rfl
theorem lit14y (ou : Bool) (p hd : Nat) (fs : List Sre.Frame) (wt : Nat) (h1 : p < lim) (h2 : text.getD p 0 = 10) : M.step (T2 text lim s seen ou 14 p hd none fs wt) = T2 text lim s (seen.add 16) ou 16 (p + 1) hd none fs wt := by
  rw [lit14, if_neg (by omega), h2]; rfl
theorem lit14n (ou : Bool) (p hd : Nat) (fs : List Sre.Frame) (wt : Nat) (h : lim ≤ p ∨ text.getD p 0 ≠ 10) : M.step (T2 text lim s seen ou 14 p hd none fs wt) = T2 text lim s (seen.add 16) ou 14 p hd (some false) fs wt := by
  rw [lit14]
  rcases h with h | h
  · rw [if_pos h]
  · have : (text.getD p 0 == 10) = false := by simpa using h
    rw [this]; simp
theorem lit19 (ou : Bool) (p hd : Nat) (fs : List Sre.Frame) (wt : Nat) : M.step (T2 text lim s seen ou 19 p hd none fs wt) = (if p ≥ lim then T2 text lim s (seen.add 16) ou 19 p hd (some false) fs wt else match (text.getD p 0 == 10) with | false => T2 text lim s (seen.add 16) ou 19 p hd (some false) fs wt | true => T2 text lim s (seen.add 16) ou 21 (p + 1) hd none fs wt) := by
  show (if p ≥ lim then _ else match PySem.Sre.accepts code2 19 (text.getD p 0) (seen.add 16) with | .error why => _ | .ok (false, seen) => _ | .ok (true, seen) => _) = _
  split
  · rfl
  · show (match (Except.ok (text.getD p 0 == 10, seen.add 16) : Except String (Bool × Sre.Seen)) with | .error why => _ | .ok (false, seen) => _ | .ok (true, seen) => _) = _
    cases text.getD p 0 == 10 <;> rfl
theorem lit19y (ou : Bool) (p hd : Nat) (fs : List Sre.Frame) (wt : Nat) (h1 : p < lim) (h2 : text.getD p 0 = 10) : M.step (T2 text lim s seen ou 19 p hd none fs wt) = T2 text lim s (seen.add 16) ou 21 (p + 1) hd none fs wt := by
  rw [lit19, if_neg (by omega), h2]; rfl
theorem lit19n (ou : Bool) (p hd : Nat) (fs : List Sre.Frame) (wt : Nat) (h : lim ≤ p ∨ text.getD p 0 ≠ 10) : M.step (T2 text lim s seen ou 19 p hd none fs wt) = T2 text lim s (seen.add 16) ou 19 p hd (some false) fs wt := by
  rw [lit19]
  rcases h with h | h
  · rw [if_pos h]
  · have : (text.getD p 0 == 10) = false := by simpa using h
    rw [this]; simp
theorem lit24 (ou : Bool) (p hd : Nat) (fs : List Sre.Frame) (wt : Nat) : M.step (T2 text lim s seen ou 24 p hd none fs wt) = (if p ≥ lim then T2 text lim s (seen.add 16) ou 24 p hd (some false) fs wt else match (text.getD p 0 == 13) with | false => T2 text lim s (seen.add 16) ou 24 p hd (some false) fs wt | true => T2 text lim s (seen.add 16) ou 26 (p + 1) hd none fs wt) := by
  show (if p ≥ lim then _ else match PySem.Sre.accepts code2 24 (text.getD p 0) (seen.add 16) with | .error why => _ | .ok (false, seen) => _ | .ok (true, seen) => _) = _
  split
  · rfl
  · show (match (Except.ok (text.getD p 0 == 13, seen.add 16) : Except String (Bool × Sre.Seen)) with | .error why => _ | .ok (false, seen) => _ | .ok (true, seen) => _) = _
    cases text.getD p 0 == 13 <;> rfl
theorem lit24y (ou : Bool) (p hd : Nat) (fs : List Sre.Frame) (wt : Nat) (h1 : p < lim) (h2 : text.getD p 0 = 13) : M.step (T2 text lim s seen ou 24 p hd none fs wt) = T2 text lim s (seen.add 16) ou 26 (p + 1) hd none fs wt := by
  rw [lit24, if_neg (by omega), h2]; rfl
theorem lit24n (ou : Bool) (p hd : Nat) (fs : List Sre.Frame) (wt : Nat) (h : lim ≤ p ∨ text.getD p 0 ≠ 13) : M.step (T2 text lim s seen ou 24 p hd none fs wt) = T2 text lim s (seen.add 16) ou 24 p hd (some false) fs wt := by
  rw [lit24]
  rcases h with h | h
  · rw [if_pos h]
  · have : (text.getD p 0 == 13) = false := by simpa using h
    rw [this]; simp
theorem lit29 (ou : Bool) (p hd : Nat) (fs : List Sre.Frame) (wt : Nat) : M.step (T2 text lim s seen ou 29 p hd none fs wt) = (if p ≥ lim then T2 text lim s (seen.add 16) ou 29 p hd (some false) fs wt else match (text.getD p 0 == 10) with | false => T2 text lim s (seen.add 16) ou 29 p hd (some false) fs wt | true => T2 text lim s (seen.add 16) ou 31 (p + 1) hd none fs wt) := by
  show (if p ≥ lim then _ else match PySem.Sre.accepts code2 29 (text.getD p 0) (seen.add 16) with | .error why => _ | .ok (false, seen) => _ | .ok (true, seen) => _) = _
  split
  · rfl
  · show (match (Except.ok (text.getD p 0 == 10, seen.add 16) : Except String (Bool × Sre.Seen)) with | .error why => _ | .ok (false, seen) => _ | .ok (true, seen) => _) = _
    cases text.getD p 0 == 10 <;> rfl
theorem lit29y (ou : Bool) (p hd : Nat) (fs : List Sre.Frame) (wt : Nat) (h1 : p < lim) (h2 : text.getD p 0 = 10) : M.step (T2 text lim s seen ou 29 p hd none fs wt) = T2 text lim s (seen.add 16) ou 31 (p + 1) hd none fs wt := by
  rw [lit29, if_neg (by omega), h2]; rfl
theorem lit29n (ou : Bool) (p hd : Nat) (fs : List Sre.Frame) (wt : Nat) (h : lim ≤ p ∨ text.getD p 0 ≠ 10) : M.step (T2 text lim s seen ou 29 p hd none fs wt) = T2 text lim s (seen.add 16) ou 29 p hd (some false) fs wt := by
  rw [lit29]
  rcases h with h | h
  · rw [if_pos h]
  · have : (text.getD p 0 == 10) = false := by simpa using h
    rw [this]; simp
theorem br10 : M.step (T2 text lim s seen o 10 s s none [f0 s o] 1) = T2 text lim s (seen.add 7) o 12 s s none [fb s o 11, f0 s o] 2 := rfl
theorem br11 (pc pos hd : Nat) (ou : Bool) : M.step (T2 text lim s seen ou pc pos hd (some false) [fb s o 11, f0 s o] 2) = T2 text lim s seen o 19 s s none [fb s o 18, f0 s o] 2 := rfl
theorem br18 (pc pos hd : Nat) (ou : Bool) : M.step (T2 text lim s seen ou pc pos hd (some false) [fb s o 18, f0 s o] 2) = T2 text lim s seen o 24 s s none [fb s o 23, f0 s o] 2 := rfl
theorem jmp16 (p hd : Nat) (fs : List Sre.Frame) : M.step (T2 text lim s seen o 16 p hd none fs 2) = T2 text lim s (seen.add 15) o 35 p hd none fs 2 := rfl
theorem jmp21 (p hd : Nat) (fs : List Sre.Frame) : M.step (T2 text lim s seen o 21 p hd none fs 2) = T2 text lim s (seen.add 15) o 35 p hd none fs 2 := rfl
theorem jmp32 (p hd : Nat) (fs : List Sre.Frame) : M.step (T2 text lim s seen o 32 p hd none fs 2) = T2 text lim s (seen.add 15) o 35 p hd none fs 2 := rfl
theorem not26 (hd : Nat) : M.step (T2 text lim s seen o 26 (s + 1) hd none [fb s o 23, f0 s o] 2) = T2 text lim s (seen.add 5) false 29 (s + 1) (s + 1) none [fn s o, fb s o 23, f0 s o] 3 := rfl
theorem not29 (pc pos hd : Nat) : M.step (T2 text lim s seen false pc pos hd (some false) [fn s o, fb s o 23, f0 s o] 3) = T2 text lim s seen o 32 (s + 1) hd none [fb s o 23, f0 s o] 2 := rfl
def U2 (h : Nat) (ans : Bool) (out : Option Sre.Outcome) : M := { code := code2, text, lim, start := s, lastStart := lim, pc := 10, pos := s, handed := h, outermost := o, marks := #[], frames := [], weight := 0, answer := some ans, seen, outcome := out }
theorem yes35 (p hd k : Nat) : M.runFor 4 (T2 text lim s seen o 35 p hd none [fb s o k, f0 s o] 2) = U2 text lim s o (seen.add 1) p true (some .matched) := by
  cases o <;> rfl

/-- an end of a line -/
def eolAt (text : Array Nat) (p : Nat) : Prop := text.getD p 0 = 10 ∨ text.getD p 0 = 13
def eolW (text : Array Nat) (lim p : Nat) : Nat := if text.getD p 0 = 13 ∧ p + 1 < lim ∧ text.getD (p + 1) 0 = 10 then 2 else 1

theorem at2 (hs : s < lim) (h : eolAt text s) : ∃ n, n ≤ 20 ∧ Found (eolAt text) (eolW text lim) lim s (M.runFor n (T2 text lim s seen o 10 s s none [f0 s o] 1)) true := by
  rcases h with h | h
  · refine ⟨9, by omega, ?_⟩
    rw [runFor_step rfl, br10, runFor_step rfl, lit12n (h := .inr (by omega)), runFor_step rfl, br11, runFor_step rfl, lit19y (h1 := hs) (h2 := h), runFor_step rfl, jmp21, yes35]
    refine .hit rfl rfl hs (.inl h) ?_
    show s + 1 = _
    unfold eolW; rw [if_neg (by omega)]
  · by_cases hn : s + 1 < lim ∧ text.getD (s + 1) 0 = 10
    · refine ⟨8, by omega, ?_⟩
      rw [runFor_step rfl, br10, runFor_step rfl, lit12y (h1 := hs) (h2 := h), runFor_step rfl, lit14y (h1 := hn.1) (h2 := hn.2), runFor_step rfl, jmp16, yes35]
      refine .hit rfl rfl hs (.inr h) ?_
      show s + 1 + 1 = _
      unfold eolW; rw [if_pos ⟨h, hn⟩]
    · have hn' : lim ≤ s + 1 ∨ text.getD (s + 1) 0 ≠ 10 := by
        by_cases q : s + 1 < lim
        · exact .inr fun e => hn ⟨q, e⟩
        · exact .inl (by omega)
      refine ⟨15, by omega, ?_⟩
      rw [runFor_step rfl, br10, runFor_step rfl, lit12y (h1 := hs) (h2 := h), runFor_step rfl, lit14n (h := hn'), runFor_step rfl, br11, runFor_step rfl, lit19n (h := .inr (by omega)), runFor_step rfl, br18, runFor_step rfl, lit24y (h1 := hs) (h2 := h), runFor_step rfl, not26, runFor_step rfl, lit29n (h := hn'), runFor_step rfl, not29, runFor_step rfl, jmp32, yes35]
      refine .hit rfl rfl hs (.inr h) ?_
      show s + 1 = _
      unfold eolW; rw [if_neg (fun q => hn q.2)]

theorem in2 (c : Nat) : Sre.inSet code2 c 36 5 true seen = if c = 10 then .ok (true, seen.add 16) else if c = 13 then .ok (true, (seen.add 16).add 16) else .ok (false, ((seen.add 16).add 16).add 0) := by
  show (if (c == 10) = true then _ else (if (c == 13) = true then _ else _)) = _
  simp only [beq_iff_eq]
  rfl
end

theorem adm2 (text : Array Nat) (lim : Nat) (m : M) (hc : m.code = code2) (ht : m.text = text) (hl : m.lim = lim) : ∀ (k s : Nat) (seen : Sre.Seen), lim - s = k → ∃ seen', 
    (∃ p, Sre.M.admitted m (k + 1) s seen = .ok (some p, seen') ∧ s ≤ p ∧ p < lim ∧ eolAt text p ∧ ∀ q, s ≤ q → q < p → ¬ eolAt text q) ∨ (Sre.M.admitted m (k + 1) s seen = .ok (none, seen') ∧ ∀ q, s ≤ q → q < lim → ¬ eolAt text q) := by
  intro k
  induction k with
  | zero =>
    intro s seen hk
    refine ⟨seen, .inr ⟨?_, fun q _ _ => by omega⟩⟩
    show (if s ≥ m.lim then _ else _) = _
    rw [if_pos (by omega)]
  | succ k ih =>
    intro s seen hk
    have e0 : Sre.M.admitted m (k + 1 + 1) s seen = (match Sre.inSet code2 (text.getD s 0) 36 5 true seen with
      | .ok (true, seen) => .ok (some s, seen)
      | .ok (false, seen) => Sre.M.admitted m (k + 1) (s + 1) seen
      | .error why => .error why) := by
      show (if s ≥ m.lim then _ else _) = _
      rw [if_neg (by omega), hc, ht]; rfl
    rw [e0, in2]
    by_cases h1 : text.getD s 0 = 10
    · rw [if_pos h1]
      exact ⟨_, .inl ⟨s, rfl, Nat.le_refl _, by omega, .inl h1, fun q a b => by omega⟩⟩
    · rw [if_neg h1]
      by_cases h2 : text.getD s 0 = 13
      · rw [if_pos h2]
        exact ⟨_, .inl ⟨s, rfl, Nat.le_refl _, by omega, .inr h2, fun q a b => by omega⟩⟩
      · rw [if_neg h2]
        have hne : ¬ eolAt text s := fun q => by rcases q with q | q <;> contradiction
        obtain ⟨seen', h⟩ := ih (s + 1) (((seen.add 16).add 16).add 0) (by omega)
        refine ⟨seen', ?_⟩
        rcases h with ⟨p, a, b, c, d, e⟩ | ⟨a, b⟩
        · refine .inl ⟨p, a, by omega, c, d, fun q x y => ?_⟩
          by_cases g : q = s
          · subst g; exact hne
          · exact e q (by omega) y
        · refine .inr ⟨a, fun q x y => ?_⟩
          by_cases g : q = s
          · subst g; exact hne
          · exact b q (by omega) y

theorem Found.from {P : Nat → Prop} {w : Nat → Nat} {lim s p : Nat} {m : M} (f : Found P w lim p m true) (hs : s ≤ p) (h : ∀ q, s ≤ q → q < p → ¬ P q) : Found P w lim s m true := by
  refine ⟨fun hb => ?_, fun hb => (nomatch hb)⟩
  obtain ⟨h1, h2, h3, h4, h5, h6⟩ := f.yes hb
  refine ⟨h1, by omega, h3, h4, fun q hq hq' => ?_, h6⟩
  by_cases e : q < p
  · exact h q hq e
  · exact h5 q (by omega) hq'

theorem find2 (text : Array Nat) (lim s : Nat) (hs : s ≤ lim) : ∃ n b, n ≤ 3 * lim + 20 ∧ Found (eolAt text) (eolW text lim) lim s (M.runFor n (Sre.forSearch code2 text 0 s lim false)) b := by
  by_cases h : s = lim
  · refine ⟨1, false, by omega, .fail ?_ fun q _ _ => by omega⟩
    have : Sre.forSearch code2 text 0 s lim false = M.say { code := code2, text, lim, start := s, pc := 10, pos := s, handed := s, marks := #[], seen := ({} : Sre.Seen).add 14 } false := by
      show (if (decide (s > lim) || decide (lim - s < 1)) = true then _ else _) = _
      rw [if_pos (by simp; omega)]; rfl
    rw [this]; rfl
  · let m0 : M := { code := code2, text, lim, start := s, lastStart := lim, pc := 10, pos := s, handed := s, marks := #[], seen := ({} : Sre.Seen).add 14 }
    have e : Sre.forSearch code2 text 0 s lim false = (match Sre.M.admitted m0 (lim + 1 - s) s (({} : Sre.Seen).add 14) with
      | .ok (some s, seen) => { m0 with mustAdvance := false, seen }.attemptAt s true
      | .ok (none, seen) => { m0 with seen }.say false
      | .error why => m0.stick why) := by
      show (if (decide (s > lim) || decide (lim - s < 1)) = true then _ else _) = _
      rw [if_neg (by simp; omega)]; rfl
    obtain ⟨seen', hx⟩ := adm2 text lim m0 rfl rfl rfl (lim - s) s (({} : Sre.Seen).add 14) rfl
    rw [e, show lim + 1 - s = lim - s + 1 by omega]
    rcases hx with ⟨p, a, b, c, d, f⟩ | ⟨a, b⟩
    · rw [a]
      obtain ⟨n, hn, hf⟩ := at2 text lim p true seen' c d
      exact ⟨n, true, by omega, Found.from hf b f⟩
    · rw [a]
      refine ⟨1, false, by omega, .fail rfl b⟩
end Mine
end
-- part R4
section
open PySem PySem.W PyProof.Rows
set_option maxRecDepth 100000
set_option linter.unusedVariables false
namespace Mine
theorem slot_sub : Slot "re.Pattern" "sub" "re.Pattern.sub" :=
  .of (owner := "re.Pattern") (n := "sub") (by rw [typeLookup_type, builtinLookup_eq_fast]; kernel_rfl) (by decide +kernel) (by decide +kernel) (by decide +kernel)
    (by first | exact .inl (by decide +kernel) | exact .inr (by decide +kernel)) (by rw [isSubtype_type]; kernel_rfl)
theorem type_sub : typeOf (.builtin "re.Pattern.sub") = pure (.type "method_descriptor") := by show builtinType _ = _; rw [builtinType_eq_fast]; kernel_rfl
theorem entry_sub : entryFor table "re.Pattern.sub" = some Builtin.«re.Pattern.sub» := entryFor_of_tree (by kernel_rfl)
theorem entry_sub_loop : entryFor table "re.Pattern.sub.loop" = some Builtin.«re.Pattern.sub.loop» := entryFor_of_tree (by kernel_rfl)
theorem plain_sub_loop : plainId "re.Pattern.sub.loop" = true := by decide +kernel
theorem plainAttrs_pat : PlainAttrs "re.Pattern" :=
  ⟨⟨"object.__getattribute__", by rw [typeLookup_type, builtinLookup_eq_fast]; kernel_rfl, by decide +kernel⟩, by rw [typeLookup_type, builtinLookup_eq_fast]; kernel_rfl⟩
theorem args_sub_3 (a b c : Value) : argsOk "re.Pattern.sub" ⟨[a, b, c], []⟩ := by
  unfold argsOk; kernel_rfl
end Mine
end
-- part R5
section
open PySem PySem.W PyProof.Rows
set_option maxRecDepth 100000
set_option linter.unusedVariables false
namespace Mine
open PySem.Sre (M)
open PySem.Builtin.Re (reWholeTarget reNextFound ReTarget)

/-- what a substitution makes of the text from a place on -/
inductive Sub (P : Nat → Prop) (w : Nat → Nat) (rep : List Nat) (text : Array Nat) (lim : Nat) : Nat → List Nat → Prop
  | stop {d : Nat} (hd : d ≤ lim) (h : ∀ q, d ≤ q → q < lim → ¬ P q) : Sub P w rep text lim d (text.extract d lim).toList
  | hit {d p : Nat} {out : List Nat} (h1 : d ≤ p) (h2 : p < lim) (h3 : P p) (h4 : ∀ q, d ≤ q → q < p → ¬ P q) (r : Sub P w rep text lim (p + w p) out) : Sub P w rep text lim d ((text.extract d p).toList ++ (rep ++ out))

def J (ys : List Str) : List Nat := ys.flatMap fun y => y.cps.toList
theorem J_snoc (ys : List Str) (y : Str) : J (ys ++ [y]) = J ys ++ y.cps.toList := by simp [J]
theorem foldl_J : ∀ (ys : List Str) (acc : Array Nat), (ys.foldl (fun acc p => acc ++ (⟨#[]⟩ : Str).cps ++ p.cps) acc).toList = acc.toList ++ J ys
  | [], acc => by simp [J]
  | y :: r, acc => by
    rw [List.foldl_cons, foldl_J r]
    simp [J]
theorem join_J (ys : List Str) : Txt.join ⟨#[]⟩ ys = ⟨(J ys).toArray⟩ := by
  show (⟨(ys.drop 1).foldl (fun acc p => acc ++ (⟨#[]⟩ : Str).cps ++ p.cps) (ys.headD Str.empty).cps⟩ : Str) = _
  congr 1
  apply Array.toList_inj.mp
  rw [foldl_J]
  cases ys with
  | nil => simp [J, Str.empty]
  | cons y r => simp [J]
theorem J_len : ∀ ys : List Str, (ys.map (·.length)).sum = (J ys).length
  | [] => rfl
  | y :: r => by
    rw [List.map_cons, List.sum_cons, J_len r]
    simp [J, Str.length]
theorem StrsAre.snoc {vs : List Value} {ys : List Str} (h : StrsAre vs ys) (y : Str) (t : Tok) : StrsAre (vs ++ [.str y t]) (ys ++ [y]) := by
  induction h with
  | nil => exact .cons y t .nil
  | cons z u r ih => exact .cons z u ih
theorem StrsAre.len {vs : List Value} {ys : List Str} (h : StrsAre vs ys) : vs.length = ys.length := by
  induction h with
  | nil => rfl
  | cons z u r ih => simp [ih]

/-- a compiled pattern -/
structure Pat (h : Heap) (pa ca : Addr) (code : Array Nat) : Prop where
  fs : ∃ o v0 v1 v3 v4, h.get? pa = some o ∧ o.data = .fields #[v0, v1, rawInt 0, v3, v4, .ref ca, rawInt 0]
  cs : ∃ o items k, h.get? ca = some o ∧ o.data = .seq items k ∧ (items.map Builtin.Re.reRawOf).map (·.toNat) = code
theorem Pat.at {h h' : Heap} {pa ca : Addr} {code : Array Nat} (x : Pat h pa ca code) (h1 : ∀ o, h.get? pa = some o → h'.get? pa = some o) (h2 : ∀ o, h.get? ca = some o → h'.get? ca = some o) : Pat h' pa ca code := by
  obtain ⟨o, v0, v1, v3, v4, ho, hd⟩ := x.fs
  obtain ⟨o', it, k, ho', hd', e⟩ := x.cs
  exact ⟨⟨o, v0, v1, v3, v4, h1 o ho, hd⟩, ⟨o', it, k, h2 o' ho', hd', e⟩⟩

section
variable {prog : Program} {w : World} {A : Around} {s : Shared} {E : Value → Shared → Prop} {pa ca : Addr} {code : Array Nat}

theorem wp_target {Md : Model} {tx : Str} {t : Tok} {Q : ReTarget → Shared → Prop} (p : Pat s.heap pa ca code)
    (h : Q { pattern := .ref pa, string := .str tx t, code, text := tx.cps, kind := 0, groups := 0, pos := 0, lim := tx.cps.size } s) : wpAny Md A (reWholeTarget (.ref pa) (.str tx t)) Q E s := by
  obtain ⟨o, v0, v1, v3, v4, ho, hd⟩ := p.fs
  obtain ⟨o', it, k, ho', hd', rfl⟩ := p.cs
  unfold reWholeTarget
  refine wpAny_bind ?_
  show wpAny Md A (load pa >>= _) _ _ s
  refine wpAny_bind (wpAny_load ho ?_)
  rw [hd]
  refine wpAny_pure (wpAny_bind (wpAny_pure ?_))
  show wpAny Md A (seqItems? (.ref ca) >>= _ >>= _) _ _ s
  refine wpAny_bind (wpAny_bind (wpAny_seqItems ho' hd' (wpAny_pure (wpAny_pure ?_))))
  exact h

theorem post_joinT {sep : Str} {Q : Value → Shared → Prop} : ∀ (l : List (Str × Tok)), ((Txt.join sep (l.map (·.1))).length ≤ sizeLine ∧ ∀ t' k, s.toks ≤ k → Q (.str (Txt.join sep (l.map (·.1))) t') { s with toks := k }) → (joinMade sep l).post Q s
  | [], h => ⟨h.1, h.2 _ _ (Nat.le_succ _)⟩
  | [p], h => h.2 p.2 s.toks (Nat.le_refl _)
  | _ :: _ :: _, h => ⟨h.1, h.2 _ _ (Nat.le_succ _)⟩
theorem join_listT {x : Str} {t : Tok} {D : Addr} {items : Array Value} {ys : List Str} {Q : Value → Shared → Prop} (hl : s.heap.IsList D items) (hi : StrsAre items.toList ys) (hok : (ys.map (·.length)).sum + ys.length * x.length ≤ 16777216)
    (h : ∀ t' k, s.toks ≤ k → Q (.str (Txt.join x ys) t') { s with toks := k }) : wpAny (model prog w) A (call (.builtin "str.join") [.str x t, .ref D]) Q E s := by
  obtain ⟨l, hv, ht⟩ := strsAre_values hi
  have e : items = (strValues l).toArray := by rw [← hv]
  subst e
  subst ht
  have hok' := joinOk_of hok
  unfold JoinOk at hok'
  rw [Bool.not_eq_true'] at hok'
  exact call_meets F.slot_str_join (typeIs_str _ _ _) F.entry_str_join (F.args_str_join_2 _ _) (meets_str_join_list x t D l hok') ⟨hl, post_joinT l ⟨joinFit_length hok', h⟩⟩
end
end Mine
end
-- part R6
section
open PySem PySem.W PyProof.Rows
set_option maxRecDepth 100000
set_option linter.unusedVariables false
namespace Mine
open PySem.Sre (M)
open PySem.Builtin.Re (reWholeTarget reNextFound ReTarget)

section
variable {prog : Program} {w : World} {A : Around} {s : Shared} {E : Value → Shared → Prop} {pa ca : Addr} {code : Array Nat}

theorem wp_push {Md : Model} {L : Addr} {vs : List Value} {v : Value} {Q : Unit → Shared → Prop} (hl : s.heap.PlainList L vs.toArray) (hz : vs.length ≤ sizeLine)
    (h : ∀ h', h'.PlainList L (vs ++ [v]).toArray → (∀ b o, b ≠ L → s.heap.get? b = some o → h'.get? b = some o) → Q () { s with heap := h' }) : wpAny Md A (updateSeq L (·.push v)) Q E s := by
  obtain ⟨n, hn⟩ := id hl
  have q := PySem.IsL.update (l := L) (h := s.heap) hn (fun xs => xs.push v)
  rw [show vs.toArray.push v = (vs ++ [v]).toArray by simp] at q
  exact wpAny_updateSeq hn rfl (h _ ⟨_, q⟩ fun b o hb e => (Heap.get?_update_other _ _ (Ne.symm hb)).trans e) (by rw [List.size_toArray]; exact hz) (by rw [Array.size_push, List.size_toArray]; omega)

theorem wp_slice {Md : Model} {text : Array Nat} {b e : Nat} {Q : Value → Shared → Prop} (hz : (text.extract b e).size ≤ sizeLine) (h : Q (.str ⟨text.extract b e⟩ s.toks) { s with toks := s.toks + 1 }) : wpAny Md A (Builtin.Re.reSlice text 0 b e) Q E s := by
  show wpAny _ _ (mkStr ⟨text.extract b e⟩) _ _ s
  exact wpAny_mkStr h hz
/-- one turn's search -/
theorem wp_found {Md : Model} {P : Nat → Prop} {wd : Nat → Nat} {tx : Str} {t : Tok} {d : Nat} {Q : Option M → Shared → Prop}
    (hf : ∃ n b, n < 2 ^ 64 ∧ Found P wd tx.cps.size d (M.runFor n (Sre.forSearch code tx.cps 0 d tx.cps.size false)) b)
    (hy : ∀ m : M, d ≤ m.start → m.start < tx.cps.size → P m.start → (∀ q, d ≤ q → q < m.start → ¬ P q) → m.handed = m.start + wd m.start → Q (some m) s)
    (hn : (∀ q, d ≤ q → q < tx.cps.size → ¬ P q) → Q none s) :
    wpAny Md A (reNextFound { pattern := .ref pa, string := .str tx t, code, text := tx.cps, kind := 0, groups := 0, pos := 0, lim := tx.cps.size } d false) Q E s := by
  obtain ⟨n, b, hl, f⟩ := hf
  unfold reNextFound
  refine wp_toEnd (b := b) n hl ?_ ?_
  · cases b with
    | true => exact (f.yes rfl).1
    | false => exact (f.no rfl).1
  · cases b with
    | true => obtain ⟨_, h2, h3, h4, h5, h6⟩ := f.yes rfl; exact hy _ h2 h3 h4 h5 h6
    | false => exact hn (f.no rfl).2

def subArgs (pa L : Addr) (tx rp : Str) (t u : Tok) (nn : Int) (d : Nat) : Args := ⟨[.ref pa, .str tx t, .str rp u, rawInt 0, rawInt 0, rawInt nn, rawInt d, rawInt d, .bool false, .ref L, .bool false], []⟩

theorem sub_turn {P : Nat → Prop} {wd : Nat → Nat} {tx rp : Str} {t u : Tok} {nn : Int} {d : Nat} {L : Addr} {vs : List Value} {Q : Fin → Shared → Prop}
    (hp : Pat s.heap pa ca code) (hl : s.heap.PlainList L vs.toArray) (hz : vs.length + 2 ≤ sizeLine) (hzt : tx.cps.size ≤ sizeLine)
    (hf : ∃ n b, n < 2 ^ 64 ∧ Found P wd tx.cps.size d (M.runFor n (Sre.forSearch code tx.cps 0 d tx.cps.size false)) b) (hw : ∀ p, 0 < wd p)
    (hy : ∀ (p : Nat) (h' : Heap) (tk : Nat) (vs' : List Value), d ≤ p → p < tx.cps.size → P p → (∀ q, d ≤ q → q < p → ¬ P q) → (vs' = vs ∧ p = d ∨ ∃ t', vs' = vs ++ [Value.str ⟨tx.cps.extract d p⟩ t']) → h'.PlainList L (vs' ++ [Value.str rp u]).toArray → (∀ b o, b ≠ L → s.heap.get? b = some o → h'.get? b = some o) → s.toks ≤ tk →
      Q (.again (.builtin "re.Pattern.sub.loop" (subArgs pa L tx rp t u (nn + 1) (p + wd p)))) { s with heap := h', toks := tk })
    (hn : ∀ (h' : Heap) (tk : Nat) (vs' : List Value), (∀ q, d ≤ q → q < tx.cps.size → ¬ P q) → (vs' = vs ∧ tx.cps.size ≤ d ∨ ∃ t', vs' = vs ++ [Value.str ⟨tx.cps.extract d tx.cps.size⟩ t']) → h'.PlainList L vs'.toArray → (∀ b o, b ≠ L → s.heap.get? b = some o → h'.get? b = some o) → s.toks ≤ tk →
      wpAny (model prog w) A (do
        let joiner ← Builtin.Re.reSlice tx.cps 0 0 0
        let text ← if ((← seqItems? (.ref L)).getD #[]).isEmpty then pure joiner else call (.builtin "str.join") [joiner, .ref L]
        ret text) Q E { s with heap := h', toks := tk }) :
    wpAny (model prog w) A (Builtin.«re.Pattern.sub.loop» (subArgs pa L tx rp t u nn d)) Q E s := by
  unfold Builtin.«re.Pattern.sub.loop» subArgs rawInt
  simp only []
  refine wpAny_bind (wp_target hp ?_)
  rw [if_pos (show ((0 : Int) == 0) = true from rfl)]
  refine wpAny_bind (wpAny_of_eq (show Builtin.Re.reLiteralCannotBeTurned (Value.str rp u) = pure () from rfl) ?_)
  rw [if_neg (show ¬ ((0 : Int) != 0 && decide (nn ≥ 0)) = true from Bool.false_ne_true)]
  refine wpAny_bind (wp_found (d := d) hf ?_ ?_)
  · intro m h1 h2 h3 h4 h5
    have fin : ∀ (s' : Shared) (vs' : List Value), (∃ h' tk, s' = { s with heap := h', toks := tk } ∧ h'.PlainList L vs'.toArray ∧ (∀ b o, b ≠ L → s.heap.get? b = some o → h'.get? b = some o) ∧ s.toks ≤ tk) → vs'.length ≤ sizeLine → (vs' = vs ∧ m.start = d ∨ ∃ t', vs' = vs ++ [Value.str ⟨tx.cps.extract d m.start⟩ t']) →
        wpAny (model prog w) A (do
          let item ← pure (Value.str rp u)
          if (item != Value.none) = true then do
            updateSeq L fun x => x.push item
            again (.builtin "re.Pattern.sub.loop" ⟨[.ref pa, .str tx t, .str rp u, .int 0 0, .int 0 0, .int (nn + 1) 0, .int m.handed 0, .int m.handed 0, .bool (m.handed == m.start), .ref L, .bool false], []⟩)
          else again (.builtin "re.Pattern.sub.loop" ⟨[.ref pa, .str tx t, .str rp u, .int 0 0, .int 0 0, .int (nn + 1) 0, .int m.handed 0, .int m.handed 0, .bool (m.handed == m.start), .ref L, .bool false], []⟩)) Q E s' := by
      rintro s' vs' ⟨h', tk, rfl, hl', hk', htk⟩ hz' hv'
      refine wpAny_bind (wpAny_pure ?_)
      rw [if_pos (show (Value.str rp u != Value.none) = true from rfl)]
      refine wpAny_bind (wp_push hl' hz' fun h'' hl'' hk'' => wpAny_pure ?_)
      have hh := hy m.start h'' tk vs' h1 h2 h3 h4 hv' hl'' (fun b o hb e => hk'' b o hb (hk' b o hb e)) htk
      have hw' := hw m.start
      have e2 : (m.handed == m.start) = false := by rw [h5]; simp; omega
      rw [e2, h5]
      exact hh
    show wpAny _ _ (if d < m.start then _ else _) _ _ s
    by_cases hlt : d < m.start
    · rw [if_pos hlt]
      refine wpAny_bind (wp_slice (text := tx.cps) (b := d) (e := m.start) (by rw [Array.size_extract]; omega) ?_)
      refine wpAny_bind (wp_push hl (by omega) fun h' hl' hk' => ?_)
      rw [if_pos (show ((0 : Int) == 0) = true from rfl)]
      exact fin _ _ ⟨h', _, rfl, hl', hk', Nat.le_succ _⟩ (by simp; omega) (.inr ⟨_, rfl⟩)
    · rw [if_neg hlt]
      rw [if_pos (show ((0 : Int) == 0) = true from rfl)]
      exact fin _ _ ⟨s.heap, s.toks, rfl, hl, fun _ _ _ e => e, Nat.le_refl _⟩ (by omega) (.inl ⟨rfl, by omega⟩)
  · intro hno
    show wpAny _ _ (if d < tx.cps.size then _ else _) _ _ s
    by_cases hlt : d < tx.cps.size
    · rw [if_pos hlt]
      refine wpAny_bind (wp_slice (text := tx.cps) (b := d) (e := tx.cps.size) (by rw [Array.size_extract]; omega) ?_)
      refine wpAny_bind (wp_push hl (by omega) fun h' hl' hk' => ?_)
      exact hn h' _ _ hno (.inr ⟨_, rfl⟩) hl' hk' (Nat.le_succ _)
    · rw [if_neg hlt]
      exact hn s.heap s.toks _ hno (.inl ⟨rfl, by omega⟩) hl (fun _ _ _ e => e) (Nat.le_refl _)
end
end Mine
end
-- part R7
section
open PySem PySem.W PyProof.Rows
set_option maxRecDepth 100000
set_option linter.unusedVariables false
namespace Mine
open PySem.Sre (M)

section
variable {prog : Program} {w : World} {A : Around} {s : Shared} {E : Value → Shared → Prop} {pa ca : Addr} {code : Array Nat}

theorem sub_loop {P : Nat → Prop} {wd : Nat → Nat} {tx rp : Str} {t u : Tok} {L : Addr} {R : Result → Shared → Prop} (hzt : tx.cps.size ≤ 1000000) (hzr : rp.cps.size ≤ 8)
    (hf : ∀ d, d ≤ tx.cps.size → ∃ n b, n < 2 ^ 64 ∧ Found P wd tx.cps.size d (M.runFor n (Sre.forSearch code tx.cps 0 d tx.cps.size false)) b)
    (hw : ∀ p, 0 < wd p) (hw' : ∀ p, p < tx.cps.size → P p → p + wd p ≤ tx.cps.size) (hpL : pa ≠ L) (hcL : ca ≠ L) {d : Nat} {out : List Nat} (S : Sub P wd rp.cps.toList tx.cps tx.cps.size d out) :
    ∀ (s : Shared) (nn : Int) (vs : List Value) (ys : List Str), d ≤ tx.cps.size → Pat s.heap pa ca code → s.heap.PlainList L vs.toArray → StrsAre vs ys → vs.length ≤ 2 * d → (J ys).length ≤ 9 * d →
    (∀ h' tk t', (∀ b o, b ≠ L → s.heap.get? b = some o → h'.get? b = some o) → s.toks ≤ tk → R (.ok (.ret (.str ⟨(J ys ++ out).toArray⟩ t'))) { s with heap := h', toks := tk }) →
    codeAny (model prog w) A (.builtin "re.Pattern.sub.loop" (subArgs pa L tx rp t u nn d)) R s := by
  have hsl : (4000000 : Nat) ≤ sizeLine := by decide
  induction S with
  | @stop d hd hno =>
    intro s nn vs ys hdl hp hl hs hvl hJ hR
    refine codeAny_builtin entry_sub_loop ?_
    rw [Around.under_plainId plain_sub_loop _]
    refine sub_turn (P := P) (wd := wd) hp hl (by omega) (by omega) (hf d hdl) hw (fun p h' tk vs' h1 h2 h3 => absurd h3 (hno p h1 h2)) fun h' tk vs' _ hv' hl' hk' htk => ?_
    obtain ⟨ys', hs', e⟩ : ∃ ys', StrsAre vs' ys' ∧ J ys' = J ys ++ (tx.cps.extract d tx.cps.size).toList := by
      rcases hv' with ⟨rfl, h⟩ | ⟨t', rfl⟩
      · refine ⟨ys, hs, ?_⟩
        have : d = tx.cps.size := by omega
        subst this; simp
      · exact ⟨_, Mine.StrsAre.snoc hs _ _, J_snoc _ _⟩
    have hlenJ : (J ys').length ≤ 9 * d + tx.cps.size := by
      have : (tx.cps.extract d tx.cps.size).toList.length ≤ tx.cps.size := by rw [Array.length_toList (xs := tx.cps.extract d tx.cps.size), Array.size_extract]; omega
      rw [e, List.length_append]; omega
    refine wpAny_bind (wp_slice (by rw [Array.size_extract]; omega) ?_)
    have e0 : tx.cps.extract 0 0 = #[] := by simp
    rw [e0]
    obtain ⟨n, hn⟩ := id hl'
    refine wpAny_bind (wpAny_seqItems hn rfl ?_)
    by_cases he : vs' = []
    · subst he
      rw [if_pos (by rfl)]
      refine wpAny_bind (wpAny_pure (wpAny_pure ?_))
      have hys : ys' = [] := by cases hs'; rfl
      subst hys
      have := hR h' (tk + 1) tk hk' (by omega)
      rw [← e] at this; exact this
    · rw [if_neg (by simpa using he)]
      refine wpAny_bind (join_listT hl'.isList (by simpa using hs') ?_ fun t' k hk9 => wpAny_pure ?_)
      · rw [J_len]; show _ + _ * 0 ≤ _; omega
      · rw [join_J, e]
        exact hR h' k t' hk' (Nat.le_trans htk (Nat.le_trans (Nat.le_succ _) hk9))
  | @hit d p out h1 h2 h3 h4 r ih =>
    intro s nn vs ys hdl hp hl hs hvl hJ hR
    refine codeAny_builtin entry_sub_loop ?_
    rw [Around.under_plainId plain_sub_loop _]
    refine sub_turn (P := P) (wd := wd) hp hl (by omega) (by omega) (hf d hdl) hw (fun p' h' tk vs' g1 g2 g3 g4 hv' hl' hk' htk => ?_) fun h' tk vs' hno => absurd h3 (hno p h1 h2)
    have hpp : p' = p := by
      by_cases q : p' < p
      · exact absurd g3 (h4 p' g1 q)
      · by_cases q' : p < p'
        · exact absurd h3 (g4 p h1 q')
        · omega
    subst hpp
    refine ⟨plainId_quiet plain_sub_loop _, ?_⟩
    obtain ⟨ys', hs', e, hlv⟩ : ∃ ys', StrsAre vs' ys' ∧ J ys' = J ys ++ (tx.cps.extract d p').toList ∧ vs'.length ≤ vs.length + 1 := by
      rcases hv' with ⟨rfl, h⟩ | ⟨t', rfl⟩
      · refine ⟨ys, hs, ?_, by omega⟩
        subst h; simp
      · exact ⟨_, Mine.StrsAre.snoc hs _ _, J_snoc _ _, by simp⟩
    have hwp := hw p'
    refine ih _ (nn + 1) (vs' ++ [.str rp u]) (ys' ++ [rp]) (hw' p' h2 h3) (hp.at (fun o eo => hk' pa o hpL eo) fun o eo => hk' ca o hcL eo) hl' (Mine.StrsAre.snoc hs' rp u) (by simp; omega) ?_ fun h'' tk' t' hk'' htk' => ?_
    · have a1 : (tx.cps.extract d p').toList.length ≤ p' - d := by rw [Array.length_toList (xs := tx.cps.extract d p'), Array.size_extract]; omega
      have a2 : rp.cps.toList.length ≤ 8 := by rw [Array.length_toList (xs := rp.cps)]; exact hzr
      rw [J_snoc, e, List.length_append, List.length_append]; omega
    · rw [J_snoc, e]
      have := hR h'' tk' t' (fun b o hb eb => hk'' b o hb (hk' b o hb eb)) (Nat.le_trans htk htk')
      rw [show J ys ++ (tx.cps.extract d p').toList ++ rp.cps.toList ++ out = J ys ++ ((tx.cps.extract d p').toList ++ (rp.cps.toList ++ out)) by simp]
      exact this
end
end Mine
end
-- part R8
section
open PySem PySem.W PyProof.Rows
set_option maxRecDepth 100000
set_option linter.unusedVariables false
namespace Mine
open PySem.Sre (M)
theorem nocall_str : typeLookup (.type "str") "__call__" = pure none := by rw [typeLookup_type, builtinLookup_eq_fast]; kernel_rfl

section
variable {prog : Program} {w : World} {A : Around} {s : Shared} {E : Value → Shared → Prop} {pa ca : Addr} {code : Array Nat}

theorem call_sub {P : Nat → Prop} {wd : Nat → Nat} {tx rp : Str} {t u : Tok} {Q : Value → Shared → Prop} (hzt : tx.cps.size ≤ 1000000) (hzr : rp.cps.size ≤ 8) (hrc : rp.cps.contains 92 = false)
    (hp : Pat s.heap pa ca code) (hT : s.TypeIs (.ref pa) "re.Pattern")
    (hf : ∀ d, d ≤ tx.cps.size → ∃ n b, n < 2 ^ 64 ∧ Found P wd tx.cps.size d (M.runFor n (Sre.forSearch code tx.cps 0 d tx.cps.size false)) b)
    (hw : ∀ p, 0 < wd p) (hw' : ∀ p, p < tx.cps.size → P p → p + wd p ≤ tx.cps.size) {out : List Nat} (S : Sub P wd rp.cps.toList tx.cps tx.cps.size 0 out)
    (hQ : ∀ t' s', Keeps s s' → Q (.str ⟨out.toArray⟩ t') s') :
    wpAny (model prog w) A (call (.builtin "re.Pattern.sub") [.ref pa, .str rp u, .str tx t]) Q E s := by
  refine wpAny_call (codeAny_call_builtin slot_sub.plain entry_sub (slot_sub.check _ _ _ _ _ _ _ _ hT (args_sub_3 _ _ _) ?_))
  unfold Builtin.«re.Pattern.sub» Builtin.Re.reSubstitute
  simp only []
  refine wpAny_bind (wpAny_of_eq (show Builtin.Re.reNamed "re.Pattern.sub" "sub" ["repl", "string", "count"] 2 [.str rp u, .str tx t] [] = pure [some (.str rp u), some (.str tx t), none] from rfl) ?_)
  simp only []
  refine wpAny_bind (wpAny_pure ?_)
  refine wpAny_bind (wpAny_specialOf_val (typeIs_str s rp u) nocall_str ?_)
  simp only [Option.isSome_none, Bool.false_eq_true, if_false]
  refine wpAny_bind (wpAny_of_eq (show asStr? (.str rp u) = pure (some rp) from rfl) ?_)
  simp only [hrc, Bool.not_false]
  refine wpAny_bind (wpAny_pure ?_)
  rw [if_pos rfl]
  refine wpAny_bind (wpAny_pure (wpAny_bind (wpAny_holding (wp_target hp ?_))))
  rw [if_neg (show ¬ ((0 : Int) == 1) = true from Bool.false_ne_true)]
  refine wpAny_bind (wpAny_newList ?_ (Nat.zero_le _))
  refine wpAny_pure ⟨plainId_quiet plain_sub_loop _, ?_⟩
  have hlt : ∀ b o, s.heap.get? b = some o → b ≠ s.heap.objs.size := fun b o e => Nat.ne_of_lt (Heap.lt_size e)
  have hpa : pa ≠ s.heap.objs.size := by obtain ⟨o, _, _, _, _, ho, _⟩ := hp.fs; exact hlt _ _ ho
  have hca : ca ≠ s.heap.objs.size := by obtain ⟨o, _, _, ho, _⟩ := hp.cs; exact hlt _ _ ho
  refine sub_loop (t := t) (u := u) hzt hzr hf hw hw' hpa hca S _ 0 [] [] (Nat.zero_le _) (hp.at (fun o e => Heap.get?_push_of_some _ e) fun o e => Heap.get?_push_of_some _ e) ⟨0, Heap.get?_push_size _ rfl⟩ .nil (Nat.le_refl _) (Nat.le_refl _) fun h' tk t' hk htk => ?_
  exact hQ t' _ (kof (s := s) (fun b o e => hk b o (hlt b o e) (Heap.get?_push_of_some _ e)) htk)
end
end Mine
end
-- part R9
section
open PySem PySem.W PyProof.Rows
set_option maxRecDepth 100000
set_option linter.unusedVariables false
namespace Mine
open PySem.Sre (M)

def eols : List Nat → List Nat
  | [] => []
  | 13 :: 10 :: r => 13 :: 10 :: eols r
  | c :: r => if c = 10 ∨ c = 13 then 13 :: 10 :: eols r else c :: eols r
def dots : Bool → List Nat → List Nat
  | _, [] => []
  | b, c :: r => if b = true ∧ c = 46 then 46 :: 46 :: dots false r else c :: dots (c == 10) r

section
variable {P : Nat → Prop} {w : Nat → Nat} {rep : List Nat} {text : Array Nat} {lim : Nat}
theorem ext_cons {d p : Nat} (h : d < p) (hp : p ≤ text.size) : (text.extract d p).toList = text.getD d 0 :: (text.extract (d + 1) p).toList := by
  rw [Array.toList_extract, Array.toList_extract]
  have hd : d < text.toList.length := by rw [Array.length_toList]; omega
  simp only [List.extract]
  rw [List.drop_eq_getElem_cons hd]
  obtain ⟨k, hk⟩ : ∃ k, p - d = k + 1 := ⟨p - d - 1, by omega⟩
  rw [hk, List.take_succ_cons, show p - (d + 1) = k by omega]
  congr 1
  simp [Array.getD, show d < text.size by omega]
theorem Sub.cons {d : Nat} {out : List Nat} (hl : lim ≤ text.size) (hd : d < lim) (hn : ¬ P d) (S : Sub P w rep text lim (d + 1) out) : Sub P w rep text lim d (text.getD d 0 :: out) := by
  generalize hd1 : d + 1 = d1 at S
  cases S with
  | stop h1 h2 =>
    subst hd1
    have : Sub P w rep text lim d (text.extract d lim).toList := .stop (by omega) fun q a b => by
      by_cases e : q = d
      · subst e; exact hn
      · exact h2 q (by omega) b
    rw [ext_cons hd hl] at this; exact this
  | @hit _ p out h1 h2 h3 h4 r =>
    subst hd1
    have : Sub P w rep text lim d ((text.extract d p).toList ++ (rep ++ out)) := .hit (by omega) h2 h3 (fun q a b => by
      by_cases e : q = d
      · subst e; exact hn
      · exact h4 q (by omega) b) r
    rw [ext_cons (by omega) (by omega)] at this; exact this
theorem Sub.at {d : Nat} {out : List Nat} (hd : d < lim) (hp : P d) (S : Sub P w rep text lim (d + w d) out) : Sub P w rep text lim d (rep ++ out) := by
  have : Sub P w rep text lim d ((text.extract d d).toList ++ (rep ++ out)) := .hit (Nat.le_refl _) hd hp (fun q a b => by omega) S
  simpa using this
theorem Sub.nil (hl : lim ≤ text.size) : Sub P w rep text lim lim [] := by
  have : Sub P w rep text lim lim (text.extract lim lim).toList := .stop (Nat.le_refl _) fun q a b => by omega
  simpa using this
end

theorem drop_at {text : Array Nat} {d c : Nat} {r : List Nat} (h : text.toList.drop d = c :: r) : d < text.size ∧ text.getD d 0 = c ∧ text.toList.drop (d + 1) = r := by
  have hd : d < text.toList.length := by
    by_cases q : d < text.toList.length
    · exact q
    · rw [List.drop_eq_nil_of_le (by omega)] at h; cases h
  rw [List.drop_eq_getElem_cons hd] at h
  injection h with h1 h2
  rw [Array.length_toList] at hd
  refine ⟨hd, ?_, h2⟩
  rw [← h1]; simp [Array.getD, hd]

theorem eols_sub (text : Array Nat) : ∀ (n d : Nat) (l : List Nat), l.length ≤ n → text.toList.drop d = l → d ≤ text.size → Sub (eolAt text) (eolW text text.size) [13, 10] text text.size d (eols l) := by
  intro n
  induction n with
  | zero =>
    intro d l hn hl hd
    have : l = [] := List.length_eq_zero_iff.mp (by omega)
    subst this
    have : d = text.size := by
      have := List.drop_eq_nil_iff.mp hl
      rw [Array.length_toList] at this; omega
    subst this; exact Sub.nil (Nat.le_refl _)
  | succ n ih =>
    intro d l hn hl hd
    cases l with
    | nil =>
      have : d = text.size := by
        have := List.drop_eq_nil_iff.mp hl
        rw [Array.length_toList] at this; omega
      subst this; exact Sub.nil (Nat.le_refl _)
    | cons c r =>
      obtain ⟨h1, h2, h3⟩ := drop_at hl
      simp only [List.length_cons] at hn
      by_cases hc : c = 13 ∧ ∃ r', r = 10 :: r'
      · obtain ⟨rfl, r', rfl⟩ := hc
        obtain ⟨g1, g2, g3⟩ := drop_at h3
        have hw : eolW text text.size d = 2 := by unfold eolW; rw [if_pos ⟨h2, by omega, g2⟩]
        have := Sub.at (rep := [13, 10]) (w := eolW text text.size) h1 (P := eolAt text) (.inr h2) (by rw [hw]; exact ih (d + 2) r' (by simp at hn; omega) g3 (by omega))
        rw [eols]; exact this
      · by_cases hc2 : c = 10 ∨ c = 13
        · have he : eols (c :: r) = 13 :: 10 :: eols r := by
            rw [eols.eq_3 c r (fun r' a b => hc ⟨a, r', b⟩), if_pos hc2]
          have hw : eolW text text.size d = 1 := by
            unfold eolW; rw [if_neg]
            rintro ⟨a, b, e⟩
            refine hc ⟨by omega, ?_⟩
            cases r with
            | nil => have := List.drop_eq_nil_iff.mp h3; rw [Array.length_toList] at this; omega
            | cons x r' => have := (drop_at h3).2.1; exact ⟨r', by rw [← this, e]⟩
          have := Sub.at (rep := [13, 10]) (w := eolW text text.size) h1 (P := eolAt text) (by unfold eolAt; omega) (by rw [hw]; exact ih (d + 1) r (by omega) h3 (by omega))
          rw [he]; exact this
        · have he : eols (c :: r) = c :: eols r := by
            rw [eols.eq_3 c r (fun r' a b => hc ⟨a, r', b⟩), if_neg hc2]
          have := Sub.cons (rep := [13, 10]) (w := eolW text text.size) (Nat.le_refl _) h1 (P := eolAt text) (by unfold eolAt; omega) (ih (d + 1) r (by omega) h3 (by omega))
          rw [he, ← h2]; exact this

theorem dots_sub (text : Array Nat) : ∀ (l : List Nat) (d : Nat), text.toList.drop d = l → d ≤ text.size → Sub (dotAt text) (fun _ => 1) [46, 46] text text.size d (dots (bolAt text d) l) := by
  intro l
  induction l with
  | nil =>
    intro d hl hd
    have : d = text.size := by
      have := List.drop_eq_nil_iff.mp hl
      rw [Array.length_toList] at this; omega
    subst this
    show Sub _ _ _ _ _ _ (dots _ [])
    unfold dots; exact Sub.nil (Nat.le_refl _)
  | cons c r ih =>
    intro d hl hd
    obtain ⟨h1, h2, h3⟩ := drop_at hl
    have hb : bolAt text (d + 1) = (c == 10) := by
      unfold bolAt
      simp [h2]
    have hr := ih (d + 1) h3 (by omega)
    rw [hb] at hr
    unfold dots
    by_cases hc : bolAt text d = true ∧ c = 46
    · rw [if_pos hc]
      obtain ⟨hc1, rfl⟩ := hc
      exact Sub.at (rep := [46, 46]) (w := fun _ => 1) (P := dotAt text) h1 ⟨hc1, h2⟩ hr
    · rw [if_neg hc]
      have := Sub.cons (rep := [46, 46]) (w := fun _ => 1) (P := dotAt text) (Nat.le_refl _) h1 (fun q => hc ⟨q.1, by rw [← h2]; exact q.2⟩) hr
      rw [h2] at this; exact this
end Mine
end
-- part R10
section
open PySem PySem.W PyProof.Rows
set_option maxRecDepth 100000
set_option linter.unusedVariables false
namespace Mine

def crlfs : List Nat → Nat
  | [] => 0
  | 13 :: 10 :: r => 1 + crlfs r
  | _ :: r => crlfs r
theorem crlfs_ten (r : List Nat) : crlfs (10 :: r) = crlfs r := by rw [crlfs.eq_3]; simp
theorem crlfs_skip {c : Nat} {r : List Nat} (h : ¬ (c = 13 ∧ ∃ r', r = 10 :: r')) : crlfs (c :: r) = crlfs r := crlfs.eq_3 c r fun r' a b => h ⟨a, r', b⟩

abbrev CR : Str := ⟨#[13, 10]⟩
theorem subAt_cr (x : Str) (i : Nat) (h : i + 2 ≤ x.cps.size) : Builtin.Str.subAt x CR i = true ↔ ∃ r', x.cps.toList.drop i = 13 :: 10 :: r' := by
  unfold Builtin.Str.subAt
  rw [beq_iff_eq]
  have hx : (x.cps.extract i (i + CR.length)).toList = (x.cps.toList.drop i).take 2 := by
    rw [Array.toList_extract]; simp [List.extract, CR, Str.length]
  constructor
  · intro e
    rw [e] at hx
    refine ⟨(x.cps.toList.drop i).drop 2, ?_⟩
    have := List.take_append_drop 2 (x.cps.toList.drop i)
    rw [← hx] at this
    exact this.symm
  · rintro ⟨r', e⟩
    apply Array.toList_inj.mp
    rw [hx, e]; rfl

theorem occ_run (x : Str) (limit : Nat) (l : List Nat) : ∀ (i : Nat) (st : Array Nat × Nat), x.cps.toList.drop i = l → i + l.length = x.cps.size → (st.2 ≤ i ∨ (st.2 = i + 1 ∧ ∀ r, l ≠ 13 :: r)) → st.1.size + l.length < limit →
    (forIn (List.range' i (l.length + 1)) st (StrLaws.occBody x CR x.length limit)).run.1.size = st.1.size + crlfs l := by
  induction l with
  | nil =>
    intro i st hl hi hst hlim
    have hn : ¬ (((st.fst.size < limit ∧ st.snd ≤ i) ∧ i + CR.length ≤ x.length) ∧ Builtin.Str.subAt x CR i = true) := by
      rintro ⟨⟨_, h⟩, _⟩
      simp only [CR, Str.length, List.length_nil] at h hi
      simp at h; omega
    show (forIn [i] st (StrLaws.occBody x CR x.length limit)).run.1.size = _
    rw [List.forIn_cons]
    unfold StrLaws.occBody
    rw [if_neg hn]
    rfl
  | cons c r ih =>
    intro i st hl hi hst hlim
    simp only [List.length_cons] at hi hlim
    have h3 := (drop_at hl).2.2
    rw [List.length_cons, List.range'_succ, List.forIn_cons]
    by_cases hc : c = 13 ∧ ∃ r', r = 10 :: r'
    · obtain ⟨hc1, r', hr⟩ := hc
      have hs : st.2 ≤ i := by
        rcases hst with h | ⟨_, h⟩
        · exact h
        · exact absurd (by rw [hc1]) (h r)
      have hr1 : r.length = r'.length + 1 := by rw [hr]; rfl
      have := ih (i + 1) (st.1.push i, i + 2) h3 (by omega) (.inr ⟨rfl, fun r e => by rw [hr] at e; cases e⟩) (by show (st.1.push i).size + r.length < limit; rw [Array.size_push]; omega)
      have e0 : StrLaws.occBody x CR x.length limit i st = pure (ForInStep.yield (st.1.push i, i + 2)) := by
        unfold StrLaws.occBody
        rw [if_pos ⟨⟨⟨by omega, hs⟩, by show i + 2 ≤ x.cps.size; omega⟩, (subAt_cr x i (by omega)).mpr ⟨r', by rw [hl, hc1, hr]⟩⟩]; rfl
      rw [e0]
      show (forIn (List.range' (i + 1) (r.length + 1)) (st.1.push i, i + 2) (StrLaws.occBody x CR x.length limit)).run.1.size = _
      rw [this, hr, crlfs_ten, hc1]
      show (st.1.push i).size + _ = _
      rw [Array.size_push, crlfs]; omega
    · have hn : ¬ (((st.fst.size < limit ∧ st.snd ≤ i) ∧ i + CR.length ≤ x.length) ∧ Builtin.Str.subAt x CR i = true) := by
        rintro ⟨⟨_, h⟩, h'⟩
        obtain ⟨r', e⟩ := (subAt_cr x i h).mp h'
        rw [hl] at e; injection e with a b
        exact hc ⟨a, r', b⟩
      have := ih (i + 1) (st.1, st.2) h3 (by omega) (.inl (by rcases hst with h | ⟨h, _⟩ <;> (show st.2 ≤ i + 1; omega))) (by show st.1.size + r.length < limit; omega)
      have e0 : StrLaws.occBody x CR x.length limit i st = pure (ForInStep.yield (st.1, st.2)) := by
        unfold StrLaws.occBody
        rw [if_neg hn]
      rw [e0]
      show (forIn (List.range' (i + 1) (r.length + 1)) (st.1, st.2) (StrLaws.occBody x CR x.length limit)).run.1.size = _
      rw [this, crlfs_skip hc]
theorem count_cr (x : Str) : (Builtin.Str.occurrences x CR 0 x.length (x.length + 1)).length = crlfs x.cps.toList := by
  rw [StrLaws.occ_eq]
  have := occ_run x (x.length + 1) x.cps.toList 0 (#[], 0) rfl (by simp) (.inl (Nat.le_refl _)) (by simp [Str.length])
  rw [Array.length_toList, show x.length + 1 - 0 = x.cps.toList.length + 1 by simp [Str.length]]
  rw [this]; simp
end Mine
end
-- part D4
section
open PySem PySem.W PyProof.Rows
set_option maxRecDepth 100000
set_option linter.unusedVariables false
namespace Mine
def sl (l : List Nat) : Str := ⟨l.toArray⟩
section
variable {prog : Program} {w : World} {g : Heap} {N : Addr → Prop} {A : Around} {env : Env} {oc : List Addr} {ρ : List (Str × D)} {s₀ s : Shared}

theorem ev_meth {pl : Env → Sem Bool} {n : Nat} {o a1 : Expr} {as : List Expr} {name : Str} {apos pos : Pos} {d0 d : D} {ds : List D} {id : String}
    (ho : Ev prog w g A env ρ o d0) (hg : ∀ N s v, Rep N s.heap d0 v → ∀ pl (Q : Value × List Value → Shared → Prop) E, Q (.builtin id, [v]) s → wpAny (model prog w) A (getMethod v name pl) Q E s)
    (ha : Evs prog w g A env ρ pos (a1 :: as) ds) (hc : Fn prog w g n (.builtin id) (d0 :: ds) [] d) (R : Room n A)
    (he : ∀ env, eval (.Call (.Attribute o name apos) (a1 :: as) [] pos) env = (do
      let ov ← eval o env
      standAt apos.atName
      let (f, first) ← holding [ov] (getMethod ov name (pl env))
      callWith pos f first (backTo pos (starEach (a1 :: as) env)) []) := by intro _; rfl)
    (he1 : ∀ env, starEach (a1 :: as) env = (false, eval a1 env) :: starEach as env := by intro _; rfl)
    (he2 : ∀ env, (backTo pos (starEach as env)).any (·.1) = false := by intro _; rfl) :
    Ev prog w g A env ρ (.Call (.Attribute o name apos) (a1 :: as) [] pos) d := by
  intro N s V E
  refine MethodCall_ (pl := pl env) (wpAny_mono (ho N s V E) (fun ov s₁ h₁ => ?_) fun _ _ x => x) (he env)
  have V₁ := V.keeps h₁.2
  refine hg N s₁ ov h₁.1 _ _ _ ?_
  refine callWith_method1 (wpAny_mono (ha N s₁ V₁ E) (fun vs s₂ h₂ => ?_) fun _ _ x => x) (he1 env) (he2 env)
  have V₂ := V₁.keeps h₂.2
  refine wpAny_mono (hc A R N s₂ (ov :: vs) [] V₂.base V₂.old (Reps.cons (h₁.1.kp (kpOf h₂.2)) h₂.1) RepKw.nil E) (fun v s₃ h₃ => ?_) fun _ _ x => x
  exact ⟨h₃.1, ktrans h₁.2 (ktrans h₂.2 h₃.2)⟩

theorem gm_count {x : Str} : ∀ N s v, Rep N s.heap (.str x) v → ∀ pl (Q : Value × List Value → Shared → Prop) E, Q (.builtin "str.count", [v]) s → wpAny (model prog w) A (getMethod v (Str.ofString "count") pl) Q E s := by
  intro N s v r pl Q E h
  obtain ⟨t, rfl⟩ := r.str_inv
  exact GM.count h
theorem gm_join {x : Str} : ∀ N s v, Rep N s.heap (.str x) v → ∀ pl (Q : Value × List Value → Shared → Prop) E, Q (.builtin "str.join", [v]) s → wpAny (model prog w) A (getMethod v (Str.ofString "join") pl) Q E s := by
  intro N s v r pl Q E h
  obtain ⟨t, rfl⟩ := r.str_inv
  exact GM.join h

theorem fn_count {x : Str} : Fn prog w g 0 (.builtin "str.count") [.str x, .str CR] [] (.int (crlfs x.cps.toList)) := by
  intro A R N s vs kvs hs hN hv hk E
  have := hk.nil_inv; subst this
  obtain ⟨v1, vs, rfl, r1, hv⟩ := hv.cons_inv
  obtain ⟨v2, vs, rfl, r2, hv⟩ := hv.cons_inv
  have := hv.nil_inv; subst this
  obtain ⟨t, rfl⟩ := r1.str_inv
  obtain ⟨u, rfl⟩ := r2.str_inv
  refine call_meets PySem.F.slot_str_count (typeIs_str _ _ _) PySem.F.entry_str_count (PySem.F.args_str_count_2 _ _) (gives_str_count x CR t u).meets ?_
  rw [count_cr]
  exact ⟨Rep.int _ _, ktok _ _⟩

theorem strsOf {N : Addr → Prop} {h : Heap} : ∀ {ys : List Str} {vs : List Value}, Reps N h (ys.map .str) vs → StrsAre vs ys
  | [], vs, r => by have := Reps.nil_inv r; subst this; exact .nil
  | y :: ys, vs, r => by
    obtain ⟨v, vs, rfl, r1, r2⟩ := Reps.cons_inv r
    obtain ⟨t, rfl⟩ := r1.str_inv
    exact .cons y t (strsOf r2)

theorem fn_join {ys : List Str} (hz : (J ys).length ≤ 16777216) : Fn prog w g 0 (.builtin "str.join") [.str ⟨#[]⟩, .lst (ys.map .str)] [] (.str (sl (J ys))) := by
  intro A R N s vs kvs hs hN hv hk E
  have := hk.nil_inv; subst this
  obtain ⟨v1, vs, rfl, r1, hv⟩ := hv.cons_inv
  obtain ⟨v2, vs, rfl, r2, hv⟩ := hv.cons_inv
  have := hv.nil_inv; subst this
  obtain ⟨t, rfl⟩ := r1.str_inv
  obtain ⟨a, us, rfl, na, hl, r⟩ := r2.lst_inv
  refine join_listT hl (by simpa using strsOf r) ?_ fun t' k hk9 => ?_
  · rw [J_len]; show _ + _ * 0 ≤ _; omega
  · rw [join_J]; exact ⟨Rep.str _ _, ktok _ _ hk9⟩
end
end Mine
end
-- part D5
section
open PySem PySem.W PyProof.Rows PySem.SeqAt
set_option maxRecDepth 100000
set_option linter.unusedVariables false
namespace Mine
inductive Atom : D → Prop
  | int (i : Int) : Atom (.int i)
  | str (x : Str) : Atom (.str x)
  | bool (b : Bool) : Atom (.bool b)
  | flt (f : UInt64) (h : (Float64.cmp f f == some Ordering.eq) = true) : Atom (.flt f)
/-- how deep an equal datum lies -/
inductive Eqs : Nat → D → Prop
  | atom {d : D} {n : Nat} (h : Atom d) : Eqs n d
  | tup {n : Nat} {l : List D} (h : ∀ d ∈ l, Eqs n d) : Eqs (n + 1) (.tup l)
  | lst {n : Nat} {l : List D} (h : ∀ d ∈ l, Eqs n d) : Eqs (n + 1) (.lst l)

section
variable {prog : Program} {w : World} {g : Heap} {N : Addr → Prop} {A : Around} {s : Shared}
theorem eqOfRc {a b : Value} (h : RcAt A s a b true) (hnf : ∀ f t, a ≠ .float f t) : EqAt A s a b true := fun prog w E Q hq => by
  unfold eqBool
  refine wpAny_holding ?_
  refine wpAny_ite_split (fun _ => ?_) (fun _ => ?_)
  · exact wpAny_bind (wpAny_rule (wpAny_pure hq))
  · cases a <;> first
      | exact absurd rfl (hnf _ _)
      | exact wpAny_bind (h prog w E _ (wpAny_pure hq))
theorem isSame_flt {Md : Model} {E : Value → Shared → Prop} {y z : UInt64} {u v : Nat} {Q : Bool → Shared → Prop} (hb : NoneBooked s.heap) (hq : ∀ b, Q b s) : wpAny Md A (isSame (.float y (u + 1)) (.float z (v + 1))) Q E s := by
  show wpAny Md A (isSame.created (y == z && !Float64.isNaN y) (u + 1) (v + 1)) Q E s
  unfold isSame.created
  refine wpAny_ite ?_
  split
  · rename_i h; simp at h
  refine wpAny_ite ?_
  split
  · exact wpAny_pure (hq _)
  refine wpAny_ite ?_
  split
  · exact wpAny_pure (hq _)
  refine wpAny_bind (wpAny_sharingNotTold_none hb ?_)
  first | rw [if_neg Bool.false_ne_true] | simp only [Bool.false_eq_true, if_false]
  refine wpAny_bind (wpAny_sharingNotTold_none hb ?_)
  first | rw [if_neg Bool.false_ne_true] | simp only [Bool.false_eq_true, if_false]
  exact wpAny_bind (wpAny_rule (wpAny_bind (wpAny_askSetting (wpAny_pure (hq _)))))
theorem eqFlt {y z : UInt64} {u v : Nat} (h : RcAt A s (.float y (u + 1)) (.float z (v + 1)) true) (hb : NoneBooked s.heap) : EqAt A s (.float y (u + 1)) (.float z (v + 1)) true := fun prog w E Q hq => by
  unfold eqBool
  refine wpAny_holding ?_
  refine wpAny_ite_split (fun _ => ?_) (fun _ => ?_)
  · exact wpAny_bind (wpAny_rule (wpAny_pure hq))
  · show wpAny _ _ (isSame _ _ >>= _) _ _ s
    refine wpAny_bind (isSame_flt hb fun b => ?_)
    cases b with
    | true => simp only [if_true]; exact wpAny_pure hq
    | false => simp only [Bool.false_eq_true, if_false]; exact wpAny_bind (h prog w E _ (wpAny_pure hq))
theorem eqOf {n : Nat} {d : D} (hd : Eqs n d) {a b : Value} (ra : Rep N s.heap d a) (rb : Rep N s.heap d b) (hb : NoneBooked s.heap) (h : RcAt A s a b true) : EqAt A s a b true := by
  cases hd with
  | atom h' =>
    cases h' with
    | int i => obtain ⟨t, rfl⟩ := ra.int_inv; exact eqOfRc h fun _ _ e => nomatch e
    | str i => obtain ⟨t, rfl⟩ := ra.str_inv; exact eqOfRc h fun _ _ e => nomatch e
    | bool i => have := ra.bool_inv; subst this; exact eqOfRc h fun _ _ e => nomatch e
    | flt f hf => obtain ⟨t, rfl⟩ := ra.flt_inv; obtain ⟨u, rfl⟩ := rb.flt_inv; exact eqFlt h hb
  | tup _ => obtain ⟨a, vs, rfl, _⟩ := ra.tup_inv; exact eqOfRc h fun _ _ e => nomatch e
  | lst _ => obtain ⟨a, vs, rfl, _⟩ := ra.lst_inv; exact eqOfRc h fun _ _ e => nomatch e
theorem allT (n : Nat) : ((List.range n).all fun _ => true) = true := List.all_eq_true.mpr fun _ _ => rfl
theorem isTup_tuple {h : Heap} {a : Addr} {vs : Array Value} (x : IsTup h a vs) : h.IsTuple a vs := x

theorem rc_same (nkb : NoneBooked s.heap) : ∀ {n : Nat} {d : D}, Eqs n d → ∀ {A : Around} {a b : Value}, Room n A → Rep N s.heap d a → Rep N s.heap d b → RcAt A s a b true := by
  intro n d h
  induction h with
  | @atom d n h =>
    intro A a b R ra rb
    cases h with
    | int i => obtain ⟨t, rfl⟩ := ra.int_inv; obtain ⟨u, rfl⟩ := rb.int_inv; simpa using RcAt.int_int (A := A) (s := s) i t i u
    | str x => obtain ⟨t, rfl⟩ := ra.str_inv; obtain ⟨u, rfl⟩ := rb.str_inv; simpa using RcAt.str_str (A := A) (s := s) x t x u
    | bool k => have := ra.bool_inv; subst this; have := rb.bool_inv; subst this; simpa using RcAt.bool_bool (A := A) (s := s) k k
    | flt f hf =>
      obtain ⟨t, rfl⟩ := ra.flt_inv; obtain ⟨u, rfl⟩ := rb.flt_inv
      intro prog w E Q hq
      exact richCompare_gives (op := .Eq) (typeIs_float s f t) (typeIs_float s f u) F.slot_float_eq F.entry_float_eq (F.args_float_eq_2 _ _) (AutoFloatG5.float___eq___float_float_0 f t f u) (fun x => nomatch x) (by show Q (.bool (Float64.cmp f f == some Ordering.eq)) s; rw [hf]; exact hq)
  | @tup n l hl ih =>
    intro A a b R ra rb
    obtain ⟨a, vs, rfl, na, ha, r⟩ := ra.tup_inv
    obtain ⟨b, us, rfl, nb, hb, r'⟩ := rb.tup_inv
    have e1 : vs.length = l.length := r.length
    have e2 : us.length = l.length := r'.length
    have := RcAt.tuples (A := A) (e := fun _ => true) (isTup_tuple ha) (isTup_tuple hb) R.units fun j h1 h2 => by
      simp only [List.size_toArray] at h1 h2
      obtain ⟨v, hv, rv⟩ := r.get (i := j) (d := l[j]) (by simp)
      obtain ⟨u, hu, ru⟩ := r'.get (i := j) (d := l[j]) (by simp)
      have ev : vs.toArray[j] = v := by rw [List.getElem?_eq_getElem (by omega)] at hv; simpa using hv
      have eu : us.toArray[j] = u := by rw [List.getElem?_eq_getElem (by omega)] at hu; simpa using hu
      rw [ev, eu]
      exact eqOf (hl l[j] (List.getElem_mem _)) rv ru nkb (ih l[j] (List.getElem_mem _) R.in1 rv ru)
    rw [allT] at this; simpa [e1, e2] using this
  | @lst n l hl ih =>
    intro A a b R ra rb
    obtain ⟨a, vs, rfl, na, ha, r⟩ := ra.lst_inv
    obtain ⟨b, us, rfl, nb, hb, r'⟩ := rb.lst_inv
    have e1 : vs.length = l.length := r.length
    have e2 : us.length = l.length := r'.length
    have := RcAt.lists (A := A) (e := fun _ => true) ha hb (by simp; omega) R.units fun j h1 h2 => by
      simp only [List.size_toArray] at h1 h2
      obtain ⟨v, hv, rv⟩ := r.get (i := j) (d := l[j]) (by simp)
      obtain ⟨u, hu, ru⟩ := r'.get (i := j) (d := l[j]) (by simp)
      have ev : vs.toArray[j] = v := by rw [List.getElem?_eq_getElem (by omega)] at hv; simpa using hv
      have eu : us.toArray[j] = u := by rw [List.getElem?_eq_getElem (by omega)] at hu; simpa using hu
      rw [ev, eu]
      exact eqOf (hl l[j] (List.getElem_mem _)) rv ru nkb (ih l[j] (List.getElem_mem _) R.in1 rv ru)
    rw [allT] at this; exact this

/-- xs == [] -/
theorem cop_empty {l : List D} {n : Nat} (R : Room n A) : Cop prog w g A .Eq (.lst l) (.lst []) l.isEmpty := by
  intro N s va vb _ hN ha hb E
  obtain ⟨a, vs, rfl, na, hla, r⟩ := ha.lst_inv
  obtain ⟨b, us, rfl, nb, hlb, r'⟩ := hb.lst_inv
  have := r'.nil_inv; subst this
  have e1 : vs.length = l.length := r.length
  cases l with
  | nil =>
    have : vs = [] := List.length_eq_zero_iff.mp e1
    subst this
    exact eq_listAt (e := fun _ => true) hla hlb rfl R.units (fun j h1 => by simp at h1) ⟨rfl, krefl _⟩
  | cons d l => exact eq_list_lengthsAt hla hlb (by simp [e1]) R.units ⟨rfl, krefl _⟩

/-- xs != ys of the same data -/
theorem cop_ne_same {l : List D} {n : Nat} (nkb : ∀ h, Kp g h → NoneBooked h) (h : ∀ d ∈ l, Eqs n d) (R : Room (n + 1) A) : Cop prog w g A .NotEq (.lst l) (.lst l) false := by
  intro N s va vb hg hN ha hb E
  obtain ⟨a, vs, rfl, na, ha, r⟩ := ha.lst_inv
  obtain ⟨b, us, rfl, nb, hb, r'⟩ := hb.lst_inv
  have e1 : vs.length = l.length := r.length
  have e2 : us.length = l.length := r'.length
  have := RcNeAt.lists (A := A) (e := fun _ => true) ha hb (by simp; omega) R.units (fun j h1 h2 => by
    simp only [List.size_toArray] at h1 h2
    obtain ⟨v, hv, rv⟩ := r.get (i := j) (d := l[j]) (by simp)
    obtain ⟨u, hu, ru⟩ := r'.get (i := j) (d := l[j]) (by simp)
    have ev : vs.toArray[j] = v := by rw [List.getElem?_eq_getElem (by omega)] at hv; simpa using hv
    have eu : us.toArray[j] = u := by rw [List.getElem?_eq_getElem (by omega)] at hu; simpa using hu
    rw [ev, eu]
    exact eqOf (h l[j] (List.getElem_mem _)) rv ru (nkb _ hg) (rc_same (nkb _ hg) (h l[j] (List.getElem_mem _)) R.in1 rv ru)) prog w E
  rw [allT] at this
  exact this _ ⟨rfl, krefl _⟩
theorem cop_net_same {l : List D} {n : Nat} (nkb : ∀ h, Kp g h → NoneBooked h) (h : ∀ d ∈ l, Eqs n d) (R : Room (n + 1) A) : Cop prog w g A .NotEq (.tup l) (.tup l) false := by
  intro N s va vb hg hN ha hb E
  obtain ⟨a, vs, rfl, na, ha, r⟩ := ha.tup_inv
  obtain ⟨b, us, rfl, nb, hb, r'⟩ := hb.tup_inv
  have e1 : vs.length = l.length := r.length
  have e2 : us.length = l.length := r'.length
  have := RcNeAt.tuples (A := A) (e := fun _ => true) (isTup_tuple ha) (isTup_tuple hb) R.units (fun j h1 h2 => by
    simp only [List.size_toArray] at h1 h2
    obtain ⟨v, hv, rv⟩ := r.get (i := j) (d := l[j]) (by simp)
    obtain ⟨u, hu, ru⟩ := r'.get (i := j) (d := l[j]) (by simp)
    have ev : vs.toArray[j] = v := by rw [List.getElem?_eq_getElem (by omega)] at hv; simpa using hv
    have eu : us.toArray[j] = u := by rw [List.getElem?_eq_getElem (by omega)] at hu; simpa using hu
    rw [ev, eu]
    exact eqOf (h l[j] (List.getElem_mem _)) rv ru (nkb _ hg) (rc_same (nkb _ hg) (h l[j] (List.getElem_mem _)) R.in1 rv ru)) prog w E
  rw [allT] at this
  refine this _ ⟨by simp [e1, e2], krefl _⟩
end
end Mine
end
-- part D6
section
open PySem PySem.W PyProof.Rows
set_option maxRecDepth 100000
set_option linter.unusedVariables false
namespace Mine
section
variable {prog : Program} {w : World} {g : Heap} {N N' : Addr → Prop} {A : Around} {env : Env} {oc : List Addr} {ρ ρ' : List (Str × D)} {s₀ s : Shared} {E : Value → Shared → Prop}

theorem st_returnV {e : Expr} {p : Pos} {rest : List Stmt} {d : D} {Q : Flow → Shared → Prop} (F : Frm g N s₀ env oc ρ s) (V : View g N' env ρ' s) (he : Ev prog w g A env ρ' e d) (h : ∀ v s', Rep N' s'.heap d v → Keeps s₀ s' → Q (.ret v) s') :
    wpAny (model prog w) A (execs (.Return (some e) p :: rest) env) Q E s := by
  refine wpAny_execs_cons (wpAny_Return_some (wpAny_mono (he N' s V E) (fun v s₁ h₁ => ?_) fun _ _ x => x))
  exact h v s₁ h₁.1 (ktrans F.same h₁.2)

theorem reps_ints {N N' : Addr → Prop} {h h' : Heap} : ∀ {l : List Int} {vs : List Value}, Reps N h (l.map .int) vs → Reps N' h' (l.map .int) vs
  | [], vs, r => by have := Reps.nil_inv r; subst this; exact Reps.nil
  | i :: l, vs, r => by
    obtain ⟨v, ws, rfl, a, b⟩ := Reps.cons_inv r
    obtain ⟨t, rfl⟩ := a.int_inv
    exact Reps.cons (Rep.int _ _) (reps_ints b)

/-- x = [ .. ], the list of plain data told in another view of the frame -/
theorem st_assign_compV {names onames : List (Str × NameKind)} {y : Str} {py spos : Pos} {rest : List Stmt} {Q : Flow → Shared → Prop} {elt tg iter : Expr} {ifs : List Expr} {scope : Scope} {pos : Pos} {dts : List D} (β : D → List (Str × D)) (f : D → List D) {ns : List Str}
    (F : Frm g N s₀ env oc ρ s) (V : View g N' env ρ' s) (hEF : EF env oc names onames) (hsc : ScOk names scope) (hsrc : Src prog w g A env ρ' iter tg dts)
    (hpl : ∀ hp vs, Reps N' hp (dts.flatMap f) vs → Reps N hp (dts.flatMap f) vs)
    (hβ : ∀ d ∈ dts, (β d).map (·.1) = ns) (hdis : ((freeOf scope ρ').all fun q => !ns.contains q.1) = true) (hz : (dts.flatMap f).length ≤ sizeLine)
    (hel : ∀ cenv oc', EF cenv oc' (relabelN names scope.names) scope.names → ∀ d ∈ dts, Asg prog w g A cenv oc' tg d (β d) ∧ ∃ b, Tests prog w g A cenv (β d ++ freeOf scope ρ') ifs b ∧ (b = false → f d = []) ∧ (b = true → ∃ o, f d = [o] ∧ Ev prog w g A cenv (β d ++ freeOf scope ρ') elt o))
    (hy : names.lookup y = some .local) (hyl : (py.line == pos.line) = true) (hys : (scope.names.any fun q => q.1 == y && (q.2 == .local || q.2 == .cell)) = false)
    (h : ∀ s', Frm g N s₀ env oc ((y, .lst (dts.flatMap f)) :: ρ) s' → Run (Own env oc) s s' → wpAny (model prog w) A (execs rest env) Q E s')
    (hfold : ∀ env x, foldedSetIterable iter env x = pure x := by intro _ _; rfl) :
    wpAny (model prog w) A (execs (.Assign [.Name y py] (.ListComp elt [⟨tg, iter, ifs, 0⟩] scope pos) spos :: rest) env) Q E s := by
  have hky : env.kindOf y = some .local := (hEF.kd y).trans hy
  have hsw : swapsWith (.ListComp elt [⟨tg, iter, ifs, 0⟩] scope pos) (some (.Name y py)) spos.line env = pure true := by
    show (pure (env.blockKind == .function && env.kindOf y == some .local && py.line == pos.line && !(scope.names.any fun (n, k) => n == y && (k == .local || k == .cell))) : Sem Bool) = pure true
    have hb : env.blockKind = .function := by unfold Env.blockKind; rw [F.view.fn]; rfl
    rw [hb, hky, hyl]
    have : (scope.names.any fun (n, k) => n == y && (k == .local || k == .cell)) = false := hys
    rw [this]; rfl
  refine wpAny_execs_cons ?_
  rw [exec_Assign_Name_used _ _ _ _ hsw]
  refine wpAny_bind (wpAny_standAt (wpAny_bind ?_))
  show wpAny _ A (do let _ ← comprehension (.ListComp elt [⟨tg, iter, ifs, 0⟩] scope pos) scope env _ (newList []) false (eval iter env) (some (assign (.Name y py) env))) _ _ s
  refine wpAny_bind (wpAny_mono (comp_core (more := []) (use := some (assign (.Name y py) env)) (Q := fun _ s' => wpAny (model prog w) A (execs rest env) Q E s') (inner := fun cenv L => do let _ ← call (.builtin "list.append") [.ref L, ← eval elt cenv]) hEF hsc V hsrc (hfold env) (fun cenv it acc A Q E s h => by rw [turn_one]; exact h) hβ hdis hz ?_ ?_) (fun _ s' hq => wpAny_pure (wpAny_pure hq)) fun _ _ x => x)
  · intro N' s₀ cenv oc' L hL hLn _ hef d hd
    obtain ⟨h1, b, h2, h3, h4⟩ := hel cenv oc' hef d hd
    refine ⟨h1, b, h2, h3, fun hb => ?_⟩
    obtain ⟨o, e, he⟩ := h4 hb
    rw [e]; exact inn_emit hL hLn he
  · intro L C s' zs hL hC hCL k hn a r _
    have hN : ¬ N L := fun q => by obtain ⟨o, e⟩ := F.view.old.1 L q; rw [hL] at e; cases e
    have F' := F.keeps k
    show wpAny _ A (assign (.Name y py) env (.ref L)) _ _ _
    have rl : Rep N s'.heap (.lst (dts.flatMap f)) (.ref L) := Rep.lst_of hN a.isList (hpl _ _ r)
    refine wpAny_assign_Name (store_frm F' rl (.inl hky) fun s'' F'' k'' => ?_)
    obtain ⟨m, hm⟩ := hn
    have hCown : ¬ Own env oc C := by
      rintro (q | q)
      · subst q; obtain ⟨mm, o, _, _, ho, _⟩ := F.ns; rw [hC] at ho; cases ho
      · obtain ⟨⟨v, o, ho, _⟩, _⟩ := F.cel C q; rw [hC] at ho; cases ho
    have hm'' : s''.heap.Ns C m := hm.at' fun o e => k''.kp hCown e
    refine ⟨m, hm'', fun h' hs' => ?_⟩
    have run : Run (fun b => b = C) s'' { s'' with heap := h' } := ⟨h', 0, rfl, fun b o nb e => hs'.extBut b o nb e⟩
    have fr : Frm g N s₀ env oc ((y, .lst (dts.flatMap f)) :: ρ) { s'' with heap := h' } := by
      have notC : ∀ b o, s''.heap.get? b = some o → (∃ xs n, o.data = .seq xs n) → b ≠ C := fun b o e hq q => by
        subst q
        obtain ⟨o', es, ep, ho', hd, _⟩ := hm''
        rw [e] at ho'; cases ho'
        obtain ⟨xs, n, e'⟩ := hq
        rw [hd] at e'; cases e'
      have cells : ∀ a u, s''.heap.IsCell a u → h'.IsCell a u := fun a u hu => hu.sameBut hs' fun q => by
        subst q
        obtain ⟨o, ho, hd⟩ := hu
        obtain ⟨o', es, ep, ho', hd', _⟩ := hm''
        rw [ho] at ho'; cases ho'; rw [hd] at hd'; cases hd'
      have ks : KpS N s''.heap h' := fun b o _ hq e => hs'.extBut b o (notC b o e hq) e
      have s₀C : s₀.heap.get? C = none := by
        cases q : s₀.heap.get? C with
        | none => rfl
        | some o => have := kpOf F.same _ _ q; rw [hC] at this; cases this
      have sm : Keeps s₀ { s'' with heap := h' } := Run.keeps F''.same run fun b q => q ▸ s₀C
      have hLC : env.locals ≠ C := fun q => hCown (.inl q.symm)
      obtain ⟨mm, hmm⟩ := F''.ns
      refine ⟨sm, ⟨mm, hmm.sameBut hs' hLC⟩, F''.new, fun c hc => let ⟨⟨u, hu⟩, hn⟩ := F''.cel c hc; ⟨⟨u, cells c u hu⟩, hn⟩, F''.inj, F''.ground, F''.ground.trans (kpOf sm), ⟨fun a na => ?_, F''.view.old.2⟩, F''.view.fn, F''.view.gl, F''.view.bu, fun n a e => let ⟨u, hu⟩ := F''.view.cex n a e; ⟨u, cells a u hu⟩, fun x d e => ?_⟩
      · obtain ⟨o, ho⟩ := F.view.old.1 a na
        have hac : a ≠ C := fun q => by subst q; rw [hC] at ho; cases ho
        obtain ⟨o', ho'⟩ := F''.view.old.1 a na
        exact ⟨o', hs'.extBut a o' hac ho'⟩
      · rcases F''.view.vars x d e with ⟨a, m', u, n', e', r'⟩ | ⟨a, c, u, e1, e2, e3⟩
        · exact .inl ⟨a, m', u, n'.sameBut hs' hLC, e', r'.kps ks⟩
        · exact .inr ⟨a, c, u, e1, cells c _ e2, e3.kps ks⟩
    refine h _ fr ?_
    have r1 : Run (Own env oc) s s'' := Run.trans (Run.of k) k''
    obtain ⟨h1, t1, rfl, kk⟩ := r1
    exact ⟨h', t1, rfl, fun b o nb e => hs'.extBut b o (fun q => by subst q; rw [hC] at e; cases e) (kk b o nb e)⟩

/-- for: a list at S turns from turn to turn, the frame's names stay; a turn may return -/
theorem st_forS {tg e : Expr} {body rest : List Stmt} {pos : Pos} {dts : List D} {Q : Flow → Shared → Prop} {S : Addr} {P : Nat → List D → Prop} {l : List D} {xs : List Value}
    (F : Frm g N s₀ env oc ρ s) (hNS : N S) (hp : s.heap.PlainList S xs.toArray) (hr : Reps N s.heap l xs) (hP : P 0 l) (hS0 : s₀.heap.get? S = none)
    (hsrc : Src prog w g A env ρ e tg dts)
    (hbody : ∀ (i : Nat) (d : D), dts[i]? = some d → ∀ N' s₁ v l xs, (∀ b, N b → N' b) → P i l → Frm g N' s₀ env oc ρ s₁ → s₁.heap.PlainList S (List.toArray xs) → Reps N' s₁.heap l xs → Rep N' s₁.heap d v → ∀ E',
      wpAny (model prog w) A (assign tg env v) (fun _ s₂ => wpAny (model prog w) A (execs body env) (fun fl s₃ =>
        (fl = .next ∧ ∃ l' xs', P (i + 1) l' ∧ Frm g N' s₀ env oc ρ s₃ ∧ s₃.heap.PlainList S (List.toArray xs') ∧ Reps N' s₃.heap l' xs' ∧ Run (fun b => b = S ∨ Own env oc b) s₁ s₃) ∨ (∃ v, fl = .ret v ∧ Q (.ret v) s₃)) E' s₂) E' s₁)
    (h : ∀ s' l xs, P dts.length l → Frm g N s₀ env oc ρ s' → s'.heap.PlainList S (List.toArray xs) → Reps N s'.heap l xs → wpAny (model prog w) A (execs rest env) Q E s')
    (hfold : ∀ env x, foldedSetIterable e env x = pure x := by intro _ _; rfl) :
    wpAny (model prog w) A (execs (.For tg e body [] pos :: rest) env) Q E s := by
  refine wpAny_execs_cons (wpAny_For ?_ (hfold env))
  refine hsrc N s F.view E _ fun s₁ I fp wr ds vs St k₁ IT st₁ hwn hNf r₁ => ?_
  have F₁ := F.keeps k₁
  have hwN : ∀ b, N b → b ∉ wr := fun b nb q => hNf b nb (IT.sub b q)
  have hN' : ∀ b o, ¬ N b → s.heap.get? b = some o → ¬ (N b ∨ b ∈ wr) := fun b o nb eb q => by
    rcases q with q | q
    · exact nb q
    · rw [hwn b q] at eb; cases eb
  have F₂ : Frm g (fun b => N b ∨ b ∈ wr) s₀ env oc ρ s₁ := by
    refine ⟨F₁.same, F₁.ns, F₁.new, F₁.cel, F₁.inj, F₁.ground, F₁.view.base, ⟨?_, F₁.view.old.2⟩, F₁.view.fn, F₁.view.gl, F₁.view.bu, F₁.view.cex, fun x d e => ?_⟩
    · rintro a (na | hw)
      · exact F₁.view.old.1 a na
      · obtain ⟨o, ho, _⟩ := IT.kind _ _ st₁ a (IT.sub a hw); exact ⟨o, ho⟩
    · rcases F.view.vars x d e with ⟨a, m', u, n', e', r'⟩ | ⟨a, c, u, e1, e2, e3⟩
      · exact .inl ⟨a, m', u, n'.keeps (kpOf k₁), e', Rep.mono (kpOf k₁).s hN' _ _ r'⟩
      · exact .inr ⟨a, c, u, e1, e2.keeps (kpOf k₁), Rep.mono (kpOf k₁).s hN' _ _ e3⟩
  have wrn : ∀ b ∈ wr, s₀.heap.get? b = none := fun b hb => by
    cases q : s₀.heap.get? b with
    | none => rfl
    | some o => have := kpOf F.same b o q; rw [hwn b hb] at this; cases this
  have hSfp : S ∉ fp := hNf S hNS
  have hSwr : S ∉ wr := fun q => hSfp (IT.sub S q)
  have p₁ : s₁.heap.PlainList S xs.toArray := hp.at fun o e => kpOf k₁ _ o e
  have rr₁ : Reps (fun b => N b ∨ b ∈ wr) s₁.heap l xs := Reps.mono (kpOf k₁).s hN' _ _ hr
  refine codeAny_loop' rfl (fun n s' => ∃ i l xs, n = dts.length - i ∧ i ≤ dts.length ∧ P i l ∧ Frm g (fun b => N b ∨ b ∈ wr) s₀ env oc ρ s' ∧ s'.heap.PlainList S (List.toArray xs) ∧ Reps (fun b => N b ∨ b ∈ wr) s'.heap l xs ∧ St i s'.heap ∧ Reps (fun b => N b ∨ b ∈ wr) s'.heap ds vs) (fun n s' hI => ?_) dts.length ⟨0, l, xs, by simp, Nat.zero_le _, hP, F₂, p₁, rr₁, st₁, r₁⟩
  obtain ⟨i, l, xs, rfl, hi, hPi, F', p', rr', st', r'⟩ := hI
  show wpAny _ _ ((forTurn tg (.ref I) body [] env).onRaise (fun x => do noteFrame x env; theTreesLotGoes x)) _ _ s'
  refine wpAny_noted ?_
  have kindX : ∀ j (s' : Shared), St j s'.heap → ∀ b ∈ wr, ∀ o, s'.heap.get? b = some o → IsFS o := fun j s' st b hb o ho => by
    obtain ⟨o', ho', hf⟩ := IT.kind _ _ st b (IT.sub b hb)
    rw [ho] at ho'; cases ho'; exact hf
  simp only [forTurn]
  refine wpAny_bind (wpAny_standAt (wpAny_bind (wpAny_onRaise ?_)))
  by_cases hlt : i < dts.length
  · obtain ⟨d, hd⟩ : ∃ d, dts[i]? = some d := ⟨dts[i], List.getElem?_eq_getElem hlt⟩
    refine wpAny_mono (IT.item (fun b => N b ∨ b ∈ wr) i d s' (fun v s₂ => Frm g (fun b => N b ∨ b ∈ wr) s₀ env oc ρ s₂ ∧ St (i + 1) s₂.heap ∧ Reps (fun b => N b ∨ b ∈ wr) s₂.heap ds vs ∧ Rep (fun b => N b ∨ b ∈ wr) s₂.heap d v ∧ s₂.heap.PlainList S (List.toArray xs) ∧ Reps (fun b => N b ∨ b ∈ wr) s₂.heap l xs) (fun _ _ => False) (fun b hb => .inr hb) F'.view.old r' hd st' ?_) (fun r s₂ h₂ => ?_) fun _ _ x => x.elim
    · intro v h' tk rv st'' kk
      have run : Run (fun b => b ∈ wr) s' { s' with heap := h', toks := s'.toks + tk } := ⟨h', tk, rfl, fun b o nb e => kk b o nb e⟩
      have ks : KpS (fun b => N b ∨ b ∈ wr) s'.heap h' := fun b o nb _ e => kk b o (fun q => nb (.inr q)) e
      refine ⟨F'.mut run (fun b hb => ⟨wrn b hb, .inr hb, kindX _ _ st' b hb⟩) ⟨fun a na => ?_, Nat.lt_of_lt_of_le F'.view.old.2 (Nat.le_add_right _ _)⟩, st'', r'.kps ks, rv, p'.at fun o e => kk S o hSwr e, rr'.kps ks⟩
      by_cases hw : a ∈ wr
      · obtain ⟨o, ho, _⟩ := IT.kind _ _ st'' a (IT.sub a hw); exact ⟨o, ho⟩
      · obtain ⟨o, ho⟩ := F'.view.old.1 a na; exact ⟨o, kk a o hw ho⟩
    · obtain ⟨v, rfl, hv⟩ := h₂
      refine wpAny_bind (wpAny_mono hv (fun _ s₃ h₃ => ?_) fun _ _ x => x.elim)
      obtain ⟨F₃, st₃, r₃, rv₃, p₃, rr₃⟩ := h₃
      have fpOwn : ∀ b ∈ fp, ¬ Own env oc b := fun b hb => F₃.notFS fun o ho => by
        obtain ⟨o', ho', hf⟩ := IT.kind _ _ st₃ b hb
        rw [ho] at ho'; cases ho'; exact hf
      refine wpAny_bind (wpAny_mono (hbody i d hd _ s₃ v l xs (fun b q => .inl q) hPi F₃ p₃ rr₃ rv₃ _) (fun _ s₄ h₄ => wpAny_bind (wpAny_mono h₄ (fun fl s₅ h₅ => ?_) fun _ _ x => x)) fun _ _ x => x)
      rcases h₅ with ⟨rfl, l', xs', hP', F₅, p₅, rr₅, k₅⟩ | ⟨v, rfl, hq⟩
      · have kfp : ∀ b ∈ fp, ∀ o, s₃.heap.get? b = some o → s₅.heap.get? b = some o := fun b hb o e => k₅.kp (fun q => by
          rcases q with q | q
          · exact hSfp (q ▸ hb)
          · exact fpOwn b hb q) e
        refine wpAny_pure (.inl ⟨rfl, dts.length - (i + 1), by omega, i + 1, l', xs', rfl, hlt, hP', F₅, p₅, rr₅, IT.frame _ _ _ st₃ kfp, r₃.kps fun b o nb hs e => k₅.kp (fun q => ?_) e⟩)
        rcases q with q | q
        · exact nb (.inl (q ▸ hNS))
        · exact F₃.notSeq e hs q
      · exact wpAny_pure hq
  · have hin : i = dts.length := by omega
    subst hin
    refine IT.done s' _ _ st' fun h' tk kk => ?_
    have run : Run (fun b => b ∈ wr) s' { s' with heap := h', toks := s'.toks + tk } := ⟨h', tk, rfl, fun b o nb e => kk b o nb e⟩
    have F'' : Frm g N s₀ env oc ρ { s' with heap := h', toks := s'.toks + tk } := F'.mut' run (fun b hb => ⟨wrn b hb, .inr hb, kindX _ _ st' b hb⟩) (fun b q => .inl q) ⟨fun a na => by
      obtain ⟨o, ho⟩ := F'.view.old.1 a (.inl na); exact ⟨o, kk a o (hwN a na) ho⟩, Nat.lt_of_lt_of_le F'.view.old.2 (Nat.le_add_right _ _)⟩
    refine wpAny_pure (.inr ⟨rfl, codeAny_block ?_⟩)
    refine wpAny_execs_nil (h _ l xs hPi F'' (p'.at fun o e => kk S o hSwr e) ?_)
    exact Reps.less (rr'.kps fun b o nb _ e => kk b o (fun q => nb (.inr q)) e) fun b q => .inl q
end
end Mine
end
-- part D7
section
open PySem PySem.W PyProof.Rows PySem.SeqAt
open AutoSeq1 (wpAny_loadPart')
open MeetsSeq MeetsSeq2 MeetsSeq3 SeqRoads2
set_option maxRecDepth 100000
set_option linter.unusedVariables false
namespace Mine
def bLt : List Bool → List Bool → Bool
  | _, [] => false
  | [], _ :: _ => true
  | a :: l, b :: m => if a = b then bLt l m else (!a && b)
def bLe : List Bool → List Bool → Bool
  | [], _ => true
  | _ :: _, [] => false
  | a :: l, b :: m => if a = b then bLe l m else (!a && b)
theorem bLt_nil (l : List Bool) : bLt l [] = false := by cases l <;> rfl
theorem bLe_nil (l : List Bool) : bLe [] l = true := by cases l <;> rfl
theorem rc_lt_bool {prog : Program} {w : World} {A : Around} {E : Value → Shared → Prop} {s : Shared} {Q : Value → Shared → Prop} {p q : Bool} (hne : p ≠ q) (h : Q (.bool (!p && q)) s) : wpAny (model prog w) A (richCompare .Lt (.bool p) (.bool q)) Q E s := by
  refine PyProof.Rows.lt_bool (p := p) (q := q) ?_
  cases p <;> cases q <;> first | exact absurd rfl hne | exact h
theorem rc_le_bool {prog : Program} {w : World} {A : Around} {E : Value → Shared → Prop} {s : Shared} {Q : Value → Shared → Prop} {p q : Bool} (hne : p ≠ q) (h : Q (.bool (!p && q)) s) : wpAny (model prog w) A (richCompare .LtE (.bool p) (.bool q)) Q E s := by
  refine PyProof.Rows.le_bool (p := p) (q := q) ?_
  cases p <;> cases q <;> first | exact absurd rfl hne | exact h
theorem lt_loop (l b : Addr) (xs ys : List Bool) (n n2 : Nat) (dd dd2 : Option Addr) (sl sl2 : Array (Option Value)) (k : Nat) :
    ∀ i : Nat, xs.length - i = k → i ≤ xs.length → i ≤ ys.length → Meets (Builtin.«list.__eq__.loop» ⟨[.ref l, .ref b, rawInt i, rawInt 0], []⟩)
      (fun A R s => s.heap.get? l = some { cls := .type "list", dict := dd, data := .seq (xs.map Value.bool).toArray n, slots := sl } ∧ s.heap.get? b = some { cls := .type "list", dict := dd2, data := .seq (ys.map Value.bool).toArray n2, slots := sl2 } ∧
        R (.ok (.ret (.bool (bLt (xs.drop i) (ys.drop i))))) s) := by
  induction k with
  | zero =>
    intro i hk hi1 hi2 prog w A R s h
    obtain ⟨hp, g, d, tk, os⟩ := s; obtain ⟨hl, hb, h⟩ := h
    wp_walk using wpAny_loadPart' hl, wpAny_loadPart' hb
    have e1 : (xs.map Value.bool).toArray[((i : Nat) : Int).toNat]? = none := by simp; omega
    have hd : xs.drop i = [] := by simp; omega
    rw [hd] at h
    rw [e1]
    wp_walk using wpAny_loadPart' hl, wpAny_loadPart' hb
    show R (.ok (.ret (.bool (decide ((xs.map Value.bool).toArray.size < (ys.map Value.bool).toArray.size))))) _
    have hxl : xs.length = i := by omega
    cases q : ys.drop i with
    | nil =>
      have : ys.length ≤ i := List.drop_eq_nil_iff.mp q
      rw [q] at h
      rw [decide_eq_false (by simp; omega)]; exact h
    | cons y r =>
      have : i < ys.length := by
        rcases Nat.lt_or_ge i ys.length with h' | h'
        · exact h'
        · rw [List.drop_eq_nil_of_le h'] at q; cases q
      rw [q] at h
      rw [decide_eq_true (by simp; omega)]; exact h
  | succ k ih =>
    intro i hk hi1 hi2 prog w A R s h
    obtain ⟨hp, g, d, tk, os⟩ := s; obtain ⟨hl, hb, h⟩ := h
    wp_walk using wpAny_loadPart' hl, wpAny_loadPart' hb
    have hlt : i < xs.length := by omega
    have e1 : (xs.map Value.bool).toArray[((i : Nat) : Int).toNat]? = some (.bool xs[i]) := by simp [hlt]
    have hdx : xs.drop i = xs[i] :: xs.drop (i + 1) := List.drop_eq_getElem_cons hlt
    rw [hdx] at h
    rw [e1]
    by_cases hlt2 : i < ys.length
    · have e2 : (ys.map Value.bool).toArray[((i : Nat) : Int).toNat]? = some (.bool ys[i]) := by simp [hlt2]
      have hdy : ys.drop i = ys[i] :: ys.drop (i + 1) := List.drop_eq_getElem_cons hlt2
      have hc : ((i : Int) + 1) = ((i + 1 : Nat) : Int) := by push_cast; rfl
      rw [hdy] at h
      rw [e2]
      refine wpAny_bind (EqAt.bool_bool xs[i] ys[i] prog w _ _ ?_)
      by_cases hxy : xs[i] = ys[i]
      · have hbe : (xs[i] == ys[i]) = true := by simpa using hxy
        unfold bLt at h
        rw [if_pos hxy] at h
        rw [hbe]
        wp_walk
        rw [hc]
        exact ⟨plainId_quiet plain_eq_loop _, codeAny_builtin entry_eq_loop (by
          rw [Around.under_plainId plain_eq_loop _]
          exact ih (i + 1) (by omega) (by omega) (by omega) prog w A R _ ⟨hl, hb, h⟩)⟩
      · have hbe : (xs[i] == ys[i]) = false := by simpa using hxy
        unfold bLt at h
        rw [if_neg hxy] at h
        rw [hbe]
        wp_walk using wpAny_loadPart' hl, wpAny_loadPart' hb
        rw [e1, e2]
        wp_walk using rc_lt_bool hxy
        exact h
    · have e2 : (ys.map Value.bool).toArray[((i : Nat) : Int).toNat]? = none := by simp; omega
      have hdy : ys.drop i = [] := List.drop_eq_nil_of_le (by omega)
      rw [hdy] at h
      rw [e2]
      wp_walk using wpAny_loadPart' hl, wpAny_loadPart' hb
      show R (.ok (.ret (.bool (decide ((xs.map Value.bool).toArray.size < (ys.map Value.bool).toArray.size))))) _
      rw [decide_eq_false (by simp; omega)]; exact h
theorem le_loop (l b : Addr) (xs ys : List Bool) (n n2 : Nat) (dd dd2 : Option Addr) (sl sl2 : Array (Option Value)) (k : Nat) :
    ∀ i : Nat, xs.length - i = k → i ≤ xs.length → i ≤ ys.length → Meets (Builtin.«list.__eq__.loop» ⟨[.ref l, .ref b, rawInt i, rawInt 1], []⟩)
      (fun A R s => s.heap.get? l = some { cls := .type "list", dict := dd, data := .seq (xs.map Value.bool).toArray n, slots := sl } ∧ s.heap.get? b = some { cls := .type "list", dict := dd2, data := .seq (ys.map Value.bool).toArray n2, slots := sl2 } ∧
        R (.ok (.ret (.bool (bLe (xs.drop i) (ys.drop i))))) s) := by
  induction k with
  | zero =>
    intro i hk hi1 hi2 prog w A R s h
    obtain ⟨hp, g, d, tk, os⟩ := s; obtain ⟨hl, hb, h⟩ := h
    wp_walk using wpAny_loadPart' hl, wpAny_loadPart' hb
    have e1 : (xs.map Value.bool).toArray[((i : Nat) : Int).toNat]? = none := by simp; omega
    have hd : xs.drop i = [] := by simp; omega
    rw [hd] at h
    rw [e1]
    wp_walk using wpAny_loadPart' hl, wpAny_loadPart' hb
    show R (.ok (.ret (.bool (decide ((xs.map Value.bool).toArray.size ≤ (ys.map Value.bool).toArray.size))))) _
    have hxl : xs.length = i := by omega
    rw [bLe_nil] at h
    rw [decide_eq_true (by simp; omega)]; exact h
  | succ k ih =>
    intro i hk hi1 hi2 prog w A R s h
    obtain ⟨hp, g, d, tk, os⟩ := s; obtain ⟨hl, hb, h⟩ := h
    wp_walk using wpAny_loadPart' hl, wpAny_loadPart' hb
    have hlt : i < xs.length := by omega
    have e1 : (xs.map Value.bool).toArray[((i : Nat) : Int).toNat]? = some (.bool xs[i]) := by simp [hlt]
    have hdx : xs.drop i = xs[i] :: xs.drop (i + 1) := List.drop_eq_getElem_cons hlt
    rw [hdx] at h
    rw [e1]
    by_cases hlt2 : i < ys.length
    · have e2 : (ys.map Value.bool).toArray[((i : Nat) : Int).toNat]? = some (.bool ys[i]) := by simp [hlt2]
      have hdy : ys.drop i = ys[i] :: ys.drop (i + 1) := List.drop_eq_getElem_cons hlt2
      have hc : ((i : Int) + 1) = ((i + 1 : Nat) : Int) := by push_cast; rfl
      rw [hdy] at h
      rw [e2]
      refine wpAny_bind (EqAt.bool_bool xs[i] ys[i] prog w _ _ ?_)
      by_cases hxy : xs[i] = ys[i]
      · have hbe : (xs[i] == ys[i]) = true := by simpa using hxy
        unfold bLe at h
        rw [if_pos hxy] at h
        rw [hbe]
        wp_walk
        rw [hc]
        exact ⟨plainId_quiet plain_eq_loop _, codeAny_builtin entry_eq_loop (by
          rw [Around.under_plainId plain_eq_loop _]
          exact ih (i + 1) (by omega) (by omega) (by omega) prog w A R _ ⟨hl, hb, h⟩)⟩
      · have hbe : (xs[i] == ys[i]) = false := by simpa using hxy
        unfold bLe at h
        rw [if_neg hxy] at h
        rw [hbe]
        wp_walk using wpAny_loadPart' hl, wpAny_loadPart' hb
        rw [e1, e2]
        wp_walk using rc_le_bool hxy
        exact h
    · have e2 : (ys.map Value.bool).toArray[((i : Nat) : Int).toNat]? = none := by simp; omega
      have hdy : ys.drop i = [] := List.drop_eq_nil_of_le (by omega)
      rw [hdy] at h
      rw [e2]
      wp_walk using wpAny_loadPart' hl, wpAny_loadPart' hb
      show R (.ok (.ret (.bool (decide ((xs.map Value.bool).toArray.size ≤ (ys.map Value.bool).toArray.size))))) _
      rw [decide_eq_false (by simp; omega)]; exact h

theorem list_ltB (l b : Addr) (xs ys : List Bool) (n n2 : Nat) (dd dd2 : Option Addr) (sl sl2 : Array (Option Value)) :
    Meets (Builtin.«list.__lt__» ⟨[.ref l, .ref b], []⟩)
      (fun A R s => s.heap.get? l = some { cls := .type "list", dict := dd, data := .seq (xs.map Value.bool).toArray n, slots := sl } ∧ s.heap.get? b = some { cls := .type "list", dict := dd2, data := .seq (ys.map Value.bool).toArray n2, slots := sl2 } ∧
        R (.ok (.ret (.bool (bLt xs ys)))) s) := by
  intro prog w A R s h
  obtain ⟨hp, g, d, tk, os⟩ := s; obtain ⟨hl, hb, h⟩ := h
  have f3 := AutoSeq1.sub_list_list
  wp_walk using wpAny_loadPart' hl, wpAny_loadPart' hb
  exact ⟨plainId_quiet plain_eq_loop _, codeAny_builtin entry_eq_loop (by
    rw [Around.under_plainId plain_eq_loop _]
    exact lt_loop l b xs ys n n2 dd dd2 sl sl2 _ 0 rfl (Nat.zero_le _) (Nat.zero_le _) prog w A R _ ⟨hl, hb, by simpa using h⟩)⟩
theorem list_leB (l b : Addr) (xs ys : List Bool) (n n2 : Nat) (dd dd2 : Option Addr) (sl sl2 : Array (Option Value)) :
    Meets (Builtin.«list.__le__» ⟨[.ref l, .ref b], []⟩)
      (fun A R s => s.heap.get? l = some { cls := .type "list", dict := dd, data := .seq (xs.map Value.bool).toArray n, slots := sl } ∧ s.heap.get? b = some { cls := .type "list", dict := dd2, data := .seq (ys.map Value.bool).toArray n2, slots := sl2 } ∧
        R (.ok (.ret (.bool (bLe xs ys)))) s) := by
  intro prog w A R s h
  obtain ⟨hp, g, d, tk, os⟩ := s; obtain ⟨hl, hb, h⟩ := h
  have f3 := AutoSeq1.sub_list_list
  wp_walk using wpAny_loadPart' hl, wpAny_loadPart' hb
  exact ⟨plainId_quiet plain_eq_loop _, codeAny_builtin entry_eq_loop (by
    rw [Around.under_plainId plain_eq_loop _]
    exact le_loop l b xs ys n n2 dd dd2 sl sl2 _ 0 rfl (Nat.zero_le _) (Nat.zero_le _) prog w A R _ ⟨hl, hb, by simpa using h⟩)⟩

section
variable {prog : Program} {w : World} {g : Heap} {N : Addr → Prop} {A : Around} {env : Env} {oc : List Addr} {ρ : List (Str × D)} {s₀ s : Shared}
theorem reps_bools {N : Addr → Prop} {h : Heap} : ∀ {xs : List Bool} {vs : List Value}, Reps N h (xs.map .bool) vs → vs = xs.map Value.bool
  | [], vs, r => Reps.nil_inv r
  | x :: xs, vs, r => by
    obtain ⟨v, ws, rfl, a, b⟩ := Reps.cons_inv r
    rw [a.bool_inv, reps_bools b]; rfl
theorem cop_blt {n : Nat} {xs ys : List Bool} (R : Room n A) : Cop prog w g A .Lt (.lst (xs.map .bool)) (.lst (ys.map .bool)) (bLt xs ys) := by
  intro N s va vb _ hN ha hb E
  obtain ⟨a, vs, rfl, na, hla, r⟩ := ha.lst_inv
  obtain ⟨b, us, rfl, nb, hlb, r'⟩ := hb.lst_inv
  have := reps_bools r; subst this
  have := reps_bools r'; subst this
  obtain ⟨⟨cls, dd, data, sl⟩, ho, hc, n, hd⟩ := id hla
  obtain ⟨⟨cls2, dd2, data2, sl2⟩, ho2, hc2, n2, hd2⟩ := id hlb
  simp only at hc hd hc2 hd2
  subst hc hd hc2 hd2
  exact richCompare_meets_room (op := .Lt) ⟨_, ho, rfl⟩ ⟨_, ho2, rfl⟩ F.slot_list_lt F.entry_list_lt (F.args_list_lt_2 _ _) (list_ltB a b xs ys n n2 dd dd2 sl sl2)
    ⟨ho, ho2, show Value.bool (bLt xs ys) ≠ Value.notImplemented ∧ _ from ⟨(fun x => nomatch x), rfl, krefl _⟩⟩ R.units
theorem cop_ble {n : Nat} {xs ys : List Bool} (R : Room n A) : Cop prog w g A .LtE (.lst (xs.map .bool)) (.lst (ys.map .bool)) (bLe xs ys) := by
  intro N s va vb _ hN ha hb E
  obtain ⟨a, vs, rfl, na, hla, r⟩ := ha.lst_inv
  obtain ⟨b, us, rfl, nb, hlb, r'⟩ := hb.lst_inv
  have := reps_bools r; subst this
  have := reps_bools r'; subst this
  obtain ⟨⟨cls, dd, data, sl⟩, ho, hc, n, hd⟩ := id hla
  obtain ⟨⟨cls2, dd2, data2, sl2⟩, ho2, hc2, n2, hd2⟩ := id hlb
  simp only at hc hd hc2 hd2
  subst hc hd hc2 hd2
  exact richCompare_meets_room (op := .LtE) ⟨_, ho, rfl⟩ ⟨_, ho2, rfl⟩ F.slot_list_le F.entry_list_le (F.args_list_le_2 _ _) (list_leB a b xs ys n n2 dd dd2 sl sl2)
    ⟨ho, ho2, show Value.bool (bLe xs ys) ≠ Value.notImplemented ∧ _ from ⟨(fun x => nomatch x), rfl, krefl _⟩⟩ R.units
end
end Mine
end
-- part D8
section
open PySem PySem.W PyProof.Rows
set_option maxRecDepth 100000
set_option linter.unusedVariables false
namespace Mine
section
variable {prog : Program} {w : World} {g : Heap} {A : Around} {env : Env} {oc : List Addr} {ρ : List (Str × D)}

theorem It.zip (hh : A.handled = none) (elts : List Expr) (k : Nat) (pos : Pos) (z TI TO i1 i2 l1 l2 : Addr) (D : ZipApart z TI TO i1 i2 l1 l2) (ds1 ds2 : List Mine.D) (vs1 vs2 : List Value) (h1 : vs1.length = ds1.length) (h2 : vs2.length = ds2.length) (h12 : ds1.length = ds2.length) :
    It prog w A (.Tuple elts k pos) z [z, TI, TO, i1, i2, l1, l2] [z, TO, i1, i2] ((ds1.zip ds2).map fun p => .tup [p.1, p.2]) (ds1 ++ ds2) (vs1 ++ vs2)
      (fun i h => IsZip h z TI TO .none ∧ IsPair h TI (.ref i1) (.ref i2) ∧ (∃ a b, IsPair h TO a b) ∧ h.IsListIter i1 l1 i ∧ h.IsListIter i2 l2 i ∧ h.IsList l1 vs1.toArray ∧ h.IsList l2 vs2.toArray) where
  sub := (WalksT.zip2 (prog := prog) (w := w) hh z TI TO i1 i2 l1 l2 D vs1.toArray vs2.toArray).sub
  frame := (WalksT.zip2 (prog := prog) (w := w) hh z TI TO i1 i2 l1 l2 D vs1.toArray vs2.toArray).frame
  kind := fun i h st b hb => by
    obtain ⟨hz, hTI, ⟨a, b', hTO⟩, ⟨o1, ho1, _, hd1⟩, ⟨o2, ho2, _, hd2⟩, ⟨o3, ho3, _, n3, hd3⟩, ⟨o4, ho4, _, n4, hd4⟩⟩ := st
    simp at hb
    rcases hb with rfl | rfl | rfl | rfl | rfl | rfl | rfl
    · exact ⟨_, hz, .inl ⟨_, rfl⟩⟩
    · exact ⟨_, hTI, .inr ⟨_, _, rfl⟩⟩
    · exact ⟨_, hTO, .inr ⟨_, _, rfl⟩⟩
    · exact ⟨_, ho1, .inl ⟨_, hd1⟩⟩
    · exact ⟨_, ho2, .inl ⟨_, hd2⟩⟩
    · exact ⟨_, ho3, .inr ⟨_, _, hd3⟩⟩
    · exact ⟨_, ho4, .inr ⟨_, _, hd4⟩⟩
  item := fun N i d s Q E hw hold hr hd st hQ => by
    obtain ⟨hz, hTI, ⟨a, b', hTO⟩, hi1, hi2, hl1, hl2⟩ := st
    have hi : i < ds1.length := by
      have := (List.getElem?_eq_some_iff.mp hd).1
      simp at this; omega
    have hj : i < ds2.length := by omega
    have ed : d = .tup [ds1[i], ds2[i]] := by
      have := (List.getElem?_eq_some_iff.mp hd).2
      rw [← this]; simp
    subst ed
    obtain ⟨v1, hv1, r1⟩ := hr.get (i := i) (d := ds1[i]) (by rw [List.getElem?_append_left hi]; simp)
    obtain ⟨v2, hv2, r2⟩ := hr.get (i := ds1.length + i) (d := ds2[i]) (by rw [List.getElem?_append_right (by omega), Nat.add_sub_cancel_left]; simp)
    rw [List.getElem?_append_left (by omega)] at hv1
    rw [List.getElem?_append_right (by omega), h1, Nat.add_sub_cancel_left] at hv2
    refine wpAny_pyNext_zip_item D hz hTI hTO hi1 hi2 hl1 hl2 (x := v1) (y := v2) (by simpa using hv1) (by simpa using hv2) fun h' a1 a2 a3 a4 a5 a6 hk => ⟨_, rfl, ?_⟩
    have lt : ∀ {c o}, s.heap.get? c = some o → s.heap.objs.size ≠ c := fun e => Nat.ne_of_gt (Heap.lt_size e)
    have W := WalksT.zip2 (prog := prog) (w := w) hh z TI TO i1 i2 l1 l2 D vs1.toArray vs2.toArray
    have nT : s.heap.objs.size ∉ [z, TO, i1, i2] := fun q => by
      simp at q
      rcases q with q | q | q | q
      · exact lt hz q
      · exact lt hTO q
      · obtain ⟨_, e, _⟩ := hi1; exact lt e q
      · obtain ⟨_, e, _⟩ := hi2; exact lt e q
    have hk' : ∀ b o, b ∉ [z, TO, i1, i2] → s.heap.get? b = some o → h'.get? b = some o := fun c o hc e => hk c o (fun x => hc (by simp [x])) (fun x => hc (by simp [x])) (fun x => hc (by simp [x])) (fun x => hc (by simp [x])) e
    refine W.go elts k pos i s.heap.objs.size _ _ E ⟨a1, hk _ _ D.TIz D.TITO D.TIi1 D.TIi2 hTI, ⟨_, _, a2⟩, a3, a4, hl1.at fun o e => hk _ o D.l1z D.l1TO D.l1i1 D.l1i2 e, hl2.at fun o e => hk _ o D.l2z D.l2TO D.l2i1 D.l2i2 e, fun q => nT (by simp [q]), fun q => nT (by simp [q]), fun q => nT (by simp [q]), fun q => nT (by simp [q])⟩ fun h'' st'' kk => ?_
    have ks : KpS N s.heap h'' := fun b o nb _ e => kk b o (fun q => nb (hw b q)) (hk' b o (fun q => nb (hw b q)) e)
    refine hQ (.ref s.heap.objs.size) h'' 0 (Rep.tup_of hold.new ⟨_, kk _ _ nT a5, rfl, _, rfl⟩ (Reps.cons (r1.kps ks) (Reps.cons (r2.kps ks) Reps.nil))) st'' fun b o hb e => kk b o hb (hk' b o hb e)
  done := fun s Q E st hQ => by
    obtain ⟨hz, hTI, ⟨a, b', hTO⟩, hi1, hi2, hl1, hl2⟩ := st
    refine wpAny_pyNext_zip_end hh D hz hTI hTO hi1 hi2 hl1 hl2 (.inl (by simp; omega)) fun h' hk => hQ h' 0 fun c o hc e => hk c o (fun x => hc (by simp [x])) (fun x => hc (by simp [x])) (fun x => hc (by simp [x])) (fun x => hc (by simp [x])) e
  self := (WalksT.zip2 (prog := prog) (w := w) hh z TI TO i1 i2 l1 l2 D vs1.toArray vs2.toArray).self

theorem src_zip {f e1 e2 : Expr} {pos : Pos} {elts : List Expr} {k : Nat} {p : Pos} {ds1 ds2 : List D} (hh : A.handled = none) (hf : Ev prog w g A env ρ f (.val (.type "zip"))) (h1 : Ev prog w g A env ρ e1 (.lst ds1)) (h2 : Ev prog w g A env ρ e2 (.lst ds2)) (h12 : ds1.length = ds2.length)
    (hn : ∀ env, eval (.Call f [e1, e2] [] pos) env = (do callWith pos (← eval f env) [] (backTo pos (starEach [e1, e2] env)) []) := by intro _; rfl)
    (he : ∀ env, starEach [e1, e2] env = (false, eval e1 env) :: starEach [e2] env := by intro _; rfl) (he2 : ∀ env, starEach [e2] env = (false, eval e2 env) :: starEach [] env := by intro _; rfl) :
    Src prog w g A env ρ (.Call f [e1, e2] [] pos) (.Tuple elts k p) ((ds1.zip ds2).map fun p => .tup [p.1, p.2]) := by
  intro N s V E Q hQ
  rw [hn]
  refine wpAny_bind (wpAny_mono (hf N s V E) (fun fv s₁ k₁ => ?_) fun _ _ x => x)
  have := k₁.1.val_inv; subst this
  have V₁ := V.keeps k₁.2
  refine Pv.callWith_type1 ?_ (he env) (by rw [he2]; rfl)
  refine wpAny_mono ((evs_cons h1 (evs_cons h2 evs_nil he2) he) N s₁ V₁ E) (fun vs s₂ k₂ => ?_) fun _ _ x => x
  obtain ⟨v1, ws, rfl, r1, rr⟩ := k₂.1.cons_inv
  obtain ⟨v2, ws, rfl, r2, rr⟩ := rr.cons_inv
  have := rr.nil_inv; subst this
  obtain ⟨l1, vs1, rfl, n1, hl1, r1⟩ := r1.lst_inv
  obtain ⟨l2, vs2, rfl, n2, hl2, r2⟩ := r2.lst_inv
  have V₂ := V₁.keeps k₂.2
  have t1 : l1 < s₂.heap.objs.size := by obtain ⟨o, ho, _⟩ := hl1; exact Heap.lt_size ho
  have t2 : l2 < s₂.heap.objs.size := by obtain ⟨o, ho, _⟩ := hl2; exact Heap.lt_size ho
  refine call_zip_2 hl1 hl2 fun h' hz hTI hTO hi1 hi2 hsz hk => ?_
  refine wpAny_pyIter_zip hz ?_
  have K12 : Keeps s { s₂ with heap := h' } := ktrans k₁.2 (ktrans k₂.2 ⟨h', 0, rfl, hk⟩)
  have newS : ∀ b, s₂.heap.objs.size ≤ b → s.heap.get? b = none := fun b hb => by
    cases q : s.heap.get? b with
    | none => rfl
    | some o => exact absurd (Heap.lt_size (kpOf (ktrans k₁.2 k₂.2) _ _ q)) (Nat.not_lt.mpr hb)
  have newN : ∀ b, s₂.heap.objs.size ≤ b → ¬ N b := fun b hb nb => by
    obtain ⟨o, e⟩ := V.old.1 b nb; rw [newS b hb] at e; cases e
  refine hQ _ _ _ _ _ _ _ K12 (It.zip hh elts k p _ _ _ _ _ l1 l2 (zipApart_new t1 t2) ds1 ds2 vs1 vs2 r1.length r2.length h12) ⟨hz, hTI, ⟨_, _, hTO⟩, hi1, hi2, hl1.at fun o e => hk _ o e, hl2.at fun o e => hk _ o e⟩ ?_ ?_ ?_
  · intro b hb
    simp at hb
    rcases hb with rfl | rfl | rfl | rfl
    · exact newS _ (Nat.le_add_right _ _)
    · exact newS _ (Nat.le_add_right _ _)
    · exact newS _ (Nat.le_refl _)
    · exact newS _ (Nat.le_add_right _ _)
  · intro b nb hb
    simp at hb
    rcases hb with rfl | rfl | rfl | rfl | rfl | rfl | rfl
    · exact newN _ (Nat.le_add_right _ _) nb
    · exact newN _ (Nat.le_add_right _ _) nb
    · exact newN _ (Nat.le_add_right _ _) nb
    · exact newN _ (Nat.le_refl _) nb
    · exact newN _ (Nat.le_add_right _ _) nb
    · exact n1 nb
    · exact n2 nb
  · refine Reps.mono (N := N) (fun b o _ _ e => hk b o e) (fun b o nb e q => ?_) _ _ (Reps.append r1 r2)
    rcases q with q | q
    · exact nb q
    · have hlt := Heap.lt_size e
      simp at q
      rcases q with rfl | rfl | rfl | rfl
      · exact absurd hlt (Nat.not_lt.mpr (Nat.le_add_right _ _))
      · exact absurd hlt (Nat.not_lt.mpr (Nat.le_add_right _ _))
      · exact absurd hlt (Nat.lt_irrefl _)
      · exact absurd hlt (Nat.not_lt.mpr (Nat.le_add_right _ _))
end
end Mine
end
-- part D9
section
open PySem PySem.W PyProof.Rows
set_option maxRecDepth 100000
set_option linter.unusedVariables false
namespace Mine

/-- every object of a heap, but L -/
def allBut (h : Heap) (L : Addr) : List (Addr × Obj) := (List.range h.objs.size).filterMap fun b => if b = L then none else (h.get? b).map fun o => (b, o)
theorem allBut_mem {h : Heap} {L b : Addr} {o : Obj} (hb : b ≠ L) (e : h.get? b = some o) : (b, o) ∈ allBut h L := by
  unfold allBut
  refine List.mem_filterMap.mpr ⟨b, List.mem_range.mpr (Heap.lt_size e), ?_⟩
  rw [if_neg hb, e]; rfl
theorem allBut_of {h : Heap} {L : Addr} {p : Addr × Obj} (hp : p ∈ allBut h L) : p.1 ≠ L ∧ h.get? p.1 = some p.2 := by
  unfold allBut at hp
  obtain ⟨b, _, e⟩ := List.mem_filterMap.mp hp
  by_cases hb : b = L
  · rw [if_pos hb] at e; cases e
  · rw [if_neg hb] at e
    cases q : h.get? b with
    | none => rw [q] at e; cases e
    | some o => rw [q] at e; cases e; exact ⟨hb, q⟩

theorem sorted_unique : ∀ {ps es : List (Int × Value)}, ps.Perm es → ps.Pairwise (fun p q => p.1 ≤ q.1) → es.Pairwise (fun p q => p.1 < q.1) → ps = es
  | ps, [], hp, _, _ => hp.eq_nil
  | [], e :: es, hp, _, _ => absurd hp.symm.eq_nil (by simp)
  | p :: ps, e :: es, hp, h1, h2 => by
    rw [List.pairwise_cons] at h1 h2
    have : p = e := by
      have hpm : p ∈ e :: es := hp.mem_iff.mp (by simp)
      rcases List.mem_cons.mp hpm with q | q
      · exact q
      · have hem : e ∈ p :: ps := hp.mem_iff.mpr (by simp)
        rcases List.mem_cons.mp hem with q' | q'
        · exact q'.symm
        · have a := h2.1 p q
          have b := h1.1 e q'
          omega
    subst this
    rw [sorted_unique (List.Perm.cons_inv hp) h1.2 h2.2]

section
variable {prog : Program} {w : World} {g : Heap} {N : Addr → Prop} {A : Around} {env : Env} {oc : List Addr} {ρ : List (Str × D)} {s₀ s : Shared} {E : Value → Shared → Prop}

/-- sorted by a key of ints -/
theorem sort_call {q l L : Addr} {vs : List Value} {kz : List Int} {m : Str → Option Value} {Q : Value → Shared → Prop} (hl : s.heap.IsList l vs.toArray) (hL : s.heap.Ns L m) (hlen : kz.length = vs.length) (h64 : vs.length < 64)
    (turn : ∀ (i : Nat) (v : Value) (k : Int), vs[i]? = some v → kz[i]? = some k → ∀ (h : Heap) (tk : Nat), (∀ b o, b ≠ L → s.heap.get? b = some o → h.get? b = some o) → h.Ns L m →
      wpAny (model prog w) A.in1.in1 (call (.ref q) [v]) (fun r s' => ∃ (h' : Heap) (tk' : Nat) (t' : Nat), s' = { s with heap := h', toks := tk' } ∧ r = .int k t' ∧ Kp h h') (fun _ _ => False) { s with heap := h, toks := tk })
    (hQ : ∀ (D : Addr) (h' : Heap) (tk : Nat) (out : Array Value), s.toks ≤ tk → (∀ b o, b ≠ L → s.heap.get? b = some o → h'.get? b = some o) → h'.Ns L m → h'.IsList D out → s.heap.get? D = none → KskOut false kz vs out.toList → Q (.ref D) { s with heap := h', toks := tk }) :
    wpAny (model prog w) A (call (.builtin "sorted") [.ref l] [(Str.ofString "key", .ref q)]) Q E s := by
  have hne : ∀ b, (default : Heap).get? b = none := fun b => Heap.get?_none_of_le (Nat.zero_le _)
  have F : Fr (default : Heap) L s.heap m := ⟨hL, fun b o e => absurd e (by rw [hne b]; exact fun x => nomatch x), Nat.zero_le _⟩
  have hN : News (default : Heap) L s.heap (allBut s.heap L) := fun p hp => ⟨(allBut_of hp).2, (allBut_of hp).1, Heap.get?_none_of_le (Nat.zero_le _)⟩
  refine wpAny_with_toks (Nat.le_refl s.toks) ?_
  refine ksk_sorted (b := false) (kz := kz) F hN hl hlen h64 (ksk_s1 _ _) (fun x => ksk_l1 _ _) (fun x => ksk_t1 _ _) (fun i v k hv hk h tk own F' N' => ?_) fun D h' tk out c F' N' l1 ko => ?_
  · have keep : ∀ b o, b ≠ L → s.heap.get? b = some o → h.get? b = some o := fun b o hb e => (N' (b, o) (List.mem_append_left _ (allBut_mem hb e))).1
    refine wpAny_mono (turn i v k hv hk h tk keep F'.ns) (fun r s' h₁ => ?_) fun _ _ x => x
    obtain ⟨h', tk', t', rfl, rfl, kk⟩ := h₁
    exact ⟨h', tk', t', rfl, rfl, ⟨F'.ns.keeps kk, fun b o e => kk _ _ (F'.keep b o e), F'.above⟩, fun p hp => ⟨kk _ _ (N' p hp).1, (N' p hp).2⟩⟩
  · intro htk
    refine hQ D h' tk out htk (fun b o hb e => (N' (b, o) (List.mem_cons_of_mem _ (allBut_mem hb e))).1) F'.ns ⟨_, (N' _ (List.mem_cons_self ..)).1, rfl, _, rfl⟩ ?_ ko
    cases e : s.heap.get? D with
    | none => rfl
    | some o =>
      have hD : D ≠ L := (N' _ (List.mem_cons_self ..)).2.1
      exact absurd (l1 _ (allBut_mem hD e)) (Nat.lt_irrefl _)

/-- the frame's own dict alone has turned, its names are as they were -/
theorem Frm.relocal {s' : Shared} {m : Str → Option Value} (F : Frm g N s₀ env oc ρ s) (hm : s.heap.Ns env.locals m) (hm' : s'.heap.Ns env.locals m) (k : Run (fun b => b = env.locals) s s') : Frm g N s₀ env oc ρ s' := by
  have k' : Run (Own env oc) s s' := k.mono fun b q => .inl q
  have ks := F.reps k'
  have cells : ∀ a u, s.heap.IsCell a u → s'.heap.IsCell a u := fun a u ⟨o, ho, hd⟩ => ⟨o, k.kp (fun q => by
    subst q
    obtain ⟨o', es, ep, ho', hd', _⟩ := hm
    rw [ho] at ho'; cases ho'; rw [hd] at hd'; cases hd') ho, hd⟩
  have sm := Run.keeps F.same k' F.ownNew
  have hown : ∀ b, Own env oc b → ∃ o, s'.heap.get? b = some o := by
    rintro b (rfl | hb)
    · obtain ⟨o, _, _, ho, _⟩ := hm'; exact ⟨o, ho⟩
    · obtain ⟨⟨u, hu⟩, _⟩ := F.cel b hb
      obtain ⟨o, ho, _⟩ := cells b u hu; exact ⟨o, ho⟩
  refine ⟨sm, ⟨_, hm'⟩, F.new, fun c hc => let ⟨⟨u, hu⟩, hn⟩ := F.cel c hc; ⟨⟨u, cells c u hu⟩, hn⟩, F.inj, F.ground, F.ground.trans (kpOf sm), F.oldRun k' hown, F.view.fn, F.view.gl, F.view.bu, fun n a e => let ⟨u, hu⟩ := F.view.cex n a e; ⟨u, cells a u hu⟩, fun y d' e => ?_⟩
  rcases F.view.vars y d' e with ⟨a, m', u, n', e', r'⟩ | ⟨a, c, u, e1, e2, e3⟩
  · have := Ns.unique n' hm; subst this
    exact .inl ⟨a, _, u, hm', e', Rep.kps r' ks⟩
  · exact .inr ⟨a, c, u, e1, cells c _ e2, Rep.kps e3 ks⟩

/-- the frame at a lower start -/
theorem Frm.lower {s₁ : Shared} (F : Frm g N s₀ env oc ρ s) (hk : Kp s₁.heap s₀.heap) (hs : Keeps s₁ s) (hg : Kp g s₁.heap) : Frm g N s₁ env oc ρ s := by
  have nn : ∀ b, s₀.heap.get? b = none → s₁.heap.get? b = none := fun b e => by
    cases q : s₁.heap.get? b with
    | none => rfl
    | some o => rw [hk b o q] at e; cases e
  exact ⟨hs, F.ns, nn _ F.new, fun c hc => ⟨(F.cel c hc).1, nn _ (F.cel c hc).2⟩, F.inj, hg, F.view⟩

def key (x : Int × Int) : Int := (x.1 * 60).fdiv x.2
def pD (x : Int × Int) : D := .tup [.int x.1, .int x.2]

/-- lambda one: one[0] * 60 // one[1] -/
theorem lam_turn {q c' : Addr} {name qual : Str} {params : Arguments} {scope : Scope} {pm ctv : Value} {x : Int × Int} {v : Value} {p1 p2 p3 p4 p5 p6 p7 p8 p9 : Pos} {k1 k2 k3 : Nat} {h : Heap} {tk : Nat}
    (hh : A.handled = none) (hd : A.depth < recursionLimit) (hlim : h.NoLimit)
    (ho : h.get? q = some (kla_obj name qual params (.BinOp (.BinOp (.Subscript (.Name (Str.ofString "one") p1) (.Constant (.int 0) k1 p2) p3) .Mult (.Constant (.int 60) k2 p4) p5) .FloorDiv (.Subscript (.Name (Str.ofString "one") p6) (.Constant (.int 1) k3 p7) p8) p9) scope [] pm c' ctv))
    (hcr : h.CodeRec (.ref c') qual) (hr : Rep N h (pD x) v) (hx0 : x.2 ≠ 0) (hx1 : x.2.natAbs < 1073741824) (hm : IntMulOk x.1 60)
    (hsc : scope.kind = .function) (hn1 : scope.names.lookup (Str.ofString "one") = some .local) (hnc : ∀ y ∈ scope.names, y.2 ≠ .cell) (hco : scope.isCoroutine = false) (hgen : scope.isGenerator = false)
    (hbind : bindArgs (kla_fn name qual params (.BinOp (.BinOp (.Subscript (.Name (Str.ofString "one") p1) (.Constant (.int 0) k1 p2) p3) .Mult (.Constant (.int 60) k2 p4) p5) .FloorDiv (.Subscript (.Name (Str.ofString "one") p6) (.Constant (.int 1) k3 p7) p8) p9) scope [] pm (.ref c') ctv) ⟨[v], []⟩ = pure [(Str.ofString "one", v)]) :
    wpAny (model prog w) A (call (.ref q) [v]) (fun r s' => ∃ (h' : Heap) (tk' : Nat) (t' : Nat), s' = { s with heap := h', toks := tk' } ∧ r = .int (key x) t' ∧ Kp h h') E { s with heap := h, toks := tk } := by
  obtain ⟨a, vs, rfl, na, ht, rv⟩ := hr.tup_inv
  obtain ⟨v1, vs, rfl, r1, rv⟩ := rv.cons_inv
  obtain ⟨v2, vs, rfl, r2, rv⟩ := rv.cons_inv
  have := rv.nil_inv; subst this
  obtain ⟨t1, rfl⟩ := r1.int_inv
  obtain ⟨t2, rfl⟩ := r2.int_inv
  refine wpAny_call (kla_callFunE hd ho rfl hco hgen rfl hcr ?_)
  rw [hbind]
  refine wpAny_pure (wpAny_newFunctionEnv hnc (fun y hy => by rw [List.mem_singleton.mp hy]; exact hn1) (fun h₁ hns hsb => ⟨hlim.fresh _ hsb, ?_⟩) hsc)
  have hk₁ : Kp h h₁ := fun b o e => hsb.extBut b o (Nat.ne_of_lt (Heap.lt_size e)) (Heap.get?_push_of_some _ e)
  have ht₁ : IsTup h₁ a #[.int x.1 t1, .int x.2 t2] := by obtain ⟨o, ho, hc, n, hd⟩ := ht; exact ⟨o, hk₁ _ _ ho, hc, n, hd⟩
  refine kla_codeExpr ?_
  have hnm : (fun y => List.lookup y [(Str.ofString "one", Value.ref a)].reverse) (Str.ofString "one") = some (.ref a) := by simp
  refine wpAny_BinOp (wpAny_BinOp (Subscript_ (wpAny_Name (wpAny_loadName_local hsc hn1 hns hnm ?_) (by decide))))
  refine wpAny_Constant_int ?_
  refine item_tupleT ht₁ (by decide) (by decide) (j := 0) rfl rfl ?_ (by with_unfolding_all rfl)
  refine wpAny_Constant_int ?_
  refine PyProof.Rows.mul_int ?_ hm
  refine Subscript_ (wpAny_Name (wpAny_loadName_local hsc hn1 hns hnm ?_) (by decide))
  refine wpAny_Constant_int ?_
  refine item_tupleT ht₁ (by decide) (by decide) (j := 1) rfl rfl ?_ (by with_unfolding_all rfl)
  refine PyProof.Rows.floordiv_int hx0 ?_ (.inl (PyProof.noPylong_small hx1))
  exact ⟨h₁, _, _, rfl, rfl, hk₁⟩
end
end Mine
end
-- part D10
section
open PySem PySem.W PyProof.Rows
set_option maxRecDepth 100000
set_option linter.unusedVariables false
namespace Mine
section
variable {prog : Program} {w : World} {g : Heap} {N : Addr → Prop} {A : Around} {env : Env} {oc : List Addr} {ρ : List (Str × D)} {s₀ s : Shared} {E : Value → Shared → Prop} {K : Frag}

theorem Run.ofB {X : Addr → Prop} {h' : Heap} {t : Nat} (k : ∀ b o, ¬ X b → s.heap.get? b = some o → h'.get? b = some o) (ht : s.toks ≤ t) : Run X s { s with heap := h', toks := t } := ⟨h', t - s.toks, by rw [Nat.add_sub_cancel' ht], k⟩
theorem Reps.mapOf {h : Heap} {α : Type} {f : α → D} {v : α → Value} : ∀ {l : List α}, (∀ i ∈ l, Rep N h (f i) (v i)) → Reps N h (l.map f) (l.map v)
  | [], _ => Reps.nil
  | i :: l, h => Reps.cons (h i (by simp)) (Reps.mapOf fun j hj => h j (List.mem_cons_of_mem _ hj))

theorem st_sorted (c : Cx K g) {f e : Expr} {y : Str} {py spos cpos lpos kp : Pos} {rest : List Stmt} {Q : Flow → Shared → Prop} {params : Arguments} {scope : Scope} {p1 p2 p3 p4 p5 p6 p7 p8 p9 : Pos} {k1 k2 k3 : Nat} {ds ds' : List (Int × Int)} (π : List Nat) {cd P : Addr}
    (F : Frm g N s₀ env oc ρ s) (hNP : N P) (hP0 : s₀.heap.get? P = none) (hP : s.heap.get? P = some (tabObj #[])) (hcode : env.code = .ref cd) (hC : CodeHd g cd P) (hgP : mainGlobals ≠ P) (hb : ∀ hp, Kp g hp → hp.BuiltinsAt c.mg P)
    (R : Room 8 A) (hf : Ev prog w g A env ρ f (.val (.builtin "sorted"))) (he : Ev prog w g A env ρ e (.lst (ds.map pD))) (h64 : ds.length < 64)
    (hπ : π.Perm (List.range ds.length)) (hds : π.map (fun i => ds.getD i (0, 1)) = ds') (hsrt : (ds'.map key).Pairwise (· < ·)) (hok : ∀ x ∈ ds, x.2 ≠ 0 ∧ x.2.natAbs < 1073741824 ∧ IntMulOk x.1 60)
    (hsc : scope.kind = .function) (hn1 : scope.names.lookup (Str.ofString "one") = some .local) (hnc : ∀ y ∈ scope.names, y.2 ≠ .cell) (hco : scope.isCoroutine = false) (hgen : scope.isGenerator = false)
    (hcl : closureFor scope env = pure []) (hdef : defaultsOf params env = ([], []))
    (hbind : ∀ pm c' ctv v, bindArgs (kla_fn "<lambda>" (env.qual ++ "<lambda>") params (.BinOp (.BinOp (.Subscript (.Name (Str.ofString "one") p1) (.Constant (.int 0) k1 p2) p3) .Mult (.Constant (.int 60) k2 p4) p5) .FloorDiv (.Subscript (.Name (Str.ofString "one") p6) (.Constant (.int 1) k3 p7) p8) p9) scope [] pm (.ref c') ctv) ⟨[v], []⟩ = pure [(Str.ofString "one", v)])
    (hx : Stor env oc y)
    (h : ∀ s' ps, Frm g N s₀ env oc ((y, .lst (ds'.map pD)) :: ρ) s' → s'.heap.get? P = some (tabObj ps) → wpAny (model prog w) A (execs rest env) Q E s')
    (hn : ∀ env, eval (.Call f [e] [⟨some (Str.ofString "key"), .Lambda params (.BinOp (.BinOp (.Subscript (.Name (Str.ofString "one") p1) (.Constant (.int 0) k1 p2) p3) .Mult (.Constant (.int 60) k2 p4) p5) .FloorDiv (.Subscript (.Name (Str.ofString "one") p6) (.Constant (.int 1) k3 p7) p8) p9) scope lpos, kp⟩] cpos) env = (do callWith cpos (← eval f env) [] (backTo cpos (starEach [e] env)) (backToKw cpos (keywordEach [⟨some (Str.ofString "key"), .Lambda params (.BinOp (.BinOp (.Subscript (.Name (Str.ofString "one") p1) (.Constant (.int 0) k1 p2) p3) .Mult (.Constant (.int 60) k2 p4) p5) .FloorDiv (.Subscript (.Name (Str.ofString "one") p6) (.Constant (.int 1) k3 p7) p8) p9) scope lpos, kp⟩] env))) := by intro _; rfl)
    (hst : ∀ env, starEach [e] env = (false, eval e env) :: starEach [] env := by intro _; rfl)
    (hs : swapsWith (.Call f [e] [⟨some (Str.ofString "key"), .Lambda params (.BinOp (.BinOp (.Subscript (.Name (Str.ofString "one") p1) (.Constant (.int 0) k1 p2) p3) .Mult (.Constant (.int 60) k2 p4) p5) .FloorDiv (.Subscript (.Name (Str.ofString "one") p6) (.Constant (.int 1) k3 p7) p8) p9) scope lpos, kp⟩] cpos) (some (.Name y py)) spos.line env = pure false := by rfl) :
    wpAny (model prog w) A (execs (.Assign [.Name y py] (.Call f [e] [⟨some (Str.ofString "key"), .Lambda params (.BinOp (.BinOp (.Subscript (.Name (Str.ofString "one") p1) (.Constant (.int 0) k1 p2) p3) .Mult (.Constant (.int 60) k2 p4) p5) .FloorDiv (.Subscript (.Name (Str.ofString "one") p6) (.Constant (.int 1) k3 p7) p8) p9) scope lpos, kp⟩] cpos) spos :: rest) env) Q E s := by
  refine wpAny_execs_cons (wpAny_Assign_Name ?_ hs)
  rw [hn]
  refine wpAny_bind (wpAny_mono (hf N s F.view E) (fun fv s₁ h₁ => ?_) fun _ _ x => x)
  have := h₁.1.val_inv; subst this
  have F₁ := F.keeps h₁.2
  refine callWith_builtin_kwB (by rw [hst]; rfl) rfl ?_
  have ha := (evs_cons (pos := cpos) he evs_nil hst) N s₁ F₁.view E
  rw [hst] at ha ⊢
  refine evalArgs_kwB rfl (wpAny_mono ha (fun vs s₂ h₂ => ?_) fun _ _ x => x)
  obtain ⟨lv, ws, rfl, rl, rr⟩ := h₂.1.cons_inv
  have := rr.nil_inv; subst this
  obtain ⟨l, vs, rfl, nl, hl, rv⟩ := rl.lst_inv
  have F₂ := F₁.keeps h₂.2
  have hP₂ : s₂.heap.get? P = some (tabObj #[]) := kpOf (ktrans h₁.2 h₂.2) _ _ hP
  show wpAny _ _ (evalAll [do let v ← eval (.Lambda params _ scope lpos) env; standAt cpos; pure v]) _ _ _
  refine wpAny_evalAll_cons (wpAny_bind ?_)
  refine kla_eval hdef (wpAny_with_toks (Nat.le_refl s₂.toks) ?_)
  have C₂ : CodeHd s₂.heap cd P := hC.keeps F₂.base
  refine kla_makeFunction (mg := c.mg) hcl F₂.view.gl (c.G.keeps F₂.base) hcode C₂ hP₂ True.intro rfl hgP (hb _ F₂.base) fun c' ctv h' tk hxb hge hlt hrec htb htk => ?_
  refine wpAny_bind (wpAny_standAt (wpAny_pure (wpAny_evalAll_nil ?_)))
  generalize hq : h'.objs.size = q
  generalize hH : h'.push (kla_obj "<lambda>" (env.qual ++ "<lambda>") params (.BinOp (.BinOp (.Subscript (.Name (Str.ofString "one") p1) (.Constant (.int 0) k1 p2) p3) .Mult (.Constant (.int 60) k2 p4) p5) .FloorDiv (.Subscript (.Name (Str.ofString "one") p6) (.Constant (.int 1) k3 p7) p8) p9) scope [] ((c.mg "__name__").getD .none) c' ctv) = H
  have up : Kp h' H := fun b o e => hH ▸ Heap.get?_push_of_some _ e
  have hqH : H.get? q = some (kla_obj "<lambda>" (env.qual ++ "<lambda>") params (.BinOp (.BinOp (.Subscript (.Name (Str.ofString "one") p1) (.Constant (.int 0) k1 p2) p3) .Mult (.Constant (.int 60) k2 p4) p5) .FloorDiv (.Subscript (.Name (Str.ofString "one") p6) (.Constant (.int 1) k3 p7) p8) p9) scope [] ((c.mg "__name__").getD .none) c' ctv) := by rw [← hH, ← hq]; exact Heap.get?_push_size _ rfl
  have run₄ : Run (fun b => b = P) s₂ { s₂ with heap := H, toks := tk } := Run.ofB (fun b o nb e => up b o (hxb b o nb e)) htk
  have F₄ : Frm g N s₀ env oc ρ { s₂ with heap := H, toks := tk } := F₂.mut run₄ (fun b hb => ⟨hb ▸ hP0, hb ▸ hNP, fun o ho => by
    subst hb
    rw [hP₂] at ho; cases ho
    exact .inl ⟨_, rfl⟩⟩) ⟨fun a na => by
      by_cases q : a = P
      · subst q; exact ⟨_, up _ _ htb⟩
      · obtain ⟨o, e⟩ := F₂.view.old.1 a na; exact ⟨o, run₄.kp q e⟩, Nat.lt_of_lt_of_le F₂.view.old.2 htk⟩
  have ks₄ : KpS N s₂.heap H := fun b o nb _ e => run₄.kp (fun q => nb (q ▸ hNP)) e
  have rv₄ : Reps N H (ds.map pD) vs := rv.kps ks₄
  have hl₄ : H.IsList l vs.toArray := by obtain ⟨o, ho, hc, n, hd⟩ := hl; exact ⟨o, run₄.kp (fun q => nl (q ▸ hNP)) ho, hc, n, hd⟩
  have hP₄ : H.get? P = some (tabObj (#[] ++ #[rawInt lpos.line, rawInt lpos.col, .ref c'])) := up _ _ htb
  obtain ⟨m, hm⟩ := F₄.ns
  have hvl : vs.length = ds.length := by simpa using rv.length
  have notL : ∀ b o, H.get? b = some o → (∀ es ep, o.data ≠ .dict es ep) → b ≠ env.locals := fun b o e hd q => by
    subst q
    obtain ⟨o', es, ep, ho', hd', _⟩ := hm
    have : o = o' := Option.some.inj (e.symm.trans ho')
    subst this
    exact hd _ _ hd'
  have gL : g.get? env.locals = none := by
    cases q : g.get? env.locals with
    | none => rfl
    | some o => have := F₄.ground _ _ q; rw [F₄.new] at this; cases this
  have hz : (ds.map key).length = vs.length := by rw [List.length_map]; omega
  refine sort_call (s := { s₂ with heap := H, toks := tk }) (L := env.locals) (kz := ds.map key) hl₄ hm hz (by omega) (fun i v k hv hk h tk2 keep hns => ?_) fun D h'' tk2 out htk2 keep hns hD hDn ko => ?_
  · have hi : i < ds.length := by rw [← hvl]; exact (List.getElem?_eq_some_iff.mp hv).1
    obtain ⟨v', hv', r'⟩ := rv₄.get (i := i) (d := pD ds[i]) (by rw [List.getElem?_map, List.getElem?_eq_getElem (by assumption)]; rfl)
    have : v = v' := by rw [hv] at hv'; exact Option.some.inj hv'
    subst this
    have hk' : key ds[i] = k := by
      rw [List.getElem?_map, List.getElem?_eq_getElem hi] at hk
      exact Option.some.inj hk
    subst hk'
    obtain ⟨o1, o2, o3⟩ := hok _ (List.getElem_mem hi)
    have ksh : KpS N H h := fun b o nb hs e => keep b o (notL b o e fun es ep q => by obtain ⟨xs, n, e'⟩ := hs; rw [q] at e'; cases e') e
    obtain ⟨c₂, oc₂, vs₂, tq, e1, hoc, hdc, hvq⟩ := hrec
    refine lam_turn (s := { s₂ with heap := H, toks := tk }) (A := A.in1.in1) R.h R.depth (c.lim.keeps fun b o e => keep b o (fun q => by rw [q, gL] at e; cases e) (F₄.base b o e)) (keep q _ (notL q _ hqH fun es ep q => by cases q) hqH)
      ⟨c₂, oc₂, vs₂, tq, e1, keep _ _ (notL _ _ (up _ _ hoc) fun es ep q => by rw [hdc] at q; cases q) (up _ _ hoc), hdc, hvq⟩ (r'.kps ksh) o1 o2 o3 hsc hn1 hnc hco hgen (hbind _ _ _ _)
  · obtain ⟨ps, hperm, hout, hsorted⟩ := ko
    have hsorted : ps.Pairwise (fun p q => p.1 ≤ q.1) := hsorted.imp fun {a b} hab => by simpa using hab
    have hr : (List.range ds.length).map (fun i => ((ds.map key).getD i 0, vs.getD i .none)) = (ds.map key).zip vs := by
      refine List.ext_getElem (by simp; omega) fun i h1 h2 => ?_
      simp at h1
      simp [h1, show i < vs.length by omega]
    have hfst : (π.map fun i => ((ds.map key).getD i 0, vs.getD i .none)).map Prod.fst = ds'.map key := by
      rw [← hds, List.map_map, List.map_map]
      refine List.map_congr_left fun i hi => ?_
      have : i < ds.length := List.mem_range.mp (hπ.mem_iff.mp hi)
      simp [this]
    have hes : ps = π.map (fun i => ((ds.map key).getD i 0, vs.getD i .none)) := by
      refine sorted_unique (hperm.trans ?_) hsorted ?_
      · rw [← hr]; exact (hπ.map _).symm
      · rw [← hfst, List.pairwise_map] at hsrt; exact hsrt
    have run₅ : Run (fun b => b = env.locals) { s₂ with heap := H, toks := tk } { s₂ with heap := h'', toks := tk2 } := Run.ofB (s := { s₂ with heap := H, toks := tk }) (fun b o nb e => keep b o nb e) htk2
    have F₅ := F₄.relocal hm hns run₅
    have ks₅ : KpS N H h'' := fun b o nb hs e => keep b o (notL b o e fun es ep q => by obtain ⟨xs, n, e'⟩ := hs; rw [q] at e'; cases e') e
    have nD : ¬ N D := fun q => by obtain ⟨o, e⟩ := F₄.view.old.1 D q; rw [hDn] at e; cases e
    have rout : Reps N h'' (ds'.map pD) out.toList := by
      rw [hout, hes, List.map_map, ← hds, List.map_map]
      refine Reps.mapOf fun i hi => ?_
      have hi' : i < ds.length := List.mem_range.mp (hπ.mem_iff.mp hi)
      obtain ⟨v', hv', r'⟩ := rv₄.get (i := i) (d := pD ds[i]) (by rw [List.getElem?_map, List.getElem?_eq_getElem (by assumption)]; rfl)
      have e1 : vs.getD i .none = v' := by rw [List.getD_eq_getElem?_getD, hv']; rfl
      have e2 : ds.getD i (0, 1) = ds[i] := by simp [hi']
      show Rep N h'' (pD (ds.getD i (0, 1))) (vs.getD i .none)
      rw [e1, e2]; exact r'.kps ks₅
    have hPP : h''.get? P = some (tabObj (#[] ++ #[rawInt lpos.line, rawInt lpos.col, .ref c'])) := keep _ _ (notL _ _ hP₄ fun es ep q => by cases q) hP₄
    refine store_frm F₅ (Rep.lst_of nD (by rw [Array.toArray_toList]; exact hD) rout) hx fun s₆ F₆ k₆ => h s₆ _ F₆ (k₆.kp (F₅.notFS fun o ho => ?_) hPP)
    have ho : h''.get? P = some o := ho
    rw [hPP] at ho; cases ho
    exact .inl ⟨_, rfl⟩
end
end Mine
end
-- part E2
section
open PySem PySem.W PyProof.Rows
set_option maxRecDepth 100000
set_option linter.unusedVariables false
namespace Mine
section
variable {prog : Program} {w : World} {g : Heap} {N : Addr → Prop} {A : Around} {env : Env} {oc : List Addr} {ρ : List (Str × D)} {s₀ s : Shared} {E : Value → Shared → Prop} {K : Frag}
/-- for: the body keeps the frame's names and goes on -/
theorem st_forT {tg e : Expr} {body rest : List Stmt} {pos : Pos} {dts : List D} {Q : Flow → Shared → Prop} {P : Addr} {oP : Obj}
    (F : Frm g N s₀ env oc ρ s) (hNP : N P) (hfs : IsFS oP) (hP : s.heap.get? P = some oP) (hsrc : Src prog w g A env ρ e tg dts)
    (hbody : ∀ (i : Nat) (d : D), dts[i]? = some d → ∀ N' s₁ v, (∀ b, N b → N' b) → Frm g N' s₀ env oc ρ s₁ → Rep N' s₁.heap d v → ∀ E', wpAny (model prog w) A (assign tg env v) (fun _ s₂ => wpAny (model prog w) A (execs body env) (fun fl s₃ => fl = .next ∧ Frm g N' s₀ env oc ρ s₃ ∧ Run (Own env oc) s₁ s₃) E' s₂) E' s₁)
    (h : ∀ s', Frm g N s₀ env oc ρ s' → s'.heap.get? P = some oP → wpAny (model prog w) A (execs rest env) Q E s')
    (hfold : ∀ env x, foldedSetIterable e env x = pure x := by intro _ _; rfl) :
    wpAny (model prog w) A (execs (.For tg e body [] pos :: rest) env) Q E s := by
  refine wpAny_execs_cons (wpAny_For ?_ (hfold env))
  refine hsrc N s F.view E _ fun s₁ I fp wr ds vs St k₁ IT st₁ hwn hNf r₁ => ?_
  have F₁ := F.keeps k₁
  have hwN : ∀ b, N b → b ∉ wr := fun b nb q => hNf b nb (IT.sub b q)
  have hN' : ∀ b o, ¬ N b → s.heap.get? b = some o → ¬ (N b ∨ b ∈ wr) := fun b o nb eb q => by
    rcases q with q | q
    · exact nb q
    · rw [hwn b q] at eb; cases eb
  have F₂ : Frm g (fun b => N b ∨ b ∈ wr) s₀ env oc ρ s₁ := by
    refine ⟨F₁.same, F₁.ns, F₁.new, F₁.cel, F₁.inj, F₁.ground, F₁.view.base, ⟨?_, F₁.view.old.2⟩, F₁.view.fn, F₁.view.gl, F₁.view.bu, F₁.view.cex, fun x d e => ?_⟩
    · rintro a (na | hw)
      · exact F₁.view.old.1 a na
      · obtain ⟨o, ho, _⟩ := IT.kind _ _ st₁ a (IT.sub a hw); exact ⟨o, ho⟩
    · rcases F.view.vars x d e with ⟨a, m', u, n', e', r'⟩ | ⟨a, c, u, e1, e2, e3⟩
      · exact .inl ⟨a, m', u, n'.keeps (kpOf k₁), e', Rep.mono (kpOf k₁).s hN' _ _ r'⟩
      · exact .inr ⟨a, c, u, e1, e2.keeps (kpOf k₁), Rep.mono (kpOf k₁).s hN' _ _ e3⟩
  have wrn : ∀ b ∈ wr, s₀.heap.get? b = none := fun b hb => by
    cases q : s₀.heap.get? b with
    | none => rfl
    | some o => have := kpOf F.same b o q; rw [hwn b hb] at this; cases this
  refine codeAny_loop' rfl (fun n s' => ∃ i, n = dts.length - i ∧ i ≤ dts.length ∧ Frm g (fun b => N b ∨ b ∈ wr) s₀ env oc ρ s' ∧ s'.heap.get? P = some oP ∧ St i s'.heap ∧ Reps (fun b => N b ∨ b ∈ wr) s'.heap ds vs) (fun n s' hI => ?_) dts.length ⟨0, by simp, Nat.zero_le _, F₂, kpOf k₁ _ _ hP, st₁, r₁⟩
  obtain ⟨i, rfl, hi, F', p', st', r'⟩ := hI
  show wpAny _ _ ((forTurn tg (.ref I) body [] env).onRaise (fun x => do noteFrame x env; theTreesLotGoes x)) _ _ s'
  refine wpAny_noted ?_
  have kindX : ∀ j (s' : Shared), St j s'.heap → ∀ b ∈ wr, ∀ o, s'.heap.get? b = some o → IsFS o := fun j s' st b hb o ho => by
    obtain ⟨o', ho', hf⟩ := IT.kind _ _ st b (IT.sub b hb)
    rw [ho] at ho'; cases ho'; exact hf
  simp only [forTurn]
  refine wpAny_bind (wpAny_standAt (wpAny_bind (wpAny_onRaise ?_)))
  by_cases hlt : i < dts.length
  · obtain ⟨d, hd⟩ : ∃ d, dts[i]? = some d := ⟨dts[i], List.getElem?_eq_getElem hlt⟩
    refine wpAny_mono (IT.item (fun b => N b ∨ b ∈ wr) i d s' (fun v s₂ => Frm g (fun b => N b ∨ b ∈ wr) s₀ env oc ρ s₂ ∧ St (i + 1) s₂.heap ∧ Reps (fun b => N b ∨ b ∈ wr) s₂.heap ds vs ∧ Rep (fun b => N b ∨ b ∈ wr) s₂.heap d v ∧ s₂.heap.get? P = some oP) (fun _ _ => False) (fun b hb => .inr hb) F'.view.old r' hd st' ?_) (fun r s₂ h₂ => ?_) fun _ _ x => x.elim
    · intro v h' tk rv st'' kk
      have run : Run (fun b => b ∈ wr) s' { s' with heap := h', toks := s'.toks + tk } := ⟨h', tk, rfl, fun b o nb e => kk b o nb e⟩
      have ks : KpS (fun b => N b ∨ b ∈ wr) s'.heap h' := fun b o nb _ e => kk b o (fun q => nb (.inr q)) e
      refine ⟨F'.mut run (fun b hb => ⟨wrn b hb, .inr hb, kindX _ _ st' b hb⟩) ⟨fun a na => ?_, Nat.lt_of_lt_of_le F'.view.old.2 (Nat.le_add_right _ _)⟩, st'', r'.kps ks, rv, kk P oP (hwN P hNP) p'⟩
      by_cases hw : a ∈ wr
      · obtain ⟨o, ho, _⟩ := IT.kind _ _ st'' a (IT.sub a hw); exact ⟨o, ho⟩
      · obtain ⟨o, ho⟩ := F'.view.old.1 a na; exact ⟨o, kk a o hw ho⟩
    · obtain ⟨v, rfl, hv⟩ := h₂
      refine wpAny_bind (wpAny_mono hv (fun _ s₃ h₃ => ?_) fun _ _ x => x.elim)
      obtain ⟨F₃, st₃, r₃, rv₃, p₃⟩ := h₃
      refine wpAny_bind (wpAny_mono (hbody i d hd _ s₃ v (fun b q => .inl q) F₃ rv₃ _) (fun _ s₄ h₄ => wpAny_bind (wpAny_mono h₄ (fun fl s₅ h₅ => ?_) fun _ _ x => x)) fun _ _ x => x)
      obtain ⟨rfl, F₅, k₅⟩ := h₅
      have fpOwn : ∀ b ∈ fp, ¬ Own env oc b := fun b hb => F₃.notFS fun o ho => by
        obtain ⟨o', ho', hf⟩ := IT.kind _ _ st₃ b hb
        rw [ho] at ho'; cases ho'; exact hf
      exact wpAny_pure (.inl ⟨rfl, dts.length - (i + 1), by omega, i + 1, rfl, hlt, F₅, k₅.kp (F₃.notFS fun o ho => by rw [p₃] at ho; cases ho; exact hfs) p₃, IT.frame _ _ _ st₃ fun b hb o e => k₅.kp (fpOwn b hb) e, r₃.kps (F₃.reps k₅)⟩)
  · have hin : i = dts.length := by omega
    subst hin
    refine IT.done s' _ _ st' fun h' tk kk => ?_
    have run : Run (fun b => b ∈ wr) s' { s' with heap := h', toks := s'.toks + tk } := ⟨h', tk, rfl, fun b o nb e => kk b o nb e⟩
    have F'' : Frm g N s₀ env oc ρ { s' with heap := h', toks := s'.toks + tk } := F'.mut' run (fun b hb => ⟨wrn b hb, .inr hb, kindX _ _ st' b hb⟩) (fun b q => .inl q) ⟨fun a na => by
      obtain ⟨o, ho⟩ := F'.view.old.1 a (.inl na); exact ⟨o, kk a o (hwN a na) ho⟩, Nat.lt_of_lt_of_le F'.view.old.2 (Nat.le_add_right _ _)⟩
    refine wpAny_pure (.inr ⟨rfl, codeAny_block ?_⟩)
    exact wpAny_execs_nil (h _ F'' (kk P oP (hwN P hNP) p'))

/-- a name that is a cell: no exchange of a comprehension's names -/
theorem noswap {y : Str} {py : Pos} {line : Nat} {elt : Expr} {gens : List Comprehension} {scope : Scope} {pos : Pos} (h : env.kindOf y = some .cell) : swapsWith (.ListComp elt gens scope pos) (some (.Name y py)) line env = pure false := by
  show (pure (env.blockKind == .function && env.kindOf y == some .local && py.line == pos.line && !(scope.names.any fun (n, k) => n == y && (k == .local || k == .cell))) : Sem Bool) = pure false
  rw [h]
  have : ((some NameKind.cell : Option NameKind) == some .local) = false := by decide
  rw [this, Bool.and_false]; rfl

/-- a name that the written part does not bind -/
theorem ns_none {h : Heap} {a : Addr} {m : Str → Option Value} {n : Str} (X : K.In h) (G : h.Ns a m) (e : nsIn K a n = some none) : m n = none := by
  obtain ⟨o, es, ep, ho, hd, _, hf⟩ := G
  cases q : K.lookup a with
  | none => simp [nsIn, q] at e
  | some o' =>
    have : o' = o := Option.some.inj ((X _ _ q).symm.trans ho)
    subst this
    obtain ⟨cls, dd, data, sl⟩ := o'
    simp only at hd
    subst hd
    rw [← hf n]
    simp only [nsIn, q] at e
    unfold nsFind findBy
    rw [← Array.find?_toList]
    revert e
    cases List.find? _ es.toList <;> simp
theorem nkb_of (c : Cx K g) (e : nsIn K cStatics sharingNotToldKey = some none) : ∀ h, Kp g h → NoneBooked h := fun h k => by
  obtain ⟨mc, hns, _⟩ := c.lim
  exact ⟨mc, hns.keeps k, ns_none c.kx hns e⟩
end
end Mine
end
-- part E3
section
open PySem PySem.W PyProof.Rows
set_option maxRecDepth 100000
set_option linter.unusedVariables false
namespace Mine
section
variable {M : Model} {A : Around} {E : Value → Shared → Prop} {s₀ s : Shared} {m cm : Str → Option Value} {env : Env}
/-- a frame with one parameter is a bare frame and a store -/
theorem newEnv_one (scope : Scope) (globals : Addr) (n : Str) (v : Value) (qual : Str) (func : Option Addr) (code : Value) (builtins : Addr) :
    newFunctionEnv scope globals [] [(n, v)] qual func code none builtins = (do let env ← newFunctionEnv scope globals [] [] qual func code none builtins; storeName env n v; pure env) := by
  unfold newFunctionEnv
  simp only [List.forIn_cons, List.forIn_nil, bind_assoc, pure_bind]
/-- a frame of one local name: a token is drawn -/
theorem newEnv1 {scope : Scope} {globals : Addr} {binds : List (Str × Value)} {n : Str} {v : Value} {qual : Str} {func : Option Addr} {code : Value} {builtins : Addr} {Q : Env → Shared → Prop} (hk : scope.kind = .function) (hb : binds = [(n, v)]) (hl : scope.names.lookup n = some .local)
    (hQ : ∀ env, env = newEnv scope s.heap.objs.size globals (cellsFrom (s.heap.objs.size + 1) scope.names []) qual func code none builtins → ∀ s', InCallC s env.locals (bindL env.kindOf binds fun _ => none) env.cells (bindC env.kindOf binds fun _ => none) s' → s.toks + 1 ≤ s'.toks → Q env s') :
    wpAny M A (newFunctionEnv scope globals [] binds qual func code none builtins) Q E s := by
  subst hb
  rw [newEnv_one]
  refine wpAny_bind (newEnvT hk (fun x hx => nomatch hx) fun env he s₁ x ht => ?_)
  have hl' : env.kindOf n = some .local := by rw [he]; exact hl
  have hk' : env.scope.kind = .function := by rw [he]; exact hk
  have old := x.toInCall
  refine wpAny_bind (wpAny_storeName_local hl' old.ns (fun h' hn hs => wpAny_pure (hQ env he _ ?_ (Nat.succ_le_succ ht))) (by rw [hk']; rfl))
  have eL : bindL env.kindOf [(n, v)] (fun _ => none) = fun y => if y = n then some v else none := by simp [bindL, hl']
  have eC : bindC env.kindOf [(n, v)] (fun _ => none) = fun _ => none := by simp [bindC, hl']
  have e0 : (bindL env.kindOf [] fun _ => none) = (fun _ => none : Str → Option Value) := rfl
  have e1 : (bindC env.kindOf [] fun _ => none) = (fun _ => none : Str → Option Value) := rfl
  rw [e0] at hn
  rw [e1] at x
  rw [eL, eC]
  have ne : ∀ b o, s.heap.get? b = some o → b ≠ env.locals := fun b o e q => absurd (Nat.lt_of_lt_of_le (Heap.lt_size e) old.fresh) (by rw [q]; exact Nat.lt_irrefl _)
  have nc : ∀ k c, env.cells.lookup k = some c → c ≠ env.locals := fun k c hc q => absurd (x.above k c (mem_of_lookup hc)) (by rw [q]; exact Nat.lt_irrefl _)
  refine ⟨⟨?_, hn, fun b o e => hs.extBut b o (ne b o e) (old.keep b o e), old.fresh⟩, fun k c hc => (x.cell k c hc).sameBut hs (nc k c hc), x.apart, x.above⟩
  obtain ⟨h₁, tk, e⟩ := old.same
  exact ⟨h', _, by rw [e]⟩
end

section
variable {prog : Program} {w : World} {g : Heap} {N : Addr → Prop} {A : Around} {env : Env} {ρ : List (Str × D)} {s₀ s : Shared} {E : Value → Shared → Prop} {K : Frag}
/-- entering a def of the text -/
theorem code_fn1 (c : Cx K g) {n : Nat} {R : Result → Shared → Prop} {f : Addr} {name qual : Str} {params : Arguments} {body : List Stmt} {scope : Scope} {dV kV doc pm cdv ct oc : Value} {an od : Option Addr} {osl : Array (Option Value)} {pos : List Value} {kw : List (Str × Value)} {ρ : List (Str × D)} {vs : List Value}
    (hs : Kp g s.heap) (hN : ∀ a, N a → ∃ o, s.heap.get? a = some o) (hone : ∃ n v, bindsOf ρ vs = [(n, v)] ∧ scope.names.lookup n = some .local) (ho : K.lookup f = some ⟨oc, od, .func (fnOf name qual params body scope dV kV doc pm an cdv ct), osl⟩) (hcd : codeIn K cdv qual = true) (hroom : Room (n + 1) A)
    (hbind : BindsTo s (fnOf name qual params body scope dV kV doc pm an cdv ct) ⟨pos, kw⟩ (bindsOf ρ vs)) (hv : Reps N s.heap (ρ.map (·.2)) vs)
    (hkind : (ρ.all fun y => scope.names.lookup y.1 == some .local || scope.names.lookup y.1 == some .cell) = true) (hnd : ((cellsFrom 0 scope.names []).map (·.1)).Nodup) (hρ : decide ((ρ.map (·.1)).Nodup) = true)
    (hco : scope.isCoroutine = false) (hgen : scope.isGenerator = false) (hk : scope.kind = .function)
    (h : ∀ s₁ env oc A', Room n A' → env = callEnvC (fnOf name qual params body scope dV kV doc pm an cdv ct) s.heap.objs.size f → EF env oc scope.names scope.names → Frm g N s env oc ρ s₁ →
      wpAny (model prog w) A' (execs body env) (fun fl s' => R (.ok (.ret (match fl with | .ret v => v | _ => .none))) s') (fun _ _ => False) s₁) :
    codeAny (model prog w) A (.call (.ref f) ⟨pos, kw⟩) R s := by
  have hall : ((bindsOf ρ vs).all fun y => scope.names.lookup y.1 == some .local || scope.names.lookup y.1 == some .cell) = true := by
    rw [List.all_eq_true] at hkind ⊢
    intro x hx
    have hx1 : x.1 ∈ ρ.map (·.1) := (List.of_mem_zip (a := x.1) (b := x.2) hx).1
    obtain ⟨y, hy, e⟩ := List.mem_map.mp hx1
    have := hkind y hy
    rw [e] at this; exact this
  refine codeAny_call_function hroom.depth ((c.kx.keeps hs) _ _ ho) rfl hco hgen rfl (codeRec_of (c.kx.keeps hs) hcd) (hbind _ _ _ _ ?_)
  obtain ⟨n1, v1, e1, hn1⟩ := hone
  refine newEnv1 hk e1 hn1 fun env he s' x htk => ?_
  refine ⟨(c.lim.keeps hs).keeps x.toInCall.keep, codeAny_func ?_⟩
  have hcells : env.cells = cellsFrom (s.heap.objs.size + 1) scope.names [] := by rw [he]; rfl
  have hkd : ∀ y, env.kindOf y = scope.names.lookup y := by intro y; rw [he]; rfl
  have hcs : ∀ y, scope.names.lookup y = some .cell → ∃ c ∈ env.cells.map (·.2), env.cells.lookup y = some c := fun y hy => by
    obtain ⟨c, hc⟩ := Option.isSome_iff_exists.mp (show (env.cells.lookup y).isSome = true by rw [hcells]; exact cellsFrom_some _ _ _ (.inl hy))
    exact ⟨c, List.mem_map.mpr ⟨(y, c), mem_of_lookup hc, rfl⟩, hc⟩
  have hnd' : (env.cells.map (·.1)).Nodup := by rw [hcells, cellsFrom_names scope.names _ 0 [] [] rfl]; exact hnd
  have fr : Frm g N s env (env.cells.map (·.2)) ρ s' := by
    have kk : Keeps s s' := by
      obtain ⟨hh, tk, hse, hkp⟩ := x.done
      subst hse; exact kof hkp (Nat.le_of_succ_le htk)
    refine ⟨kk, ⟨_, x.toInCall.ns⟩, ?_, fun c hc => ?_, fun n n' c _ e e' => name_of_addr x.apart (mem_of_lookup e) (mem_of_lookup e'), hs, hs.trans x.toInCall.keep, ⟨fun a na => let ⟨o, e⟩ := hN a na; ⟨o, kpOf kk a o e⟩, Nat.lt_of_lt_of_le (Nat.succ_pos _) htk⟩, by rw [he]; exact hk, by rw [he]; rfl, by rw [he]; rfl, fun n c e => ⟨_, x.cell n c e⟩, fun y d hy => ?_⟩
    · exact Heap.get?_none_of_le x.toInCall.fresh
    · obtain ⟨q, hq, rfl⟩ := List.mem_map.mp hc
      refine ⟨⟨_, x.cell q.1 q.2 (nodup_lookup hnd' q.1 q.2 hq)⟩, Heap.get?_none_of_le (Nat.le_of_lt (Nat.lt_of_le_of_lt x.toInCall.fresh (x.above q.1 q.2 hq)))⟩
    have main : ∀ (ρ : List (Str × D)) (vs : List Value) (m cm : Str → Option Value), (ρ.map (·.1)).Nodup → Reps N s.heap (ρ.map (·.2)) vs → (∀ z ∈ ρ, env.kindOf z.1 = some .local ∨ env.kindOf z.1 = some .cell) → ∀ y d, 
        (ρ.lookup y = some d ∨ (y ∉ ρ.map (·.1) ∧ ((env.kindOf y = some .local ∧ ∃ v, m y = some v ∧ Rep N s.heap d v) ∨ (env.kindOf y = some .cell ∧ ∃ v, cm y = some v ∧ Rep N s.heap d v)))) →
        (env.kindOf y = some .local ∧ ∃ v, bindL env.kindOf (bindsOf ρ vs) m y = some v ∧ Rep N s.heap d v) ∨ (env.kindOf y = some .cell ∧ ∃ v, bindC env.kindOf (bindsOf ρ vs) cm y = some v ∧ Rep N s.heap d v) := by
      intro ρ
      induction ρ with
      | nil =>
        intro vs m cm _ _ _ y d h
        rcases h with h | ⟨_, h⟩
        · cases h
        · exact h
      | cons q r ih =>
        intro vs m cm hn hr hkk y d h
        obtain ⟨x, dx⟩ := q
        obtain ⟨v, ws, rfl, a, b⟩ := Reps.cons_inv hr
        rw [List.map_cons, List.nodup_cons] at hn
        show (_ ∧ ∃ v', bindL env.kindOf (bindsOf r ws) (if env.kindOf x = some .local then fun y => if y = x then some v else m y else m) y = some v' ∧ _) ∨ (_ ∧ ∃ v', bindC env.kindOf (bindsOf r ws) (if env.kindOf x = some .local then cm else fun y => if y = x then some v else cm y) y = some v' ∧ _)
        refine ih ws _ _ hn.2 b (fun z hz => hkk z (List.mem_cons_of_mem _ hz)) y d ?_
        by_cases hyx : y = x
        · subst hyx
          have hd : dx = d := by
            rcases h with h | ⟨h, _⟩
            · simp at h; exact h
            · exact absurd (by simp) h
          subst hd
          refine .inr ⟨hn.1, ?_⟩
          rcases hkk (y, dx) (by simp) with hl | hl
          · exact .inl ⟨hl, v, by rw [if_pos hl]; simp, a⟩
          · refine .inr ⟨hl, v, ?_, a⟩
            rw [if_neg (by rw [hl]; decide)]; simp
        · rcases h with h | ⟨h, h'⟩
          · left
            have hb : (y == x) = false := beq_eq_false_iff_ne.mpr hyx
            rw [List.lookup_cons, hb] at h; exact h
          · refine .inr ⟨fun q => h (by simp; exact .inr (by simpa using q)), ?_⟩
            rcases h' with ⟨hl, u, e1, e2⟩ | ⟨hl, u, e1, e2⟩
            · refine .inl ⟨hl, u, ?_, e2⟩
              split <;> simp [hyx, e1]
            · refine .inr ⟨hl, u, ?_, e2⟩
              split <;> simp [hyx, e1]
    have hkk : ∀ z ∈ ρ, env.kindOf z.1 = some .local ∨ env.kindOf z.1 = some .cell := fun z hz => by
      have := List.all_eq_true.mp hkind z hz
      rw [Bool.or_eq_true, beq_iff_eq, beq_iff_eq] at this
      rw [hkd]; exact this
    rcases main ρ vs (fun _ => none) (fun _ => none) (of_decide_eq_true hρ) hv hkk y d (.inl hy) with ⟨a, v, b, r⟩ | ⟨a, v, b, r⟩
    · exact .inl ⟨a, _, v, x.toInCall.ns, b, r.kp x.toInCall.keep⟩
    · obtain ⟨ca, _, hca⟩ := hcs y (by rw [← hkd]; exact a)
      exact .inr ⟨.inl a, ca, v, hca, b ▸ x.cell y ca hca, r.kp x.toInCall.keep⟩
  exact wpAny_mono (h s' env _ (A.deeper env) hroom.deeper he ⟨hkd, fun y hy => let ⟨c, _, e⟩ := hcs y hy; by rw [e]; rfl, hcs⟩ fr) (fun _ _ q => q) (fun _ _ q => q.elim)
end
end Mine
end
-- part PTop
section
open PySem PySem.W PyProof.Rows
namespace Mine
set_option maxRecDepth 100000 in
set_option maxHeartbeats 8000000 in
open_top hd for PySem.Challenge.rw_pe0134_01
end Mine
end
-- part F2
section
open PySem PySem.W PyProof.Rows
set_option maxRecDepth 100000
set_option linter.unusedVariables false
namespace Mine
theorem fill_F2 : (PySem.Challenge.rw_pe0134_01.most = PySem.Challenge.rw_pe0134_01.most) ∧ (Mine.hd.heap_39 = Mine.hd.heap_39) := by
  k_fill
  exact ⟨rfl, rfl⟩

local macro_rules | `(tactic| walk_at "ev") => `(tactic| first
  | ((with_reducible show Ev _ _ _ _ _ _ (Expr.Name _ _) _); exact ev_name rfl)
  | with_reducible exact ev_int
  | with_reducible exact ev_flt
  | with_reducible exact ev_str
  | with_reducible exact ev_none
  | with_reducible exact ev_bool
  | ((with_reducible show Ev _ _ _ _ _ _ (Expr.BinOp _ _ _ _) _); exact ev_bin (by walk_at "ev") (by walk_at "ev") (by walk_at "bop"))
  | ((with_reducible show Ev _ _ _ _ _ _ (Expr.Tuple _ _ _) _); exact ev_tuple (by walk_at "evs"))
  | ((with_reducible show Ev _ _ _ _ _ _ (Expr.List _ _) _); exact ev_list (by walk_at "evs")))
local macro_rules | `(tactic| walk_at "evs") => `(tactic| first
  | with_reducible exact evs_nil
  | ((with_reducible show Evs _ _ _ _ _ _ _ (_ :: _) _); exact evs_cons (by walk_at "ev") (by walk_at "evs")))
local macro_rules | `(tactic| walk_at "bop") => `(tactic| first
  | with_reducible exact bop_add
  | with_reducible exact bop_sub
  | with_reducible exact bop_fadd
  | with_reducible exact bop_fsub
  | ((with_reducible show Bop _ _ _ _ .Mod (.int _) _ _); exact bop_mod (by decide))
  | ((with_reducible show Bop _ _ _ _ .FloorDiv (.int _) _ _); exact bop_fdiv (by decide) (by decide))
  | ((with_reducible show Bop _ _ _ _ .Div (.flt _) _ _); refine bop_fdivf ?_; first | with_reducible assumption | decide +kernel)
  | ((with_reducible show Bop _ _ _ _ .Mod (.flt _) _ _); exact bop_fmod (by decide +kernel)))

abbrev fr (a b : Int) : UInt64 := Float64.ofFrac (decide (a < 0) != decide (b < 0)) a.natAbs b.natAbs
section
variable {prog : Program} {w : World} {g : Heap}

structure Hsv (r g h s : UInt64) : Prop where
  hM : best3 fgt r g g = r
  hm : best3 flt r g g = g
  z : (Float64.cmp g r == some Ordering.eq) = true → h = 0 ∧ s = 0
  r0 : Float64.isZero r = false
  d0 : (Float64.cmp g r == some Ordering.eq) = false → Float64.isZero (Float64.sub r g) = false
  e : (Float64.cmp g r == some Ordering.eq) = false → Float64.div (Float64.sub r g) r = s
  c : (Float64.cmp g r == some Ordering.eq) = false → (Float64.cmp r r == some Ordering.eq) = true
  hh : (Float64.cmp g r == some Ordering.eq) = false → (Float64.divmod (Float64.div (Float64.sub (Float64.div (Float64.sub r g) (Float64.sub r g)) (Float64.div (Float64.sub r g) (Float64.sub r g))) 0x4018000000000000) 0x3ff0000000000000).2 = h


set_option maxHeartbeats 200000 in
theorem fn_hsv (c : Cx (Mine.hd.heap_39 w.params) g) {r gg h s : UInt64} (H : Hsv r gg h s) :
    Fn prog w g 2 (.ref 72) [.flt r, .flt gg, .flt gg] [] (.tup [.flt h, .flt s, .flt r]) := by
  intro A R N s vs kvs hs hN hv hk E
  have := hk.nil_inv; subst this
  have hv' := hv
  obtain ⟨v1, vs, rfl, _, hv⟩ := hv.cons_inv
  obtain ⟨v2, vs, rfl, _, hv⟩ := hv.cons_inv
  obtain ⟨v3, vs, rfl, _, hv⟩ := hv.cons_inv
  have := hv.nil_inv; subst this
  refine call_fn c (ρ := [(Str.ofString "r", .flt r), (Str.ofString "g", .flt gg), (Str.ofString "b", .flt gg)]) hs hN (by k_is) (by k_is) R (BindsTo.of_eq rfl) hv' rfl (by decide +kernel) rfl rfl rfl rfl ?_
  intro s₁ env oc A' R' he f F
  refine st_assign F (ev_callB (ev_blt c (by k_is) rfl (by decide) (f.kind rfl)) (by walk_at "evs") fn_max3 R') (f.stor rfl) fun s F _ => ?_
  rw [H.hM] at F
  refine st_assign F (ev_callB (ev_blt c (by k_is) rfl (by decide) (f.kind rfl)) (by walk_at "evs") fn_min3 R') (f.stor rfl) fun s F _ => ?_
  rw [H.hm] at F
  refine st_assign F (by walk_at "ev") (f.stor rfl) fun s F _ => ?_
  refine st_assign F (by walk_at "ev") (f.stor rfl) fun s F _ => ?_
  cases q : (Float64.cmp gg r == some Ordering.eq) with
  | true =>
    refine st_if_t F (Ts.of (ts_cmp (by walk_at "ev") (by walk_at "ev") cop_feq) q) fun s F _ => ?_
    obtain ⟨h1, h2⟩ := H.z q; subst h1 h2
    exact st_return F (by walk_at "ev") fun v s' r k => ⟨r, k⟩
  | false =>
    refine st_if_no F (Ts.of (ts_cmp (by walk_at "ev") (by walk_at "ev") cop_feq) q) fun s F _ => ?_
    have r0 := H.r0
    have d0 := H.d0 q
    refine st_assign F (by walk_at "ev") (f.stor rfl) fun s F _ => ?_
    refine st_assign F (by walk_at "ev") (f.stor rfl) fun s F _ => ?_
    refine st_assign F (by walk_at "ev") (f.stor rfl) fun s F _ => ?_
    refine st_assign F (by walk_at "ev") (f.stor rfl) fun s F _ => ?_
    refine st_if_t F (Ts.of (ts_cmp (by walk_at "ev") (by walk_at "ev") cop_feq) (H.c q)) fun s F _ => ?_
    refine st_assign F (by walk_at "ev") (f.stor rfl) fun s F _ => st_nil ?_
    refine st_assign F (by walk_at "ev") (f.stor rfl) fun s F _ => ?_
    rw [H.e q, H.hh q] at F
    exact st_return F (by walk_at "ev") fun v s' r k => ⟨r, k⟩
end
end Mine
end
-- part F1
section
open PySem PySem.W PyProof.Rows
set_option maxRecDepth 100000
set_option linter.unusedVariables false
namespace Mine
theorem fill_F1 : (PySem.Challenge.rw_pe0134_01.most = PySem.Challenge.rw_pe0134_01.most) ∧ (Mine.hd.heap_39 = Mine.hd.heap_39) := by
  k_fill
  exact ⟨rfl, rfl⟩

local macro_rules | `(tactic| walk_at "ev") => `(tactic| first
  | ((with_reducible show Ev _ _ _ _ _ _ (Expr.Name _ _) _); exact ev_name rfl)
  | with_reducible exact ev_int
  | with_reducible exact ev_flt
  | with_reducible exact ev_str
  | with_reducible exact ev_none
  | with_reducible exact ev_bool
  | ((with_reducible show Ev _ _ _ _ _ _ (Expr.BinOp _ _ _ _) _); exact ev_bin (by walk_at "ev") (by walk_at "ev") (by walk_at "bop"))
  | ((with_reducible show Ev _ _ _ _ _ _ (Expr.Tuple _ _ _) _); exact ev_tuple (by walk_at "evs"))
  | ((with_reducible show Ev _ _ _ _ _ _ (Expr.List _ _) _); exact ev_list (by walk_at "evs")))
local macro_rules | `(tactic| walk_at "evs") => `(tactic| first
  | with_reducible exact evs_nil
  | ((with_reducible show Evs _ _ _ _ _ _ _ (_ :: _) _); exact evs_cons (by walk_at "ev") (by walk_at "evs")))
local macro_rules | `(tactic| walk_at "bop") => `(tactic| first
  | with_reducible exact bop_add
  | with_reducible exact bop_sub
  | with_reducible exact bop_fadd
  | with_reducible exact bop_fsub
  | ((with_reducible show Bop _ _ _ _ .Mod (.int _) _ _); exact bop_mod (by decide))
  | ((with_reducible show Bop _ _ _ _ .FloorDiv (.int _) _ _); exact bop_fdiv (by decide) (by decide))
  | ((with_reducible show Bop _ _ _ _ .Div (.flt _) _ _); refine bop_fdivf ?_; first | with_reducible assumption | decide +kernel)
  | ((with_reducible show Bop _ _ _ _ .Mod (.flt _) _ _); exact bop_fmod (by decide +kernel)))

section
variable {prog : Program} {w : World} {g : Heap}
set_option maxHeartbeats 1000000 in
theorem fn_colour (c : Cx (Mine.hd.heap_39 w.params) g) (dots rows : Int) (h1 : Float64.isInf (fr rows 16) = false) (h2 : Float64.isInf (fr (rows - dots) 16) = false) :
    Fn prog w g 1 (.ref 117) [.int dots, .int rows] [] (.tup [.flt (fr rows 16), .flt (fr (rows - dots) 16), .flt (fr (rows - dots) 16)]) := by
  intro A R N s vs kvs hs hN hv hk E
  have := hk.nil_inv; subst this
  have hv' := hv
  obtain ⟨v1, vs, rfl, _, hv⟩ := hv.cons_inv
  obtain ⟨v2, vs, rfl, _, hv⟩ := hv.cons_inv
  have := hv.nil_inv; subst this
  refine call_fn c (ρ := [(Str.ofString "dots", .int dots), (Str.ofString "rows", .int rows)]) hs hN (by k_is) (by k_is) R (BindsTo.of_eq rfl) hv' rfl (by decide +kernel) rfl rfl rfl rfl ?_
  intro s₁ env oc A' R' he f F
  refine st_return F (ev_tuple (evs_cons (ev_bin (ev_name rfl) ev_int (bop_div (by decide) h1)) (evs_cons (ev_bin (ev_bin (ev_name rfl) (ev_name rfl) bop_sub) ev_int (bop_div (by decide) h2)) (evs_cons (ev_bin (ev_bin (ev_name rfl) (ev_name rfl) bop_sub) ev_int (bop_div (by decide) h2)) evs_nil)))) ?_
  intro v s' r k
  exact ⟨r, k⟩
end
end Mine
end
-- part F3
section
open PySem PySem.W PyProof.Rows
set_option maxRecDepth 100000
set_option linter.unusedVariables false
namespace Mine
theorem fill_F3 : (PySem.Challenge.rw_pe0134_01.most = PySem.Challenge.rw_pe0134_01.most) ∧ (Mine.hd.heap_39 = Mine.hd.heap_39) := by
  k_fill
  exact ⟨rfl, rfl⟩

local macro_rules | `(tactic| walk_at "ev") => `(tactic| first
  | ((with_reducible show Ev _ _ _ _ _ _ (Expr.Name _ _) _); exact ev_name rfl)
  | with_reducible exact ev_int
  | with_reducible exact ev_flt
  | with_reducible exact ev_str
  | with_reducible exact ev_none
  | with_reducible exact ev_bool
  | ((with_reducible show Ev _ _ _ _ _ _ (Expr.BinOp _ _ _ _) _); exact ev_bin (by walk_at "ev") (by walk_at "ev") (by walk_at "bop"))
  | ((with_reducible show Ev _ _ _ _ _ _ (Expr.Tuple _ _ _) _); exact ev_tuple (by walk_at "evs"))
  | ((with_reducible show Ev _ _ _ _ _ _ (Expr.List _ _) _); exact ev_list (by walk_at "evs")))
local macro_rules | `(tactic| walk_at "evs") => `(tactic| first
  | with_reducible exact evs_nil
  | ((with_reducible show Evs _ _ _ _ _ _ _ (_ :: _) _); exact evs_cons (by walk_at "ev") (by walk_at "evs")))
local macro_rules | `(tactic| walk_at "bop") => `(tactic| first
  | with_reducible exact bop_add
  | with_reducible exact bop_sub
  | with_reducible exact bop_fadd
  | with_reducible exact bop_fsub
  | ((with_reducible show Bop _ _ _ _ .Mod (.int _) _ _); exact bop_mod (by decide))
  | ((with_reducible show Bop _ _ _ _ .FloorDiv (.int _) _ _); exact bop_fdiv (by decide) (by decide))
  | ((with_reducible show Bop _ _ _ _ .Div (.flt _) _ _); refine bop_fdivf ?_; first | with_reducible assumption | decide +kernel)
  | ((with_reducible show Bop _ _ _ _ .Mod (.flt _) _ _); exact bop_fmod (by decide +kernel)))

section
variable {prog : Program} {w : World} {g : Heap}

structure Hls (r g h l s : UInt64) : Prop where
  hM : best3 fgt r g g = r
  hm : best3 flt r g g = g
  hl : Float64.div (Float64.add r g) 0x4000000000000000 = l
  z : (Float64.cmp g r == some Ordering.eq) = true → h = 0 ∧ s = 0
  l5 : (Float64.cmp l 0x3fe0000000000000 == some Ordering.lt || Float64.cmp l 0x3fe0000000000000 == some Ordering.eq) = true
  s0 : Float64.isZero (Float64.add r g) = false
  d0 : (Float64.cmp g r == some Ordering.eq) = false → Float64.isZero (Float64.sub r g) = false
  e : (Float64.cmp g r == some Ordering.eq) = false → Float64.div (Float64.sub r g) (Float64.add r g) = s
  c : (Float64.cmp g r == some Ordering.eq) = false → (Float64.cmp r r == some Ordering.eq) = true
  hh : (Float64.cmp g r == some Ordering.eq) = false → (Float64.divmod (Float64.div (Float64.sub (Float64.div (Float64.sub r g) (Float64.sub r g)) (Float64.div (Float64.sub r g) (Float64.sub r g))) 0x4018000000000000) 0x3ff0000000000000).2 = h

set_option maxHeartbeats 400000 in
theorem fn_hls (c : Cx (Mine.hd.heap_39 w.params) g) {r gg h l s : UInt64} (H : Hls r gg h l s) :
    Fn prog w g 2 (.ref 65) [.flt r, .flt gg, .flt gg] [] (.tup [.flt h, .flt l, .flt s]) := by
  intro A R N s vs kvs hs hN hv hk E
  have := hk.nil_inv; subst this
  have hv' := hv
  obtain ⟨v1, vs, rfl, _, hv⟩ := hv.cons_inv
  obtain ⟨v2, vs, rfl, _, hv⟩ := hv.cons_inv
  obtain ⟨v3, vs, rfl, _, hv⟩ := hv.cons_inv
  have := hv.nil_inv; subst this
  refine call_fn c (ρ := [(Str.ofString "r", .flt r), (Str.ofString "g", .flt gg), (Str.ofString "b", .flt gg)]) hs hN (by k_is) (by k_is) R (BindsTo.of_eq rfl) hv' rfl (by decide +kernel) rfl rfl rfl rfl ?_
  intro s₁ env oc A' R' he f F
  refine st_assign F (ev_callB (ev_blt c (by k_is) rfl (by decide) (f.kind rfl)) (by walk_at "evs") fn_max3 R') (f.stor rfl) fun s F _ => ?_
  rw [H.hM] at F
  refine st_assign F (ev_callB (ev_blt c (by k_is) rfl (by decide) (f.kind rfl)) (by walk_at "evs") fn_min3 R') (f.stor rfl) fun s F _ => ?_
  rw [H.hm] at F
  refine st_assign F (by walk_at "ev") (f.stor rfl) fun s F _ => ?_
  refine st_assign F (by walk_at "ev") (f.stor rfl) fun s F _ => ?_
  refine st_assign F (by walk_at "ev") (f.stor rfl) fun s F _ => ?_
  rw [H.hl] at F
  cases q : (Float64.cmp gg r == some Ordering.eq) with
  | true =>
    refine st_if_t F (Ts.of (ts_cmp (by walk_at "ev") (by walk_at "ev") cop_feq) q) fun s F _ => ?_
    obtain ⟨h1, h2⟩ := H.z q; subst h1 h2
    exact st_return F (by walk_at "ev") fun v s' r k => ⟨r, k⟩
  | false =>
    refine st_if_no F (Ts.of (ts_cmp (by walk_at "ev") (by walk_at "ev") cop_feq) q) fun s F _ => ?_
    have s0 := H.s0
    have d0 := H.d0 q
    refine st_if_t F (Ts.of (ts_cmp (by walk_at "ev") (by walk_at "ev") cop_fle) H.l5) fun s F _ => ?_
    refine st_assign F (by walk_at "ev") (f.stor rfl) fun s F _ => st_nil ?_
    refine st_assign F (by walk_at "ev") (f.stor rfl) fun s F _ => ?_
    refine st_assign F (by walk_at "ev") (f.stor rfl) fun s F _ => ?_
    refine st_assign F (by walk_at "ev") (f.stor rfl) fun s F _ => ?_
    refine st_if_t F (Ts.of (ts_cmp (by walk_at "ev") (by walk_at "ev") cop_feq) (H.c q)) fun s F _ => ?_
    refine st_assign F (by walk_at "ev") (f.stor rfl) fun s F _ => st_nil ?_
    refine st_assign F (by walk_at "ev") (f.stor rfl) fun s F _ => ?_
    rw [H.e q, H.hh q] at F
    exact st_return F (by walk_at "ev") fun v s' r k => ⟨r, k⟩

def hsvB (r g h s : UInt64) : Bool :=
  best3 fgt r g g == r && best3 flt r g g == g && !Float64.isZero r &&
  (if (Float64.cmp g r == some Ordering.eq) then h == 0 && s == 0 else !Float64.isZero (Float64.sub r g) && Float64.div (Float64.sub r g) r == s && (Float64.cmp r r == some Ordering.eq) &&
    (Float64.divmod (Float64.div (Float64.sub (Float64.div (Float64.sub r g) (Float64.sub r g)) (Float64.div (Float64.sub r g) (Float64.sub r g))) 0x4018000000000000) 0x3ff0000000000000).2 == h)
theorem hsv_of {r g h s : UInt64} (e : hsvB r g h s = true) : Hsv r g h s := by
  unfold hsvB at e
  rw [Bool.and_eq_true, Bool.and_eq_true, Bool.and_eq_true] at e
  obtain ⟨⟨⟨h1, h2⟩, h3⟩, h4⟩ := e
  refine ⟨by simpa using h1, by simpa using h2, fun q => ?_, by simpa using h3, fun q => ?_, fun q => ?_, fun q => ?_, fun q => ?_⟩ <;> rw [q] at h4 <;> simp at h4
  · exact h4
  · exact h4.1.1.1
  · exact h4.1.1.2
  · simpa using h4.1.2
  · exact h4.2
def hlsB (r g h l s : UInt64) : Bool :=
  best3 fgt r g g == r && best3 flt r g g == g && Float64.div (Float64.add r g) 0x4000000000000000 == l && (Float64.cmp l 0x3fe0000000000000 == some Ordering.lt || Float64.cmp l 0x3fe0000000000000 == some Ordering.eq) && !Float64.isZero (Float64.add r g) &&
  (if (Float64.cmp g r == some Ordering.eq) then h == 0 && s == 0 else !Float64.isZero (Float64.sub r g) && Float64.div (Float64.sub r g) (Float64.add r g) == s && (Float64.cmp r r == some Ordering.eq) &&
    (Float64.divmod (Float64.div (Float64.sub (Float64.div (Float64.sub r g) (Float64.sub r g)) (Float64.div (Float64.sub r g) (Float64.sub r g))) 0x4018000000000000) 0x3ff0000000000000).2 == h)
theorem hls_of {r g h l s : UInt64} (e : hlsB r g h l s = true) : Hls r g h l s := by
  unfold hlsB at e
  rw [Bool.and_eq_true, Bool.and_eq_true, Bool.and_eq_true, Bool.and_eq_true, Bool.and_eq_true] at e
  obtain ⟨⟨⟨⟨⟨h1, h2⟩, h3⟩, h5⟩, h6⟩, h4⟩ := e
  refine ⟨by simpa using h1, by simpa using h2, by simpa using h3, fun q => ?_, h5, by simpa using h6, fun q => ?_, fun q => ?_, fun q => ?_, fun q => ?_⟩ <;> rw [q] at h4 <;> simp at h4
  · exact h4
  · exact h4.1.1.1
  · exact h4.1.1.2
  · simpa using h4.1.2
  · exact h4.2

theorem hsv_all : ((List.range 13).all fun b => (List.range (b + 1)).all fun a => b == 0 || (hsvB (fr b 16) (fr ((b : Int) - a) 16) (fr 0 1) (fr a b) && !Float64.isInf (fr b 16) && !Float64.isInf (fr ((b : Int) - a) 16))) = true := by decide +kernel
theorem hls_all : ((List.range 7).all fun b => (List.range (b + 1)).all fun a => b == 0 || (hlsB (fr b 16) (fr ((b : Int) - a) 16) (fr 0 1) (fr (2 * (b : Int) - a) 32) (fr a (2 * (b : Int) - a)))) = true := by decide +kernel

theorem hsv_at {a b : Nat} (h1 : 1 ≤ b) (h2 : b ≤ 12) (h3 : a ≤ b) : Hsv (fr b 16) (fr ((b : Int) - a) 16) (fr 0 1) (fr a b) ∧ Float64.isInf (fr b 16) = false ∧ Float64.isInf (fr ((b : Int) - a) 16) = false := by
  have := List.all_eq_true.mp (List.all_eq_true.mp hsv_all b (List.mem_range.mpr (by omega))) a (List.mem_range.mpr (by omega))
  rw [Bool.or_eq_true, beq_iff_eq] at this
  rcases this with h | h
  · omega
  · rw [Bool.and_eq_true, Bool.and_eq_true] at h
    exact ⟨hsv_of h.1.1, by simpa using h.1.2, by simpa using h.2⟩
theorem hls_at {a b : Nat} (h1 : 1 ≤ b) (h2 : b ≤ 6) (h3 : a ≤ b) : Hls (fr b 16) (fr ((b : Int) - a) 16) (fr 0 1) (fr (2 * (b : Int) - a) 32) (fr a (2 * (b : Int) - a)) := by
  have := List.all_eq_true.mp (List.all_eq_true.mp hls_all b (List.mem_range.mpr (by omega))) a (List.mem_range.mpr (by omega))
  rw [Bool.or_eq_true, beq_iff_eq] at this
  rcases this with h | h
  · omega
  · exact hls_of h

set_option maxHeartbeats 400000 in
theorem fn_share (c : Cx (Mine.hd.heap_39 w.params) g) {m : D} {a b : Nat} (h1 : 1 ≤ b) (h2 : b ≤ 12) (h3 : a ≤ b) :
    Fn prog w g 3 (.ref 124) [.tup [m, .int a, .int b]] [] (.flt (fr a b)) := by
  intro A R N s vs kvs hs hN hv hk E
  have := hk.nil_inv; subst this
  have hv' := hv
  obtain ⟨v1, vs, rfl, _, hv⟩ := hv.cons_inv
  have := hv.nil_inv; subst this
  refine call_fn c (ρ := [(Str.ofString "item", .tup [m, .int a, .int b])]) hs hN (by k_is) (by k_is) R (BindsTo.of_eq rfl) hv' rfl (by decide +kernel) rfl rfl rfl rfl ?_
  intro s₁ env oc A' R' he f F
  obtain ⟨H, i1, i2⟩ := hsv_at h1 h2 h3
  refine st_unpack F (ev_call c (ev_glob c (by k_is) (f.kind rfl)) (by k_is) (evs_cons (ev_titem (ev_name rfl) ev_int (by decide) (by decide) rfl) (evs_cons (ev_titem (ev_name rfl) ev_int (by decide) (by decide) rfl) evs_nil)) evk_nil (fn_colour c a b i1 i2) (R'.le (by decide)))
    (asg_tup3 R'.h (asg_name (f.stor rfl)) (asg_name (f.stor rfl)) (asg_name (f.stor rfl))) fun s F _ => ?_
  exact st_return F (ev_titem (ev_call c (ev_glob c (by k_is) (f.kind rfl)) (by k_is) (evs_cons (ev_name rfl) (evs_cons (ev_name rfl) (evs_cons (ev_name rfl) evs_nil))) evk_nil (fn_hsv c H) R') ev_int (by decide) (by decide) rfl) fun v s' r k => ⟨r, k⟩
end
end Mine
end
-- part F4
section
open PySem PySem.W PyProof.Rows
set_option maxRecDepth 100000
set_option linter.unusedVariables false
namespace Mine
theorem fill_F4 : (PySem.Challenge.rw_pe0134_01.most = PySem.Challenge.rw_pe0134_01.most) ∧ (Mine.hd.heap_39 = Mine.hd.heap_39) := by
  k_fill
  exact ⟨rfl, rfl⟩

local macro_rules | `(tactic| walk_at "ev") => `(tactic| first
  | ((with_reducible show Ev _ _ _ _ _ _ (Expr.Name _ _) _); exact ev_name rfl)
  | with_reducible exact ev_int
  | with_reducible exact ev_flt
  | with_reducible exact ev_str
  | with_reducible exact ev_none
  | with_reducible exact ev_bool
  | ((with_reducible show Ev _ _ _ _ _ _ (Expr.BinOp _ _ _ _) _); exact ev_bin (by walk_at "ev") (by walk_at "ev") (by walk_at "bop"))
  | ((with_reducible show Ev _ _ _ _ _ _ (Expr.Tuple _ _ _) _); exact ev_tuple (by walk_at "evs"))
  | ((with_reducible show Ev _ _ _ _ _ _ (Expr.List _ _) _); exact ev_list (by walk_at "evs")))
local macro_rules | `(tactic| walk_at "evs") => `(tactic| first
  | with_reducible exact evs_nil
  | ((with_reducible show Evs _ _ _ _ _ _ _ (_ :: _) _); exact evs_cons (by walk_at "ev") (by walk_at "evs")))
local macro_rules | `(tactic| walk_at "bop") => `(tactic| first
  | with_reducible exact bop_add
  | with_reducible exact bop_sub
  | with_reducible exact bop_fadd
  | with_reducible exact bop_fsub
  | ((with_reducible show Bop _ _ _ _ .Mod (.int _) _ _); exact bop_mod (by decide))
  | ((with_reducible show Bop _ _ _ _ .FloorDiv (.int _) _ _); exact bop_fdiv (by decide) (by decide))
  | ((with_reducible show Bop _ _ _ _ .Div (.flt _) _ _); refine bop_fdivf ?_; first | with_reducible assumption | decide +kernel)
  | ((with_reducible show Bop _ _ _ _ .Mod (.flt _) _ _); exact bop_fmod (by decide +kernel)))

section
variable {prog : Program} {w : World} {g : Heap}

set_option maxHeartbeats 400000 in
theorem fn_bisL_k2 (c : Cx (Mine.hd.heap_39 w.params) g) {l : List D} {x : D} (kd : Nat → D) {k : Nat} (hz : l.length ≤ sizeLine) (hkl : k ≤ l.length)
    (hkey : ∀ i d, l[i]? = some d → Fn prog w g 3 (.ref 124) [d] [] (kd i)) 
    (hlt : ∀ i A, i < l.length → Cop prog w g A .Lt (kd i) x (decide (i < k))) :
    Fn prog w g 4 (.ref 58) [.lst l, x] [(Str.ofString "key", .val (.ref 124))] (.int k) := by
  intro A R N s vs kvs hs hN hv hk E
  obtain ⟨kv, rfl, rk⟩ := hk.one_inv
  obtain ⟨v1, vs, rfl, r1, hv⟩ := hv.cons_inv
  obtain ⟨v2, vs, rfl, r2, hv⟩ := hv.cons_inv
  have := hv.nil_inv; subst this
  refine call_fn c (ρ := [(Str.ofString "a", .lst l), (Str.ofString "x", x), (Str.ofString "lo", .int 0), (Str.ofString "hi", .val .none), (Str.ofString "key", .val (.ref 124))]) hs hN (by k_is) (by k_is) R (kp_binds (c.kx.keeps hs) (fun _ => rfl)) (Reps.cons r1 (Reps.cons r2 (Reps.cons (Rep.int 0 _) (Reps.cons (Rep.val .none) (Reps.cons rk Reps.nil))))) rfl (by decide +kernel) rfl rfl rfl rfl ?_
  intro s₁ env oc A' R' he f F
  have hb63 : sizeLine < 2 ^ 60 := by decide
  refine st_if_no F (Ts.of (ts_cmp (ev_name rfl) ev_int cop_lt) rfl) fun s F _ => ?_
  refine st_if_t F (Ts.of (ts_cmp (ev_name rfl) ev_none cop_is_none) rfl) fun s F _ => ?_
  refine st_assign F (ev_callB (ev_blt c (by k_is) rfl (by decide) (f.kind rfl)) (evs_cons (ev_name rfl) evs_nil) (fn_len hz) (R'.le (by decide))) (f.stor rfl) fun s F _ => st_nil ?_
  refine st_if_f F (Ts.of (ts_cmp (ev_name rfl) ev_none cop_is_none) rfl) fun s F _ => ?_
  have F := F.pick (ρ' := [(Str.ofString "a", .lst l), (Str.ofString "x", x), (Str.ofString "lo", .int (0 : Nat)), (Str.ofString "hi", .int l.length), (Str.ofString "key", .val (.ref 124))]) (.cons rfl (.cons rfl (.cons rfl (.cons rfl (.cons rfl .nil)))))
  refine st_while (fun n ρ => ∃ lo hi : Nat, n = hi - lo ∧ lo ≤ k ∧ k ≤ hi ∧ hi ≤ l.length ∧ ρ = [(Str.ofString "a", .lst l), (Str.ofString "x", x), (Str.ofString "lo", .int lo), (Str.ofString "hi", .int hi), (Str.ofString "key", .val (.ref 124))]) (n := l.length) F ⟨0, l.length, rfl, Nat.zero_le _, hkl, Nat.le_refl _, rfl⟩ ?_
  rintro n ρ ⟨lo, hi, rfl, h1, h2, h3, rfl⟩
  refine ⟨_, ts_cmp (ev_name rfl) (ev_name rfl) cop_lt, fun hb s E' F => ?_, fun hb s F => ?_⟩
  · have hlh : lo < hi := by simpa using hb
    have em : ((lo : Int) + hi).fdiv 2 = (((lo + hi) / 2 : Nat) : Int) := by rw [Int.fdiv_eq_ediv_of_nonneg _ (by decide)]; omega
    refine st_assign F (Ev.of (ev_bin (ev_bin (ev_name rfl) (ev_name rfl) bop_add) ev_int (bop_fdiv (by decide) (by decide))) (congrArg D.int em)) (f.stor rfl) fun s F _ => ?_
    generalize hmid : (lo + hi) / 2 = mid at F
    have hm1 : lo ≤ mid := by omega
    have hm2 : mid < hi := by omega
    have hget : l[((mid : Nat) : Int).toNat]? = some l[mid] := by simp
    by_cases hc : mid < k
    · refine st_if_t F (Ts.of (ts_cmp (ev_call c (ev_name rfl) (by k_is) (evs_cons (ev_item (ev_name rfl) (ev_name rfl) (by omega) (by omega) hget) evs_nil) evk_nil (hkey mid _ (by simp)) (R'.le (by decide))) (ev_name rfl) (hlt mid _ (by omega))) (by simp [hc])) fun s F _ => ?_
      refine st_assign F (Ev.of (ev_bin (ev_name rfl) ev_int bop_add) (d' := .int ((mid + 1 : Nat) : Int)) (by simp)) (f.stor rfl) fun s F _ => st_nil (st_nil ?_)
      exact ⟨rfl, hi - (mid + 1), _, by omega, ⟨mid + 1, hi, rfl, by omega, h2, h3, rfl⟩, F.pick (.cons rfl (.cons rfl (.cons rfl (.cons rfl (.cons rfl .nil)))))⟩
    · refine st_if_f F (Ts.of (ts_cmp (ev_call c (ev_name rfl) (by k_is) (evs_cons (ev_item (ev_name rfl) (ev_name rfl) (by omega) (by omega) hget) evs_nil) evk_nil (hkey mid _ (by simp)) (R'.le (by decide))) (ev_name rfl) (hlt mid _ (by omega))) (by simp [hc])) fun s F _ => ?_
      refine st_assign F (ev_name rfl) (f.stor rfl) fun s F _ => st_nil (st_nil ?_)
      exact ⟨rfl, mid - lo, _, by omega, ⟨lo, mid, rfl, h1, by omega, by omega, rfl⟩, F.pick (.cons rfl (.cons rfl (.cons rfl (.cons rfl (.cons rfl .nil)))))⟩
  · have hle : ¬ lo < hi := by simpa using hb
    have e : lo = k := by omega
    subst e
    exact st_nil (st_return F (ev_name rfl) fun v s' r k => ⟨r, k⟩)

set_option maxHeartbeats 400000 in
theorem fn_bisL_k4 (c : Cx (Mine.hd.heap_39 w.params) g) {l : List D} {x : D} (kd : Nat → D) {k : Nat} (hz : l.length ≤ sizeLine) (hkl : k ≤ l.length)
    (hkey : ∀ i d, l[i]? = some d → Fn prog w g 3 (.ref 124) [d] [] (kd i)) 
    (hlt : ∀ i A, i < l.length → Cop prog w g A .Lt (kd i) x (decide (i < k))) :
    Fn prog w g 4 (.ref 58) [.lst l, x, .int 0, .val .none] [(Str.ofString "key", .val (.ref 124))] (.int k) := by
  intro A R N s vs kvs hs hN hv hk E
  obtain ⟨kv, rfl, rk⟩ := hk.one_inv
  obtain ⟨v1, vs, rfl, r1, hv⟩ := hv.cons_inv
  obtain ⟨v2, vs, rfl, r2, hv⟩ := hv.cons_inv
  obtain ⟨v3, vs, rfl, r3, hv⟩ := hv.cons_inv
  obtain ⟨v4, vs, rfl, r4, hv⟩ := hv.cons_inv
  have := hv.nil_inv; subst this
  refine call_fn c (ρ := [(Str.ofString "a", .lst l), (Str.ofString "x", x), (Str.ofString "lo", .int 0), (Str.ofString "hi", .val .none), (Str.ofString "key", .val (.ref 124))]) hs hN (by k_is) (by k_is) R (kp_binds (c.kx.keeps hs) (fun _ => rfl)) (Reps.cons r1 (Reps.cons r2 (Reps.cons r3 (Reps.cons r4 (Reps.cons rk Reps.nil))))) rfl (by decide +kernel) rfl rfl rfl rfl ?_
  intro s₁ env oc A' R' he f F
  have hb63 : sizeLine < 2 ^ 60 := by decide
  refine st_if_no F (Ts.of (ts_cmp (ev_name rfl) ev_int cop_lt) rfl) fun s F _ => ?_
  refine st_if_t F (Ts.of (ts_cmp (ev_name rfl) ev_none cop_is_none) rfl) fun s F _ => ?_
  refine st_assign F (ev_callB (ev_blt c (by k_is) rfl (by decide) (f.kind rfl)) (evs_cons (ev_name rfl) evs_nil) (fn_len hz) (R'.le (by decide))) (f.stor rfl) fun s F _ => st_nil ?_
  refine st_if_f F (Ts.of (ts_cmp (ev_name rfl) ev_none cop_is_none) rfl) fun s F _ => ?_
  have F := F.pick (ρ' := [(Str.ofString "a", .lst l), (Str.ofString "x", x), (Str.ofString "lo", .int (0 : Nat)), (Str.ofString "hi", .int l.length), (Str.ofString "key", .val (.ref 124))]) (.cons rfl (.cons rfl (.cons rfl (.cons rfl (.cons rfl .nil)))))
  refine st_while (fun n ρ => ∃ lo hi : Nat, n = hi - lo ∧ lo ≤ k ∧ k ≤ hi ∧ hi ≤ l.length ∧ ρ = [(Str.ofString "a", .lst l), (Str.ofString "x", x), (Str.ofString "lo", .int lo), (Str.ofString "hi", .int hi), (Str.ofString "key", .val (.ref 124))]) (n := l.length) F ⟨0, l.length, rfl, Nat.zero_le _, hkl, Nat.le_refl _, rfl⟩ ?_
  rintro n ρ ⟨lo, hi, rfl, h1, h2, h3, rfl⟩
  refine ⟨_, ts_cmp (ev_name rfl) (ev_name rfl) cop_lt, fun hb s E' F => ?_, fun hb s F => ?_⟩
  · have hlh : lo < hi := by simpa using hb
    have em : ((lo : Int) + hi).fdiv 2 = (((lo + hi) / 2 : Nat) : Int) := by rw [Int.fdiv_eq_ediv_of_nonneg _ (by decide)]; omega
    refine st_assign F (Ev.of (ev_bin (ev_bin (ev_name rfl) (ev_name rfl) bop_add) ev_int (bop_fdiv (by decide) (by decide))) (congrArg D.int em)) (f.stor rfl) fun s F _ => ?_
    generalize hmid : (lo + hi) / 2 = mid at F
    have hm1 : lo ≤ mid := by omega
    have hm2 : mid < hi := by omega
    have hget : l[((mid : Nat) : Int).toNat]? = some l[mid] := by simp
    by_cases hc : mid < k
    · refine st_if_t F (Ts.of (ts_cmp (ev_call c (ev_name rfl) (by k_is) (evs_cons (ev_item (ev_name rfl) (ev_name rfl) (by omega) (by omega) hget) evs_nil) evk_nil (hkey mid _ (by simp)) (R'.le (by decide))) (ev_name rfl) (hlt mid _ (by omega))) (by simp [hc])) fun s F _ => ?_
      refine st_assign F (Ev.of (ev_bin (ev_name rfl) ev_int bop_add) (d' := .int ((mid + 1 : Nat) : Int)) (by simp)) (f.stor rfl) fun s F _ => st_nil (st_nil ?_)
      exact ⟨rfl, hi - (mid + 1), _, by omega, ⟨mid + 1, hi, rfl, by omega, h2, h3, rfl⟩, F.pick (.cons rfl (.cons rfl (.cons rfl (.cons rfl (.cons rfl .nil)))))⟩
    · refine st_if_f F (Ts.of (ts_cmp (ev_call c (ev_name rfl) (by k_is) (evs_cons (ev_item (ev_name rfl) (ev_name rfl) (by omega) (by omega) hget) evs_nil) evk_nil (hkey mid _ (by simp)) (R'.le (by decide))) (ev_name rfl) (hlt mid _ (by omega))) (by simp [hc])) fun s F _ => ?_
      refine st_assign F (ev_name rfl) (f.stor rfl) fun s F _ => st_nil (st_nil ?_)
      exact ⟨rfl, mid - lo, _, by omega, ⟨lo, mid, rfl, h1, by omega, by omega, rfl⟩, F.pick (.cons rfl (.cons rfl (.cons rfl (.cons rfl (.cons rfl .nil)))))⟩
  · have hle : ¬ lo < hi := by simpa using hb
    have e : lo = k := by omega
    subst e
    exact st_nil (st_return F (ev_name rfl) fun v s' r k => ⟨r, k⟩)

set_option maxHeartbeats 400000 in
theorem fn_bisL_p2 (c : Cx (Mine.hd.heap_39 w.params) g) {l : List D} {x : D} (kd : Nat → D) {k : Nat} (hz : l.length ≤ sizeLine) (hkl : k ≤ l.length)
    (hkey : ∀ i d, l[i]? = some d → d = kd i) 
    (hlt : ∀ i A, i < l.length → Cop prog w g A .Lt (kd i) x (decide (i < k))) :
    Fn prog w g 4 (.ref 58) [.lst l, x] [] (.int k) := by
  intro A R N s vs kvs hs hN hv hk E
  have := hk.nil_inv; subst this
  obtain ⟨v1, vs, rfl, r1, hv⟩ := hv.cons_inv
  obtain ⟨v2, vs, rfl, r2, hv⟩ := hv.cons_inv
  have := hv.nil_inv; subst this
  refine call_fn c (ρ := [(Str.ofString "a", .lst l), (Str.ofString "x", x), (Str.ofString "lo", .int 0), (Str.ofString "hi", .val .none), (Str.ofString "key", .val .none)]) hs hN (by k_is) (by k_is) R (kp_binds (c.kx.keeps hs) (fun _ => rfl)) (Reps.cons r1 (Reps.cons r2 (Reps.cons (Rep.int 0 _) (Reps.cons (Rep.val .none) (Reps.cons (Rep.val .none) Reps.nil))))) rfl (by decide +kernel) rfl rfl rfl rfl ?_
  intro s₁ env oc A' R' he f F
  have hb63 : sizeLine < 2 ^ 60 := by decide
  refine st_if_no F (Ts.of (ts_cmp (ev_name rfl) ev_int cop_lt) rfl) fun s F _ => ?_
  refine st_if_t F (Ts.of (ts_cmp (ev_name rfl) ev_none cop_is_none) rfl) fun s F _ => ?_
  refine st_assign F (ev_callB (ev_blt c (by k_is) rfl (by decide) (f.kind rfl)) (evs_cons (ev_name rfl) evs_nil) (fn_len hz) (R'.le (by decide))) (f.stor rfl) fun s F _ => st_nil ?_
  refine st_if_t F (Ts.of (ts_cmp (ev_name rfl) ev_none cop_is_none) rfl) fun s F _ => ?_
  have F := F.pick (ρ' := [(Str.ofString "a", .lst l), (Str.ofString "x", x), (Str.ofString "lo", .int (0 : Nat)), (Str.ofString "hi", .int l.length), (Str.ofString "key", .val .none)]) (.cons rfl (.cons rfl (.cons rfl (.cons rfl (.cons rfl .nil)))))
  refine st_while (fun n ρ => ∃ lo hi : Nat, n = hi - lo ∧ lo ≤ k ∧ k ≤ hi ∧ hi ≤ l.length ∧ ρ = [(Str.ofString "a", .lst l), (Str.ofString "x", x), (Str.ofString "lo", .int lo), (Str.ofString "hi", .int hi), (Str.ofString "key", .val .none)]) (n := l.length) F ⟨0, l.length, rfl, Nat.zero_le _, hkl, Nat.le_refl _, rfl⟩ ?_
  rintro n ρ ⟨lo, hi, rfl, h1, h2, h3, rfl⟩
  refine ⟨_, ts_cmp (ev_name rfl) (ev_name rfl) cop_lt, fun hb s E' F => ?_, fun hb s F => ?_⟩
  · have hlh : lo < hi := by simpa using hb
    have em : ((lo : Int) + hi).fdiv 2 = (((lo + hi) / 2 : Nat) : Int) := by rw [Int.fdiv_eq_ediv_of_nonneg _ (by decide)]; omega
    refine st_assign F (Ev.of (ev_bin (ev_bin (ev_name rfl) (ev_name rfl) bop_add) ev_int (bop_fdiv (by decide) (by decide))) (congrArg D.int em)) (f.stor rfl) fun s F _ => ?_
    generalize hmid : (lo + hi) / 2 = mid at F
    have hm1 : lo ≤ mid := by omega
    have hm2 : mid < hi := by omega
    have hget : l[((mid : Nat) : Int).toNat]? = some l[mid] := by simp
    by_cases hc : mid < k
    · refine st_if_t F (Ts.of (ts_cmp (Ev.of (ev_item (ev_name rfl) (ev_name rfl) (by omega) (by omega) hget) (hkey mid _ (by simp))) (ev_name rfl) (hlt mid _ (by omega))) (by simp [hc])) fun s F _ => ?_
      refine st_assign F (Ev.of (ev_bin (ev_name rfl) ev_int bop_add) (d' := .int ((mid + 1 : Nat) : Int)) (by simp)) (f.stor rfl) fun s F _ => st_nil (st_nil ?_)
      exact ⟨rfl, hi - (mid + 1), _, by omega, ⟨mid + 1, hi, rfl, by omega, h2, h3, rfl⟩, F.pick (.cons rfl (.cons rfl (.cons rfl (.cons rfl (.cons rfl .nil)))))⟩
    · refine st_if_f F (Ts.of (ts_cmp (Ev.of (ev_item (ev_name rfl) (ev_name rfl) (by omega) (by omega) hget) (hkey mid _ (by simp))) (ev_name rfl) (hlt mid _ (by omega))) (by simp [hc])) fun s F _ => ?_
      refine st_assign F (ev_name rfl) (f.stor rfl) fun s F _ => st_nil (st_nil ?_)
      exact ⟨rfl, mid - lo, _, by omega, ⟨lo, mid, rfl, h1, by omega, by omega, rfl⟩, F.pick (.cons rfl (.cons rfl (.cons rfl (.cons rfl (.cons rfl .nil)))))⟩
  · have hle : ¬ lo < hi := by simpa using hb
    have e : lo = k := by omega
    subst e
    exact st_nil (st_return F (ev_name rfl) fun v s' r k => ⟨r, k⟩)

set_option maxHeartbeats 400000 in
theorem fn_bisR_k2 (c : Cx (Mine.hd.heap_39 w.params) g) {l : List D} {x : D} (kd : Nat → D) {k : Nat} (hz : l.length ≤ sizeLine) (hkl : k ≤ l.length)
    (hkey : ∀ i d, l[i]? = some d → Fn prog w g 3 (.ref 124) [d] [] (kd i)) 
    (hlt : ∀ i A, i < l.length → Cop prog w g A .Lt x (kd i) (decide (k ≤ i))) :
    Fn prog w g 4 (.ref 40) [.lst l, x] [(Str.ofString "key", .val (.ref 124))] (.int k) := by
  intro A R N s vs kvs hs hN hv hk E
  obtain ⟨kv, rfl, rk⟩ := hk.one_inv
  obtain ⟨v1, vs, rfl, r1, hv⟩ := hv.cons_inv
  obtain ⟨v2, vs, rfl, r2, hv⟩ := hv.cons_inv
  have := hv.nil_inv; subst this
  refine call_fn c (ρ := [(Str.ofString "a", .lst l), (Str.ofString "x", x), (Str.ofString "lo", .int 0), (Str.ofString "hi", .val .none), (Str.ofString "key", .val (.ref 124))]) hs hN (by k_is) (by k_is) R (kp_binds (c.kx.keeps hs) (fun _ => rfl)) (Reps.cons r1 (Reps.cons r2 (Reps.cons (Rep.int 0 _) (Reps.cons (Rep.val .none) (Reps.cons rk Reps.nil))))) rfl (by decide +kernel) rfl rfl rfl rfl ?_
  intro s₁ env oc A' R' he f F
  have hb63 : sizeLine < 2 ^ 60 := by decide
  refine st_if_no F (Ts.of (ts_cmp (ev_name rfl) ev_int cop_lt) rfl) fun s F _ => ?_
  refine st_if_t F (Ts.of (ts_cmp (ev_name rfl) ev_none cop_is_none) rfl) fun s F _ => ?_
  refine st_assign F (ev_callB (ev_blt c (by k_is) rfl (by decide) (f.kind rfl)) (evs_cons (ev_name rfl) evs_nil) (fn_len hz) (R'.le (by decide))) (f.stor rfl) fun s F _ => st_nil ?_
  refine st_if_f F (Ts.of (ts_cmp (ev_name rfl) ev_none cop_is_none) rfl) fun s F _ => ?_
  have F := F.pick (ρ' := [(Str.ofString "a", .lst l), (Str.ofString "x", x), (Str.ofString "lo", .int (0 : Nat)), (Str.ofString "hi", .int l.length), (Str.ofString "key", .val (.ref 124))]) (.cons rfl (.cons rfl (.cons rfl (.cons rfl (.cons rfl .nil)))))
  refine st_while (fun n ρ => ∃ lo hi : Nat, n = hi - lo ∧ lo ≤ k ∧ k ≤ hi ∧ hi ≤ l.length ∧ ρ = [(Str.ofString "a", .lst l), (Str.ofString "x", x), (Str.ofString "lo", .int lo), (Str.ofString "hi", .int hi), (Str.ofString "key", .val (.ref 124))]) (n := l.length) F ⟨0, l.length, rfl, Nat.zero_le _, hkl, Nat.le_refl _, rfl⟩ ?_
  rintro n ρ ⟨lo, hi, rfl, h1, h2, h3, rfl⟩
  refine ⟨_, ts_cmp (ev_name rfl) (ev_name rfl) cop_lt, fun hb s E' F => ?_, fun hb s F => ?_⟩
  · have hlh : lo < hi := by simpa using hb
    have em : ((lo : Int) + hi).fdiv 2 = (((lo + hi) / 2 : Nat) : Int) := by rw [Int.fdiv_eq_ediv_of_nonneg _ (by decide)]; omega
    refine st_assign F (Ev.of (ev_bin (ev_bin (ev_name rfl) (ev_name rfl) bop_add) ev_int (bop_fdiv (by decide) (by decide))) (congrArg D.int em)) (f.stor rfl) fun s F _ => ?_
    generalize hmid : (lo + hi) / 2 = mid at F
    have hm1 : lo ≤ mid := by omega
    have hm2 : mid < hi := by omega
    have hget : l[((mid : Nat) : Int).toNat]? = some l[mid] := by simp
    by_cases hc : k ≤ mid
    · refine st_if_t F (Ts.of (ts_cmp (ev_name rfl) (ev_call c (ev_name rfl) (by k_is) (evs_cons (ev_item (ev_name rfl) (ev_name rfl) (by omega) (by omega) hget) evs_nil) evk_nil (hkey mid _ (by simp)) (R'.le (by decide))) (hlt mid _ (by omega))) (by simp [hc])) fun s F _ => ?_
      refine st_assign F (ev_name rfl) (f.stor rfl) fun s F _ => st_nil (st_nil ?_)
      exact ⟨rfl, mid - lo, _, by omega, ⟨lo, mid, rfl, h1, by omega, by omega, rfl⟩, F.pick (.cons rfl (.cons rfl (.cons rfl (.cons rfl (.cons rfl .nil)))))⟩
    · refine st_if_f F (Ts.of (ts_cmp (ev_name rfl) (ev_call c (ev_name rfl) (by k_is) (evs_cons (ev_item (ev_name rfl) (ev_name rfl) (by omega) (by omega) hget) evs_nil) evk_nil (hkey mid _ (by simp)) (R'.le (by decide))) (hlt mid _ (by omega))) (by simp [hc])) fun s F _ => ?_
      refine st_assign F (Ev.of (ev_bin (ev_name rfl) ev_int bop_add) (d' := .int ((mid + 1 : Nat) : Int)) (by simp)) (f.stor rfl) fun s F _ => st_nil (st_nil ?_)
      exact ⟨rfl, hi - (mid + 1), _, by omega, ⟨mid + 1, hi, rfl, by omega, h2, h3, rfl⟩, F.pick (.cons rfl (.cons rfl (.cons rfl (.cons rfl (.cons rfl .nil)))))⟩
  · have hle : ¬ lo < hi := by simpa using hb
    have e : lo = k := by omega
    subst e
    exact st_nil (st_return F (ev_name rfl) fun v s' r k => ⟨r, k⟩)

set_option maxHeartbeats 400000 in
theorem fn_bisR_p2 (c : Cx (Mine.hd.heap_39 w.params) g) {l : List D} {x : D} (kd : Nat → D) {k : Nat} (hz : l.length ≤ sizeLine) (hkl : k ≤ l.length)
    (hkey : ∀ i d, l[i]? = some d → d = kd i) 
    (hlt : ∀ i A, i < l.length → Cop prog w g A .Lt x (kd i) (decide (k ≤ i))) :
    Fn prog w g 4 (.ref 40) [.lst l, x] [] (.int k) := by
  intro A R N s vs kvs hs hN hv hk E
  have := hk.nil_inv; subst this
  obtain ⟨v1, vs, rfl, r1, hv⟩ := hv.cons_inv
  obtain ⟨v2, vs, rfl, r2, hv⟩ := hv.cons_inv
  have := hv.nil_inv; subst this
  refine call_fn c (ρ := [(Str.ofString "a", .lst l), (Str.ofString "x", x), (Str.ofString "lo", .int 0), (Str.ofString "hi", .val .none), (Str.ofString "key", .val .none)]) hs hN (by k_is) (by k_is) R (kp_binds (c.kx.keeps hs) (fun _ => rfl)) (Reps.cons r1 (Reps.cons r2 (Reps.cons (Rep.int 0 _) (Reps.cons (Rep.val .none) (Reps.cons (Rep.val .none) Reps.nil))))) rfl (by decide +kernel) rfl rfl rfl rfl ?_
  intro s₁ env oc A' R' he f F
  have hb63 : sizeLine < 2 ^ 60 := by decide
  refine st_if_no F (Ts.of (ts_cmp (ev_name rfl) ev_int cop_lt) rfl) fun s F _ => ?_
  refine st_if_t F (Ts.of (ts_cmp (ev_name rfl) ev_none cop_is_none) rfl) fun s F _ => ?_
  refine st_assign F (ev_callB (ev_blt c (by k_is) rfl (by decide) (f.kind rfl)) (evs_cons (ev_name rfl) evs_nil) (fn_len hz) (R'.le (by decide))) (f.stor rfl) fun s F _ => st_nil ?_
  refine st_if_t F (Ts.of (ts_cmp (ev_name rfl) ev_none cop_is_none) rfl) fun s F _ => ?_
  have F := F.pick (ρ' := [(Str.ofString "a", .lst l), (Str.ofString "x", x), (Str.ofString "lo", .int (0 : Nat)), (Str.ofString "hi", .int l.length), (Str.ofString "key", .val .none)]) (.cons rfl (.cons rfl (.cons rfl (.cons rfl (.cons rfl .nil)))))
  refine st_while (fun n ρ => ∃ lo hi : Nat, n = hi - lo ∧ lo ≤ k ∧ k ≤ hi ∧ hi ≤ l.length ∧ ρ = [(Str.ofString "a", .lst l), (Str.ofString "x", x), (Str.ofString "lo", .int lo), (Str.ofString "hi", .int hi), (Str.ofString "key", .val .none)]) (n := l.length) F ⟨0, l.length, rfl, Nat.zero_le _, hkl, Nat.le_refl _, rfl⟩ ?_
  rintro n ρ ⟨lo, hi, rfl, h1, h2, h3, rfl⟩
  refine ⟨_, ts_cmp (ev_name rfl) (ev_name rfl) cop_lt, fun hb s E' F => ?_, fun hb s F => ?_⟩
  · have hlh : lo < hi := by simpa using hb
    have em : ((lo : Int) + hi).fdiv 2 = (((lo + hi) / 2 : Nat) : Int) := by rw [Int.fdiv_eq_ediv_of_nonneg _ (by decide)]; omega
    refine st_assign F (Ev.of (ev_bin (ev_bin (ev_name rfl) (ev_name rfl) bop_add) ev_int (bop_fdiv (by decide) (by decide))) (congrArg D.int em)) (f.stor rfl) fun s F _ => ?_
    generalize hmid : (lo + hi) / 2 = mid at F
    have hm1 : lo ≤ mid := by omega
    have hm2 : mid < hi := by omega
    have hget : l[((mid : Nat) : Int).toNat]? = some l[mid] := by simp
    by_cases hc : k ≤ mid
    · refine st_if_t F (Ts.of (ts_cmp (ev_name rfl) (Ev.of (ev_item (ev_name rfl) (ev_name rfl) (by omega) (by omega) hget) (hkey mid _ (by simp))) (hlt mid _ (by omega))) (by simp [hc])) fun s F _ => ?_
      refine st_assign F (ev_name rfl) (f.stor rfl) fun s F _ => st_nil (st_nil ?_)
      exact ⟨rfl, mid - lo, _, by omega, ⟨lo, mid, rfl, h1, by omega, by omega, rfl⟩, F.pick (.cons rfl (.cons rfl (.cons rfl (.cons rfl (.cons rfl .nil)))))⟩
    · refine st_if_f F (Ts.of (ts_cmp (ev_name rfl) (Ev.of (ev_item (ev_name rfl) (ev_name rfl) (by omega) (by omega) hget) (hkey mid _ (by simp))) (hlt mid _ (by omega))) (by simp [hc])) fun s F _ => ?_
      refine st_assign F (Ev.of (ev_bin (ev_name rfl) ev_int bop_add) (d' := .int ((mid + 1 : Nat) : Int)) (by simp)) (f.stor rfl) fun s F _ => st_nil (st_nil ?_)
      exact ⟨rfl, hi - (mid + 1), _, by omega, ⟨mid + 1, hi, rfl, by omega, h2, h3, rfl⟩, F.pick (.cons rfl (.cons rfl (.cons rfl (.cons rfl (.cons rfl .nil)))))⟩
  · have hle : ¬ lo < hi := by simpa using hb
    have e : lo = k := by omega
    subst e
    exact st_nil (st_return F (ev_name rfl) fun v s' r k => ⟨r, k⟩)

end
end Mine
end
-- part F5
section
open PySem PySem.W PyProof.Rows
set_option maxRecDepth 100000
set_option linter.unusedVariables false
namespace Mine
theorem fill_F5 : (PySem.Challenge.rw_pe0134_01.most = PySem.Challenge.rw_pe0134_01.most) ∧ (Mine.hd.heap_39 = Mine.hd.heap_39) := by
  k_fill
  exact ⟨rfl, rfl⟩

local macro_rules | `(tactic| walk_at "ev") => `(tactic| first
  | ((with_reducible show Ev _ _ _ _ _ _ (Expr.Name _ _) _); exact ev_name rfl)
  | with_reducible exact ev_int
  | with_reducible exact ev_flt
  | with_reducible exact ev_str
  | with_reducible exact ev_none
  | with_reducible exact ev_bool
  | ((with_reducible show Ev _ _ _ _ _ _ (Expr.BinOp _ _ _ _) _); exact ev_bin (by walk_at "ev") (by walk_at "ev") (by walk_at "bop"))
  | ((with_reducible show Ev _ _ _ _ _ _ (Expr.Tuple _ _ _) _); exact ev_tuple (by walk_at "evs"))
  | ((with_reducible show Ev _ _ _ _ _ _ (Expr.List _ _) _); exact ev_list (by walk_at "evs")))
local macro_rules | `(tactic| walk_at "evs") => `(tactic| first
  | with_reducible exact evs_nil
  | ((with_reducible show Evs _ _ _ _ _ _ _ (_ :: _) _); exact evs_cons (by walk_at "ev") (by walk_at "evs")))
local macro_rules | `(tactic| walk_at "bop") => `(tactic| first
  | with_reducible exact bop_add
  | with_reducible exact bop_sub
  | with_reducible exact bop_fadd
  | with_reducible exact bop_fsub
  | ((with_reducible show Bop _ _ _ _ .Mod (.int _) _ _); exact bop_mod (by decide))
  | ((with_reducible show Bop _ _ _ _ .FloorDiv (.int _) _ _); exact bop_fdiv (by decide) (by decide))
  | ((with_reducible show Bop _ _ _ _ .Div (.flt _) _ _); refine bop_fdivf ?_; first | with_reducible assumption | decide +kernel)
  | ((with_reducible show Bop _ _ _ _ .Mod (.flt _) _ _); exact bop_fmod (by decide +kernel)))

section
variable {prog : Program} {w : World} {g : Heap}

set_option maxHeartbeats 400000 in
theorem insort (c : Cx (Mine.hd.heap_39 w.params) g) {l : List D} {d : D} {x : UInt64} (kd : Nat → D) {k : Nat} (hz : l.length ≤ sizeLine) (hkl : k ≤ l.length)
    (hkx : Fn prog w g 3 (.ref 124) [d] [] (.flt x)) (hkey : ∀ i d, l[i]? = some d → Fn prog w g 3 (.ref 124) [d] [] (kd i))
    (hlt : ∀ i A, i < l.length → Cop prog w g A .Lt (kd i) (.flt x) (decide (i < k)))
    (A : Around) (R : Room 6 A) (N : Addr → Prop) (s : Shared) (S : Addr) (xs : List Value) (v : Value) (hs : Kp g s.heap) (hN : Old N s) (hS : N S)
    (hl : s.heap.PlainList S xs.toArray) (hr : Reps N s.heap l xs) (hv : Rep N s.heap d v) (E : Value → Shared → Prop) :
    wpAny (model prog w) A (call (.ref 49) [.ref S, v] [(Str.ofString "key", .ref 124)]) (fun r s' => r = .none ∧ s'.heap.PlainList S (insAt xs k v).toArray ∧ Run (fun b => b = S) s s') E s := by
  let N' : Addr → Prop := fun b => N b ∧ b ≠ S
  have hN' : ∀ b, N' b → N b := fun b q => q.1
  refine call_fn (N := N') c (ρ := [(Str.ofString "a", .val (.ref S)), (Str.ofString "x", .val v), (Str.ofString "lo", .int 0), (Str.ofString "hi", .val .none), (Str.ofString "key", .val (.ref 124))]) hs ⟨fun a q => hN.1 a q.1, hN.2⟩ (by k_is) (by k_is) R (kp_binds (c.kx.keeps hs) (fun _ => rfl)) (Reps.cons (Rep.val _) (Reps.cons (Rep.val _) (Reps.cons (Rep.int 0 _) (Reps.cons (Rep.val .none) (Reps.cons (Rep.val _) Reps.nil))))) rfl (by decide +kernel) rfl rfl rfl rfl ?_
  intro s₁ env oc A' R' he f F
  have hb63 : sizeLine < 2 ^ 60 := by decide
  refine st_if_f F (Ts.of (ts_cmp (ev_name rfl) ev_none cop_is_none) rfl) fun s₂ F _ => ?_
  have k₂ := kpOf F.same
  have l₂ : s₂.heap.PlainList S xs.toArray := hl.at fun o e => k₂ _ o e
  have V := F.view.retype (x := Str.ofString "a") (d := .lst l) rfl (Rep.lst_of (fun q => q.2 rfl) l₂.isList ((hr.less' hN').kp k₂))
  have V := V.retype (x := Str.ofString "x") (d := d) rfl ((hv.less' hN').kp k₂)
  refine st_assignV F V (ev_call c (ev_glob c (by k_is) (f.kind rfl)) (by k_is) (evs_cons (ev_name rfl) (evs_cons (ev_call c (ev_name rfl) (by k_is) (evs_cons (ev_name rfl) evs_nil) evk_nil hkx (R'.le (by decide))) (evs_cons (ev_name rfl) (evs_cons (ev_name rfl) evs_nil)))) (evk_one (ev_name rfl)) (fn_bisL_k4 c kd hz hkl hkey hlt) (R'.le (by decide))) (f.stor rfl) fun s₃ s₂' _ _ F => st_nil ?_
  have k₃ := kpOf F.same
  have l₃ : s₃.heap.PlainList S xs.toArray := hl.at fun o e => k₃ _ o e
  refine st_expr F ?_
  refine MethodCall_ (wpAny_mono ((ev_name (d := .val (.ref S)) rfl) N' s₃ F.view _) (fun ov s₄ h₄ => ?_) fun _ _ x => x)
  have := h₄.1.val_inv; subst this
  have F := F.keeps h₄.2
  have l₄ : s₄.heap.PlainList S xs.toArray := l₃.at fun o e => kpOf h₄.2 _ o e
  refine getMethod_list_of PySem.F.slot_list_insert PySem.F.type_list_insert l₄.isList ?_ ?_
  · obtain ⟨n, hn⟩ := l₄
    exact ⟨_, hn, rfl⟩
  refine callWith_method1 (wpAny_mono ((evs_cons (ev_name (d := .int k) rfl) (evs_cons (ev_name (d := .val v) rfl) evs_nil)) N' s₄ F.view _) (fun vs s₅ h₅ => ?_) fun _ _ x => x)
  obtain ⟨v1, vs, rfl, r1, hv5⟩ := h₅.1.cons_inv
  obtain ⟨v2, vs, rfl, r2, hv5⟩ := hv5.cons_inv
  have := hv5.nil_inv; subst this
  obtain ⟨t, rfl⟩ := r1.int_inv
  have := r2.val_inv; subst this
  have F := F.keeps h₅.2
  have l₅ : s₅.heap.PlainList S xs.toArray := l₄.at fun o e => kpOf h₅.2 _ o e
  have hxl : xs.length = l.length := hr.length
  refine insert_at l₅ rfl (by omega) (by omega) fun h' hp hk => ⟨rfl, st_nil ⟨rfl, hp, ?_⟩⟩
  obtain ⟨h5, t5, e5, kk⟩ := F.same
  subst e5
  exact ⟨h', t5, rfl, fun b o nb e => hk b o nb (kk b o e)⟩
end
end Mine
end
-- part F6
section
open PySem PySem.W PyProof.Rows
set_option maxRecDepth 100000
set_option linter.unusedVariables false
namespace Mine
theorem fill_F6 : (PySem.Challenge.rw_pe0134_01.most = PySem.Challenge.rw_pe0134_01.most) ∧ (Mine.hd.heap_39 = Mine.hd.heap_39) := by
  k_fill
  exact ⟨rfl, rfl⟩

local macro_rules | `(tactic| walk_at "ev") => `(tactic| first
  | ((with_reducible show Ev _ _ _ _ _ _ (Expr.Name _ _) _); exact ev_name rfl)
  | with_reducible exact ev_int
  | with_reducible exact ev_flt
  | with_reducible exact ev_str
  | with_reducible exact ev_none
  | with_reducible exact ev_bool
  | ((with_reducible show Ev _ _ _ _ _ _ (Expr.BinOp _ _ _ _) _); exact ev_bin (by walk_at "ev") (by walk_at "ev") (by walk_at "bop"))
  | ((with_reducible show Ev _ _ _ _ _ _ (Expr.Tuple _ _ _) _); exact ev_tuple (by walk_at "evs"))
  | ((with_reducible show Ev _ _ _ _ _ _ (Expr.List _ _) _); exact ev_list (by walk_at "evs")))
local macro_rules | `(tactic| walk_at "evs") => `(tactic| first
  | with_reducible exact evs_nil
  | ((with_reducible show Evs _ _ _ _ _ _ _ (_ :: _) _); exact evs_cons (by walk_at "ev") (by walk_at "evs")))
local macro_rules | `(tactic| walk_at "bop") => `(tactic| first
  | with_reducible exact bop_add
  | with_reducible exact bop_sub
  | with_reducible exact bop_fadd
  | with_reducible exact bop_fsub
  | ((with_reducible show Bop _ _ _ _ .Mod (.int _) _ _); exact bop_mod (by decide))
  | ((with_reducible show Bop _ _ _ _ .FloorDiv (.int _) _ _); exact bop_fdiv (by decide) (by decide))
  | ((with_reducible show Bop _ _ _ _ .Div (.flt _) _ _); refine bop_fdivf ?_; first | with_reducible assumption | decide +kernel)
  | ((with_reducible show Bop _ _ _ _ .Mod (.flt _) _ _); exact bop_fmod (by decide +kernel)))

section
variable {prog : Program} {w : World} {g : Heap} {N : Addr → Prop} {A : Around} {env : Env} {oc : List Addr} {ρ : List (Str × D)} {s₀ s : Shared}

theorem ev_valstr {e : Expr} {x : Str} {t : Tok} (h : Ev prog w g A env ρ e (.val (.str x t))) : Ev prog w g A env ρ e (.str x) := fun N s V E =>
  wpAny_mono (h N s V E) (fun v s' h' => by have := h'.1.val_inv; subst this; exact ⟨Rep.str _ _, h'.2⟩) fun _ _ x => x

theorem ev_sub {pl : Env → Sem Bool} {e r x : Expr} {apos pos : Pos} {pa ca : Addr} {code : Array Nat} {P : Nat → Prop} {wd : Nat → Nat} {tx rp : Str} {out : List Nat}
    (hp : Pat g pa ca code) (hT : ∃ o, g.get? pa = some o ∧ o.cls = .type "re.Pattern" ∧ o.dict = none) (hf : Ev prog w g A env ρ e (.val (.ref pa))) (ha : Evs prog w g A env ρ pos [r, x] [.str rp, .str tx])
    (hzt : tx.cps.size ≤ 1000000) (hzr : rp.cps.size ≤ 8) (hrc : rp.cps.contains 92 = false)
    (hs : ∀ d, d ≤ tx.cps.size → ∃ n b, n < 2 ^ 64 ∧ Found P wd tx.cps.size d (Sre.M.runFor n (Sre.forSearch code tx.cps 0 d tx.cps.size false)) b)
    (hw : ∀ p, 0 < wd p) (hw' : ∀ p, p < tx.cps.size → P p → p + wd p ≤ tx.cps.size) (S : Sub P wd rp.cps.toList tx.cps tx.cps.size 0 out)
    (he : ∀ env, eval (.Call (.Attribute e "sub" apos) [r, x] [] pos) env = (do
      let ov ← eval e env
      standAt apos.atName
      let (f, first) ← holding [ov] (getMethod ov "sub" (pl env))
      callWith pos f first (backTo pos (starEach [r, x] env)) []) := by intro _; rfl)
    (he1 : ∀ env, starEach [r, x] env = (false, eval r env) :: starEach [x] env := by intro _; rfl)
    (he2 : ∀ env, (backTo pos (starEach [x] env)).any (·.1) = false := by intro _; rfl) :
    Ev prog w g A env ρ (.Call (.Attribute e "sub" apos) [r, x] [] pos) (.str (sl out)) := by
  intro N s V E
  refine MethodCall_ (pl := pl env) (wpAny_mono (hf N s V E) (fun ov s₁ h₁ => ?_) fun _ _ x => x) (he env)
  have := h₁.1.val_inv; subst this
  have V₁ := V.keeps h₁.2
  obtain ⟨o, ho, hc, hd⟩ := hT
  refine getMethod_builtin ⟨o, V₁.base _ _ ho, hc⟩ plainAttrs_pat slot_sub type_sub (fun a e => by cases e; exact ⟨o, V₁.base _ _ ho, hd⟩) ?_
  refine callWith_method1 (wpAny_mono (ha N s₁ V₁ E) (fun vs s₂ h₂ => ?_) fun _ _ x => x) (he1 env) (he2 env)
  obtain ⟨v1, vs, rfl, r1, hv⟩ := h₂.1.cons_inv
  obtain ⟨v2, vs, rfl, r2, hv⟩ := hv.cons_inv
  have := hv.nil_inv; subst this
  obtain ⟨u, rfl⟩ := r1.str_inv
  obtain ⟨t, rfl⟩ := r2.str_inv
  have V₂ := V₁.keeps h₂.2
  refine call_sub hzt hzr hrc (hp.at (fun o e => V₂.base _ _ e) fun o e => V₂.base _ _ e) ⟨o, V₂.base _ _ ho, hc⟩ hs hw hw' S fun t' s' k => ?_
  exact ⟨Rep.str _ _, ktrans h₁.2 (ktrans h₂.2 k)⟩

theorem pat1 (c : Cx (Mine.hd.heap_39 w.params) g) : Pat g 77 76 code1 := ⟨⟨_, _, _, _, _, c.kx _ _ (by k_is), rfl⟩, ⟨_, _, _, c.kx _ _ (by k_is), rfl, by decide +kernel⟩⟩
theorem pat2 (c : Cx (Mine.hd.heap_39 w.params) g) : Pat g 82 81 code2 := ⟨⟨_, _, _, _, _, c.kx _ _ (by k_is), rfl⟩, ⟨_, _, _, c.kx _ _ (by k_is), rfl, by decide +kernel⟩⟩
theorem ty1 (c : Cx (Mine.hd.heap_39 w.params) g) : ∃ o, g.get? 77 = some o ∧ o.cls = .type "re.Pattern" ∧ o.dict = none := ⟨_, c.kx _ _ (by k_is), rfl, rfl⟩
theorem ty2 (c : Cx (Mine.hd.heap_39 w.params) g) : ∃ o, g.get? 82 = some o ∧ o.cls = .type "re.Pattern" ∧ o.dict = none := ⟨_, c.kx _ _ (by k_is), rfl, rfl⟩

theorem eolW_is (text : Array Nat) (p : Nat) : 0 < eolW text text.size p ∧ (p < text.size → p + eolW text text.size p ≤ text.size) := by
  unfold eolW
  by_cases h : text.getD p 0 = 13 ∧ p + 1 < text.size ∧ text.getD (p + 1) 0 = 10
  · rw [if_pos h]; omega
  · rw [if_neg h]; omega
theorem ev_fix (c : Cx (Mine.hd.heap_39 w.params) g) {pl : Env → Sem Bool} {e r x : Expr} {apos pos : Pos} {tx : Str} (hf : Ev prog w g A env ρ e (.val (.ref 82))) (ha : Evs prog w g A env ρ pos [r, x] [.str CR, .str tx]) (hz : tx.cps.size ≤ 500000)
    (he : ∀ env, eval (.Call (.Attribute e "sub" apos) [r, x] [] pos) env = (do
      let ov ← eval e env
      standAt apos.atName
      let (f, first) ← holding [ov] (getMethod ov "sub" (pl env))
      callWith pos f first (backTo pos (starEach [r, x] env)) []) := by intro _; rfl)
    (he1 : ∀ env, starEach [r, x] env = (false, eval r env) :: starEach [x] env := by intro _; rfl)
    (he2 : ∀ env, (backTo pos (starEach [x] env)).any (·.1) = false := by intro _; rfl) :
    Ev prog w g A env ρ (.Call (.Attribute e "sub" apos) [r, x] [] pos) (.str (sl (eols tx.cps.toList))) := by
  refine ev_sub (P := eolAt tx.cps) (wd := eolW tx.cps tx.cps.size) (pat2 c) (ty2 c) hf ha (by omega) (by decide) (by decide +kernel) (fun d hd => ?_) (fun p => ?_) (fun p hp _ => ?_) (eols_sub tx.cps _ 0 _ (Nat.le_refl _) rfl (Nat.zero_le _)) he he1 he2
  · obtain ⟨n, b, hn, f⟩ := find2 tx.cps tx.cps.size d hd
    exact ⟨n, b, by omega, f⟩
  · exact (eolW_is tx.cps p).1
  · exact (eolW_is tx.cps p).2 hp

theorem ev_quote (c : Cx (Mine.hd.heap_39 w.params) g) {pl : Env → Sem Bool} {e r x : Expr} {apos pos : Pos} {tx : Str} (hf : Ev prog w g A env ρ e (.val (.ref 77))) (ha : Evs prog w g A env ρ pos [r, x] [.str ⟨#[46, 46]⟩, .str tx]) (hz : tx.cps.size ≤ 1000000)
    (he : ∀ env, eval (.Call (.Attribute e "sub" apos) [r, x] [] pos) env = (do
      let ov ← eval e env
      standAt apos.atName
      let (f, first) ← holding [ov] (getMethod ov "sub" (pl env))
      callWith pos f first (backTo pos (starEach [r, x] env)) []) := by intro _; rfl)
    (he1 : ∀ env, starEach [r, x] env = (false, eval r env) :: starEach [x] env := by intro _; rfl)
    (he2 : ∀ env, (backTo pos (starEach [x] env)).any (·.1) = false := by intro _; rfl) :
    Ev prog w g A env ρ (.Call (.Attribute e "sub" apos) [r, x] [] pos) (.str (sl (dots true tx.cps.toList))) := by
  refine ev_sub (P := dotAt tx.cps) (wd := fun _ => 1) (pat1 c) (ty1 c) hf ha (by omega) (by decide) (by decide +kernel) (fun d hd => ?_) (fun p => by decide) (fun p hp _ => hp) (dots_sub tx.cps _ 0 rfl (Nat.zero_le _)) he he1 he2
  obtain ⟨n, b, hn, f⟩ := find1 tx.cps tx.cps.size d hd
  exact ⟨n, b, by omega, f⟩

theorem eols_len (l : List Nat) : ∀ n, l.length ≤ n → (eols l).length ≤ 2 * l.length := by
  intro n
  induction n generalizing l with
  | zero => intro h; have : l = [] := List.length_eq_zero_iff.mp (by omega); subst this; simp [eols]
  | succ n ih =>
    intro h
    cases l with
    | nil => simp [eols]
    | cons c r =>
      simp only [List.length_cons] at h
      by_cases hc : c = 13 ∧ ∃ r', r = 10 :: r'
      · obtain ⟨rfl, r', rfl⟩ := hc
        simp only [List.length_cons] at h
        have := ih r' (by omega)
        rw [eols]; simp; omega
      · have := ih r (by omega)
        rw [eols.eq_3 c r (fun r' a b => hc ⟨a, r', b⟩)]
        split <;> simp <;> omega

set_option maxHeartbeats 400000 in
theorem fn_fix (c : Cx (Mine.hd.heap_39 w.params) g) {x : Str} (hz : x.cps.size ≤ 500000) : Fn prog w g 1 (.ref 96) [.str x] [] (.str (sl (eols x.cps.toList))) := by
  intro A R N s vs kvs hs hN hv hk E
  have := hk.nil_inv; subst this
  have hv' := hv
  obtain ⟨v1, vs, rfl, _, hv⟩ := hv.cons_inv
  have := hv.nil_inv; subst this
  refine call_fn c (ρ := [(Str.ofString "data", .str x)]) hs hN (by k_is) (by k_is) R (BindsTo.of_eq rfl) hv' rfl (by decide +kernel) rfl rfl rfl rfl ?_
  intro s₁ env oc A' R' he f F
  exact st_return F (ev_fix c (ev_glob c (by k_is) (f.kind rfl)) (evs_cons (ev_valstr (x := CR) (ev_glob c (by k_is) (f.kind rfl))) (evs_cons (ev_name rfl) evs_nil)) hz) fun v s' r k => ⟨r, k⟩

set_option maxHeartbeats 400000 in
theorem fn_quote (c : Cx (Mine.hd.heap_39 w.params) g) {x : Str} (hz : x.cps.size ≤ 500000) : Fn prog w g 1 (.ref 89) [.str x] [] (.str (sl (dots true (eols x.cps.toList)))) := by
  intro A R N s vs kvs hs hN hv hk E
  have := hk.nil_inv; subst this
  have hv' := hv
  obtain ⟨v1, vs, rfl, _, hv⟩ := hv.cons_inv
  have := hv.nil_inv; subst this
  refine call_fn c (ρ := [(Str.ofString "data", .str x)]) hs hN (by k_is) (by k_is) R (BindsTo.of_eq rfl) hv' rfl (by decide +kernel) rfl rfl rfl rfl ?_
  intro s₁ env oc A' R' he f F
  have hl := eols_len x.cps.toList _ (Nat.le_refl _)
  rw [Array.length_toList (xs := x.cps)] at hl
  exact st_return F (ev_quote c (ev_glob c (by k_is) (f.kind rfl)) (evs_cons ev_str (evs_cons (ev_fix c (ev_glob c (by k_is) (f.kind rfl)) (evs_cons (ev_valstr (x := CR) (ev_glob c (by k_is) (f.kind rfl))) (evs_cons (ev_name rfl) evs_nil)) hz) evs_nil)) (by show (eols x.cps.toList).toArray.size ≤ _; rw [List.size_toArray]; omega)) fun v s' r k => ⟨r, k⟩
end
end Mine
end
-- part F7
section
open PySem PySem.W PyProof.Rows
set_option maxRecDepth 100000
set_option linter.unusedVariables false
namespace Mine
theorem fill_F7 : (PySem.Challenge.rw_pe0134_01.most = PySem.Challenge.rw_pe0134_01.most) ∧ (Mine.hd.heap_39 = Mine.hd.heap_39) := by
  k_fill
  exact ⟨rfl, rfl⟩

local macro_rules | `(tactic| walk_at "ev") => `(tactic| first
  | ((with_reducible show Ev _ _ _ _ _ _ (Expr.Name _ _) _); exact ev_name rfl)
  | with_reducible exact ev_int
  | with_reducible exact ev_flt
  | with_reducible exact ev_str
  | with_reducible exact ev_none
  | with_reducible exact ev_bool
  | ((with_reducible show Ev _ _ _ _ _ _ (Expr.BinOp _ _ _ _) _); exact ev_bin (by walk_at "ev") (by walk_at "ev") (by walk_at "bop"))
  | ((with_reducible show Ev _ _ _ _ _ _ (Expr.Tuple _ _ _) _); exact ev_tuple (by walk_at "evs"))
  | ((with_reducible show Ev _ _ _ _ _ _ (Expr.List _ _) _); exact ev_list (by walk_at "evs")))
local macro_rules | `(tactic| walk_at "evs") => `(tactic| first
  | with_reducible exact evs_nil
  | ((with_reducible show Evs _ _ _ _ _ _ _ (_ :: _) _); exact evs_cons (by walk_at "ev") (by walk_at "evs")))
local macro_rules | `(tactic| walk_at "bop") => `(tactic| first
  | with_reducible exact bop_add
  | with_reducible exact bop_sub
  | with_reducible exact bop_fadd
  | with_reducible exact bop_fsub
  | ((with_reducible show Bop _ _ _ _ .Mod (.int _) _ _); exact bop_mod (by decide))
  | ((with_reducible show Bop _ _ _ _ .FloorDiv (.int _) _ _); exact bop_fdiv (by decide) (by decide))
  | ((with_reducible show Bop _ _ _ _ .Div (.flt _) _ _); refine bop_fdivf ?_; first | with_reducible assumption | decide +kernel)
  | ((with_reducible show Bop _ _ _ _ .Mod (.flt _) _ _); exact bop_fmod (by decide +kernel)))

section
variable {prog : Program} {w : World} {g : Heap}

set_option maxHeartbeats 400000 in
theorem fn_weighed (c : Cx (Mine.hd.heap_39 w.params) g) {x : Str} (hz : x.cps.size ≤ 500000) (hq : (dots true (eols x.cps.toList)).length ≤ 4000000) :
    Fn prog w g 2 (.ref 110) [.str x] [] (.tup [.str x, .int ((dots true (eols x.cps.toList)).length - (eols x.cps.toList).length : Int), .int (crlfs (eols x.cps.toList))]) := by
  intro A R N s vs kvs hs hN hv hk E
  have := hk.nil_inv; subst this
  have hv' := hv
  obtain ⟨v1, vs, rfl, _, hv⟩ := hv.cons_inv
  have := hv.nil_inv; subst this
  refine call_fn c (ρ := [(Str.ofString "mail", .str x)]) hs hN (by k_is) (by k_is) R (BindsTo.of_eq rfl) hv' rfl (by decide +kernel) rfl rfl rfl rfl ?_
  intro s₁ env oc A' R' he f F
  have hsl : (4000000 : Nat) ≤ sizeLine := by decide
  have hl := eols_len x.cps.toList _ (Nat.le_refl _)
  rw [Array.length_toList (xs := x.cps)] at hl
  have z1 : (sl (eols x.cps.toList)).length ≤ sizeLine := by show (eols x.cps.toList).toArray.size ≤ _; rw [List.size_toArray]; omega
  have z2 : (sl (dots true (eols x.cps.toList))).length ≤ sizeLine := by show (dots true (eols x.cps.toList)).toArray.size ≤ _; rw [List.size_toArray]; omega
  refine st_assign F (ev_call c (ev_glob c (by k_is) (f.kind rfl)) (by k_is) (evs_cons (ev_name rfl) evs_nil) evk_nil (fn_fix c hz) R') (f.stor rfl) fun s F _ => ?_
  refine st_return F (ev_tuple (evs_cons (ev_name rfl) (evs_cons (ev_bin
    (ev_callB (ev_blt c (by k_is) rfl (by decide) (f.kind rfl)) (evs_cons (ev_call c (ev_glob c (by k_is) (f.kind rfl)) (by k_is) (evs_cons (ev_name rfl) evs_nil) evk_nil (fn_quote c hz) R') evs_nil) (fn_lenS z2) R')
    (ev_callB (ev_blt c (by k_is) rfl (by decide) (f.kind rfl)) (evs_cons (ev_name rfl) evs_nil) (fn_lenS z1) R') bop_sub)
    (evs_cons (ev_meth (ev_name rfl) gm_count (evs_cons ev_str evs_nil) fn_count (R'.le (by decide))) evs_nil)))) fun v s' r k => ⟨?_, k⟩
  have e1 : (sl (dots true (eols x.cps.toList))).length = (dots true (eols x.cps.toList)).length := List.size_toArray
  have e2 : (sl (eols x.cps.toList)).length = (eols x.cps.toList).length := List.size_toArray
  rw [e1, e2] at r
  exact r

def wr (plain dotted : Str) (bs : List Bool) : List Nat := J (bs.map fun b => if b then dotted else plain)
def wrF (plain dotted : Str) : D → List D
  | .bool b => [.str (if b then dotted else plain)]
  | _ => []
theorem wrF_eq (plain dotted : Str) : ∀ bs : List Bool, (bs.map D.bool).flatMap (wrF plain dotted) = (bs.map fun b => if b then dotted else plain).map .str
  | [] => rfl
  | b :: bs => by rw [List.map_cons, List.flatMap_cons, wrF_eq plain dotted bs]; rfl

set_option maxHeartbeats 400000 in
theorem fn_written (c : Cx (Mine.hd.heap_39 w.params) g) {bs : List Bool} {plain dotted : Str} (hz : bs.length ≤ 100000) (hq : (wr plain dotted bs).length ≤ 16777216) :
    Fn prog w g 1 (.ref 139) [.lst (bs.map .bool), .str plain, .str dotted] [] (.str (sl (wr plain dotted bs))) := by
  intro A R N s vs kvs hs hN hv hk E
  have := hk.nil_inv; subst this
  have hv' := hv
  obtain ⟨v1, vs, rfl, _, hv⟩ := hv.cons_inv
  obtain ⟨v2, vs, rfl, _, hv⟩ := hv.cons_inv
  obtain ⟨v3, vs, rfl, _, hv⟩ := hv.cons_inv
  have := hv.nil_inv; subst this
  refine call_fn c (ρ := [(Str.ofString "word", .lst (bs.map .bool)), (Str.ofString "plain", .str plain), (Str.ofString "dotted", .str dotted)]) hs hN (by k_is) (by k_is) R (BindsTo.of_eq rfl) hv' rfl (by decide +kernel) rfl rfl rfl rfl ?_
  intro s₁ env oc A' R' he f F
  have hsl : (4000000 : Nat) ≤ sizeLine := by decide
  refine st_return F (ev_meth ev_str gm_join (evs_cons (Ev.of (ev_comp (ns := [Str.ofString "sign"]) (fun d => [(Str.ofString "sign", d)]) (wrF plain dotted) f ⟨rfl, by decide +kernel, rfl, rfl⟩ (src_list R'.h (ev_name rfl)) (fun _ _ => rfl) rfl (by rw [wrF_eq]; simp; omega) ?_) (congrArg D.lst (wrF_eq plain dotted bs))) evs_nil) (fn_join hq) R') fun v s' r k => ⟨r, k⟩
  intro cenv oc' ef d hd
  obtain ⟨b, _, rfl⟩ := List.mem_map.mp hd
  refine ⟨asg_name (ef.stor rfl), true, tests_nil, fun h => (nomatch h), fun _ => ⟨_, rfl, ev_ifexp (ts_val (b := b) (ev_name rfl)) (fun hb => ?_) fun hb => ?_⟩⟩
  · subst hb; exact ev_name rfl
  · subst hb; exact ev_name rfl

set_option maxHeartbeats 400000 in
theorem fn_both (c : Cx (Mine.hd.heap_39 w.params) g) {l : List D} {x : D} (kd : Nat → D) {k k' : Nat} (hz : l.length ≤ sizeLine) (hkl : k ≤ l.length) (hkl' : k' ≤ l.length)
    (hkey : ∀ i d, l[i]? = some d → d = kd i) (hlt : ∀ i A, i < l.length → Cop prog w g A .Lt (kd i) x (decide (i < k))) (hlt' : ∀ i A, i < l.length → Cop prog w g A .Lt x (kd i) (decide (k' ≤ i))) :
    Fn prog w g 5 (.ref 146) [.lst l, x] [] (.tup [.int k, .int k']) := by
  intro A R N s vs kvs hs hN hv hk E
  have := hk.nil_inv; subst this
  have hv' := hv
  obtain ⟨v1, vs, rfl, _, hv⟩ := hv.cons_inv
  obtain ⟨v2, vs, rfl, _, hv⟩ := hv.cons_inv
  have := hv.nil_inv; subst this
  refine call_fn c (ρ := [(Str.ofString "row", .lst l), (Str.ofString "one", x)]) hs hN (by k_is) (by k_is) R (BindsTo.of_eq rfl) hv' rfl (by decide +kernel) rfl rfl rfl rfl ?_
  intro s₁ env oc A' R' he f F
  exact st_return F (ev_tuple (evs_cons (ev_call c (ev_glob c (by k_is) (f.kind rfl)) (by k_is) (evs_cons (ev_name rfl) (evs_cons (ev_name rfl) evs_nil)) evk_nil (fn_bisL_p2 c kd hz hkl hkey hlt) R')
    (evs_cons (ev_call c (ev_glob c (by k_is) (f.kind rfl)) (by k_is) (evs_cons (ev_name rfl) (evs_cons (ev_name rfl) evs_nil)) evk_nil (fn_bisR_p2 c kd hz hkl' hkey hlt') R') evs_nil))) fun v s' r k => ⟨r, k⟩
end
end Mine
end
-- part F8
section
open PySem PySem.W PyProof.Rows
set_option maxRecDepth 100000
set_option linter.unusedVariables false
namespace Mine
theorem fill_F8 : (PySem.Challenge.rw_pe0134_01.most = PySem.Challenge.rw_pe0134_01.most) ∧ (Mine.hd.heap_39 = Mine.hd.heap_39) := by
  k_fill
  exact ⟨rfl, rfl⟩

local macro_rules | `(tactic| walk_at "ev") => `(tactic| first
  | ((with_reducible show Ev _ _ _ _ _ _ (Expr.Name _ _) _); exact ev_name rfl)
  | with_reducible exact ev_int
  | with_reducible exact ev_flt
  | with_reducible exact ev_str
  | with_reducible exact ev_none
  | with_reducible exact ev_bool
  | ((with_reducible show Ev _ _ _ _ _ _ (Expr.BinOp _ _ _ _) _); exact ev_bin (by walk_at "ev") (by walk_at "ev") (by walk_at "bop"))
  | ((with_reducible show Ev _ _ _ _ _ _ (Expr.Tuple _ _ _) _); exact ev_tuple (by walk_at "evs"))
  | ((with_reducible show Ev _ _ _ _ _ _ (Expr.List _ _) _); exact ev_list (by walk_at "evs")))
local macro_rules | `(tactic| walk_at "evs") => `(tactic| first
  | with_reducible exact evs_nil
  | ((with_reducible show Evs _ _ _ _ _ _ _ (_ :: _) _); exact evs_cons (by walk_at "ev") (by walk_at "evs")))
local macro_rules | `(tactic| walk_at "bop") => `(tactic| first
  | with_reducible exact bop_add
  | with_reducible exact bop_sub
  | with_reducible exact bop_fadd
  | with_reducible exact bop_fsub
  | ((with_reducible show Bop _ _ _ _ .Mod (.int _) _ _); exact bop_mod (by decide))
  | ((with_reducible show Bop _ _ _ _ .FloorDiv (.int _) _ _); exact bop_fdiv (by decide) (by decide))
  | ((with_reducible show Bop _ _ _ _ .Div (.flt _) _ _); refine bop_fdivf ?_; first | with_reducible assumption | decide +kernel)
  | ((with_reducible show Bop _ _ _ _ .Mod (.flt _) _ _); exact bop_fmod (by decide +kernel)))

section
variable {prog : Program} {w : World} {g : Heap}

def redF (p q : Int) : D → List D
  | .int d => if p.fmod d == 0 && q.fmod d == 0 then [.int d] else []
  | _ => []
def divs (p q : Int) : List D := ((List.range (q + 1 - 2).toNat).map fun i => D.int (2 + (i : Nat))).flatMap (redF p q)

theorem divs_len (p q : Int) : (divs p q).length ≤ (q + 1 - 2).toNat := by
  unfold divs
  have : ∀ l : List D, (l.flatMap (redF p q)).length ≤ l.length := by
    intro l
    induction l with
    | nil => simp
    | cons d r ih =>
      rw [List.flatMap_cons, List.length_append, List.length_cons]
      have : (redF p q d).length ≤ 1 := by
        unfold redF; split
        · split <;> simp
        · simp
      omega
  have h := this ((List.range (q + 1 - 2).toNat).map fun i => D.int (2 + (i : Nat)))
  simpa using h

set_option maxHeartbeats 400000 in
theorem fn_reduced (c : Cx (Mine.hd.heap_39 w.params) g) {p q : Int} (hq0 : 0 ≤ q) (hq : q ≤ 1000) :
    Fn prog w g 2 (.ref 134) [.int p, .int q] [] (.bool (divs p q).isEmpty) := by
  intro A R N s vs kvs hs hN hv hk E
  have := hk.nil_inv; subst this
  have hv' := hv
  obtain ⟨v1, vs, rfl, _, hv⟩ := hv.cons_inv
  obtain ⟨v2, vs, rfl, _, hv⟩ := hv.cons_inv
  have := hv.nil_inv; subst this
  refine call_fn c (ρ := [(Str.ofString "p", .int p), (Str.ofString "q", .int q)]) hs hN (by k_is) (by k_is) R (BindsTo.of_eq rfl) hv' rfl (by decide +kernel) rfl rfl rfl rfl ?_
  intro s₁ env oc A' R' he f F
  have hsl : (4000000 : Nat) ≤ sizeLine := by decide
  have hdl := divs_len p q
  refine st_return F (ev_cmp (ev_comp (ns := [Str.ofString "d"]) (fun d => [(Str.ofString "d", d)]) (redF p q) f ⟨rfl, by decide +kernel, rfl, rfl⟩
    (src_range2 R'.h (ev_blt c (by k_is) rfl (by decide) (f.kind rfl)) ev_int (ev_bin (ev_name rfl) ev_int bop_add) (by decide) (by decide) (by omega) (by omega)) (fun _ _ => rfl) rfl (by show (divs p q).length ≤ _; omega) ?_) (ev_list evs_nil) (cop_empty R')) fun v s' r k => ⟨r, k⟩
  intro cenv oc' ef d hd
  obtain ⟨i, _, rfl⟩ := List.mem_map.mp hd
  have hne : (2 + (i : Nat) : Int) ≠ 0 := by omega
  refine ⟨asg_name (ef.stor rfl), _, tests_one (ts_and2 (ts_cmp (ev_bin (ev_name rfl) (ev_name rfl) (bop_mod hne)) ev_int cop_eq) fun _ => ts_cmp (ev_bin (ev_name rfl) (ev_name rfl) (bop_mod hne)) ev_int cop_eq), fun hb => ?_, fun hb => ⟨_, ?_, ev_name rfl⟩⟩
  · show (if _ then _ else _) = _
    rw [hb]; rfl
  · show (if _ then _ else _) = _
    rw [hb]; rfl
end
end Mine
end
-- part F9
section
open PySem PySem.W PyProof.Rows
set_option maxRecDepth 100000
set_option linter.unusedVariables false
namespace Mine
theorem fill_F9 : (PySem.Challenge.rw_pe0134_01.most = PySem.Challenge.rw_pe0134_01.most) ∧ (Mine.hd.heap_39 = Mine.hd.heap_39) := by
  k_fill
  exact ⟨rfl, rfl⟩

local macro_rules | `(tactic| walk_at "ev") => `(tactic| first
  | ((with_reducible show Ev _ _ _ _ _ _ (Expr.Name _ _) _); exact ev_name rfl)
  | with_reducible exact ev_int
  | with_reducible exact ev_flt
  | with_reducible exact ev_str
  | with_reducible exact ev_none
  | with_reducible exact ev_bool
  | ((with_reducible show Ev _ _ _ _ _ _ (Expr.BinOp _ _ _ _) _); exact ev_bin (by walk_at "ev") (by walk_at "ev") (by walk_at "bop"))
  | ((with_reducible show Ev _ _ _ _ _ _ (Expr.Tuple _ _ _) _); exact ev_tuple (by walk_at "evs"))
  | ((with_reducible show Ev _ _ _ _ _ _ (Expr.List _ _) _); exact ev_list (by walk_at "evs")))
local macro_rules | `(tactic| walk_at "evs") => `(tactic| first
  | with_reducible exact evs_nil
  | ((with_reducible show Evs _ _ _ _ _ _ _ (_ :: _) _); exact evs_cons (by walk_at "ev") (by walk_at "evs")))
local macro_rules | `(tactic| walk_at "bop") => `(tactic| first
  | with_reducible exact bop_add
  | with_reducible exact bop_sub
  | with_reducible exact bop_fadd
  | with_reducible exact bop_fsub
  | ((with_reducible show Bop _ _ _ _ .Mod (.int _) _ _); exact bop_mod (by decide))
  | ((with_reducible show Bop _ _ _ _ .FloorDiv (.int _) _ _); exact bop_fdiv (by decide) (by decide))
  | ((with_reducible show Bop _ _ _ _ .Div (.flt _) _ _); refine bop_fdivf ?_; first | with_reducible assumption | decide +kernel)
  | ((with_reducible show Bop _ _ _ _ .Mod (.flt _) _ _); exact bop_fmod (by decide +kernel)))

section
variable {prog : Program} {w : World} {g : Heap}
def endsS : List Str := [Str.ofString "\n", Str.ofString "\r", Str.ofString "\r\n"]
def tailS : List Str := [Str.ofString "", Str.ofString "a", Str.ofString ".", Str.ofString "-."]
def frontS : List Str := [Str.ofString "-", Str.ofString " ", Str.ofString "!", Str.ofString "\t"]
def pick (l : List Str) (i : Nat) : Str := l.getD i ⟨#[]⟩
theorem pick_at {l : List Str} {i : Nat} (h : i < l.length) : (l.map D.str)[i]? = some (.str (pick l i)) := by
  unfold pick; simp [h]
def bareS (n : Nat) : Str := pick frontS (n / 12 % 4) ++ pick tailS (n / 3 % 4)
def ledS (n : Nat) : Str := Str.ofString "." ++ pick tailS (n / 3 % 4)
theorem pick_len : ∀ i, (pick frontS i).length ≤ 2 ∧ (pick tailS i).length ≤ 2 ∧ (pick endsS i).length ≤ 2 := by
  intro i
  match i with
  | 0 => decide
  | 1 => decide
  | 2 => decide
  | 3 => decide
  | i + 4 => unfold pick frontS tailS endsS; simp; decide
theorem idiv {n : Nat} {k : Nat} (hk : 0 < k) : ((n : Int).fdiv (k : Int)) = ((n / k : Nat) : Int) := by
  rw [Int.fdiv_eq_ediv_of_nonneg _ (by omega)]; simp
theorem imod {n : Nat} {k : Nat} : ((n : Int).fmod (k : Int)) = ((n % k : Nat) : Int) := by
  rw [Int.fmod_eq_emod_of_nonneg _ (by omega)]; simp

set_option maxHeartbeats 400000 in
theorem fn_rows (c : Cx (Mine.hd.heap_39 w.params) g) {n : Nat} :
    Fn prog w g 1 (.ref 103) [.int n] [] (.tup [.str (bareS n), .str (pick endsS (n % 3)), .str (ledS n), .str (pick endsS (n / 48 % 3))]) := by
  intro A R N s vs kvs hs hN hv hk E
  have := hk.nil_inv; subst this
  have hv' := hv
  obtain ⟨v1, vs, rfl, _, hv⟩ := hv.cons_inv
  have := hv.nil_inv; subst this
  refine call_fn c (ρ := [(Str.ofString "draw", .int n)]) hs hN (by k_is) (by k_is) R (BindsTo.of_eq rfl) hv' rfl (by decide +kernel) rfl rfl rfl rfl ?_
  intro s₁ env oc A' R' he f F
  have hsl : (4000000 : Nat) ≤ sizeLine := by decide
  have hl := pick_len
  have hd : (Str.ofString ".").length + (pick tailS (n / 3 % 4)).length ≤ sizeLine := by
    have h1 := (hl (n / 3 % 4)).2.1
    have h2 : (Str.ofString ".").length = 1 := by decide
    omega
  have e3 : ((n : Int).fdiv 3).fmod 4 = ((n / 3 % 4 : Nat) : Int) := by rw [show (3 : Int) = ((3 : Nat) : Int) from rfl, show (4 : Int) = ((4 : Nat) : Int) from rfl, idiv (by decide), imod]
  have e12 : ((n : Int).fdiv 12).fmod 4 = ((n / 12 % 4 : Nat) : Int) := by rw [show (12 : Int) = ((12 : Nat) : Int) from rfl, show (4 : Int) = ((4 : Nat) : Int) from rfl, idiv (by decide), imod]
  have e48 : ((n : Int).fdiv 48).fmod 3 = ((n / 48 % 3 : Nat) : Int) := by rw [show (48 : Int) = ((48 : Nat) : Int) from rfl, show (3 : Int) = ((3 : Nat) : Int) from rfl, idiv (by decide), imod]
  have e0 : (n : Int).fmod 3 = ((n % 3 : Nat) : Int) := by rw [show (3 : Int) = ((3 : Nat) : Int) from rfl, imod]
  refine st_assign F (Ev.of (ev_list (evs_cons ev_str (evs_cons ev_str (evs_cons ev_str evs_nil)))) (d' := .lst (endsS.map .str)) rfl) (f.stor rfl) fun s F _ => ?_
  refine st_assign F (ev_item (l := tailS.map .str) (k := ((n / 3 % 4 : Nat) : Int)) (d := .str (pick tailS (n / 3 % 4))) (Ev.of (ev_list (evs_cons ev_str (evs_cons ev_str (evs_cons ev_str (evs_cons ev_str evs_nil))))) rfl) (Ev.of (ev_bin (ev_bin (ev_name rfl) ev_int (bop_fdiv (by decide) (by decide))) ev_int (bop_mod (by decide))) (congrArg D.int e3)) (by omega) (by omega) (by rw [Int.toNat_natCast]; exact pick_at (by show _ < 4; omega))) (f.stor rfl) fun s F _ => ?_
  refine st_assign F (ev_item (l := frontS.map .str) (k := ((n / 12 % 4 : Nat) : Int)) (d := .str (pick frontS (n / 12 % 4))) (Ev.of (ev_list (evs_cons ev_str (evs_cons ev_str (evs_cons ev_str (evs_cons ev_str evs_nil))))) rfl) (Ev.of (ev_bin (ev_bin (ev_name rfl) ev_int (bop_fdiv (by decide) (by decide))) ev_int (bop_mod (by decide))) (congrArg D.int e12)) (by omega) (by omega) (by rw [Int.toNat_natCast]; exact pick_at (by show _ < 4; omega))) (f.stor rfl) fun s F _ => ?_
  refine st_return F (ev_tuple (evs_cons (ev_bin (ev_name rfl) (ev_name rfl) (bop_sadd (by have := hl (n / 12 % 4); have := hl (n / 3 % 4); omega)))
    (evs_cons (ev_item (l := endsS.map .str) (k := ((n % 3 : Nat) : Int)) (d := .str (pick endsS (n % 3))) (ev_name rfl) (Ev.of (ev_bin (ev_name rfl) ev_int (bop_mod (by decide))) (congrArg D.int e0)) (by omega) (by omega) (by rw [Int.toNat_natCast]; exact pick_at (by show _ < 3; omega)))
    (evs_cons (ev_bin ev_str (ev_name rfl) (bop_sadd hd))
    (evs_cons (ev_item (l := endsS.map .str) (k := ((n / 48 % 3 : Nat) : Int)) (d := .str (pick endsS (n / 48 % 3))) (ev_name rfl) (Ev.of (ev_bin (ev_bin (ev_name rfl) ev_int (bop_fdiv (by decide) (by decide))) ev_int (bop_mod (by decide))) (congrArg D.int e48)) (by omega) (by omega) (by rw [Int.toNat_natCast]; exact pick_at (by show _ < 3; omega))) evs_nil))))) fun v s' r k => ⟨r, k⟩
end
end Mine
end
-- part L1
section
set_option maxRecDepth 100000
set_option linter.unusedVariables false
namespace Mine

/-- the fractions up to six, in order -/
def fp (i : Nat) : Nat := [0,1,1,1,1,2,1,3,2,3,4,5,1].getD i 0
def fq (i : Nat) : Nat := [1,6,5,4,3,5,2,5,3,4,5,6,1].getD i 1
/-- neighbours -/
def nb (a b : Nat) : Bool := decide (a < b) && decide (b ≤ 12) && fp b * fq a == fp a * fq b + 1
def med (a b : Nat) : Nat := ((List.range 13).filter fun m => fp m == fp a + fp b && fq m == fq a + fq b).headD 0
def word (i : Nat) : List Bool := (List.range (fq i)).map fun k => decide (fq i ≤ k * fp i % fq i + fp i)

theorem all13 {P : Nat → Bool} (h : (List.range 13).all P = true) {a : Nat} (ha : a ≤ 12) : P a = true := List.all_eq_true.mp h a (List.mem_range.mpr (by omega))

def medB (a b : Nat) : Bool := !(nb a b && decide (fq a + fq b ≤ 6)) || (decide (a < med a b) && decide (med a b < b) && fp (med a b) == fp a + fp b && fq (med a b) == fq a + fq b && nb a (med a b) && nb (med a b) b && word (med a b) == word a ++ word b)
theorem med_all : ((List.range 13).all fun a => (List.range 13).all fun b => medB a b) = true := by decide +kernel
theorem med_ok {a b : Nat} (ha : a ≤ 12) (hb : b ≤ 12) (h : nb a b = true) (hq : fq a + fq b ≤ 6) :
    a < med a b ∧ med a b < b ∧ fp (med a b) = fp a + fp b ∧ fq (med a b) = fq a + fq b ∧ nb a (med a b) = true ∧ nb (med a b) b = true ∧ word (med a b) = word a ++ word b := by
  have h1 := all13 (all13 med_all ha) hb
  unfold medB at h1
  rw [h, decide_eq_true hq] at h1
  simp at h1
  obtain ⟨⟨⟨⟨⟨⟨a1, a2⟩, a3⟩, a4⟩, a5⟩, a6⟩, a7⟩ := h1
  exact ⟨a1, a2, a3, a4, a5, a6, a7⟩
theorem nb_lt {a b : Nat} (h : nb a b = true) : a < b ∧ b ≤ 12 := by
  unfold nb at h
  simp at h; exact h.1

theorem word_all : ((List.range 13).all fun i => (word i).count true == fp i && (word i).length == fq i && decide (1 ≤ fq i) && decide (fq i ≤ 6) && decide (fp i ≤ fq i)) = true := by decide +kernel
theorem word_ok {i : Nat} (h : i ≤ 12) : (word i).count true = fp i ∧ (word i).length = fq i ∧ 1 ≤ fq i ∧ fq i ≤ 6 ∧ fp i ≤ fq i := by
  have h1 := all13 word_all h
  simp at h1
  obtain ⟨⟨⟨⟨a1, a2⟩, a3⟩, a4⟩, a5⟩ := h1
  exact ⟨a1, a2, a3, a4, a5⟩

/-- a chain of neighbours -/
def Ch : List Nat → Prop
  | [] => True
  | [_] => True
  | a :: b :: r => nb a b = true ∧ Ch (b :: r)

structure Inv (top i : Nat) (S : List Nat) : Prop where
  ch : Ch S
  hd : S.head? = some 0
  last : S.getLast? = some 12
  len : S.length = i + 2
  qt : ∀ a ∈ S, fq a ≤ top ∧ a ≤ 12
  asc : S.Pairwise (· < ·)

theorem inv0 {top : Nat} (h : 1 ≤ top) : Inv top 0 [0, 12] where
  ch := ⟨by decide, trivial⟩
  hd := rfl
  last := rfl
  len := rfl
  qt := fun a ha => by
    simp at ha
    rcases ha with rfl | rfl
    · exact ⟨h, by decide⟩
    · exact ⟨h, by decide⟩
  asc := by decide

theorem split_at : ∀ {S : List Nat} {k a b : Nat}, S[k]? = some a → S[k + 1]? = some b → ∃ X Y, S = X ++ a :: b :: Y ∧ X.length = k
  | [], k, a, b, h, _ => by simp at h
  | x :: r, 0, a, b, h, h' => by
    simp at h h'
    cases r with
    | nil => simp at h'
    | cons y r => simp at h'; subst h h'; exact ⟨[], r, rfl, rfl⟩
  | x :: r, k + 1, a, b, h, h' => by
    obtain ⟨X, Y, e, hl⟩ := split_at (S := r) (k := k) (by simpa using h) (by simpa using h')
    exact ⟨x :: X, Y, by rw [e]; rfl, by simp [hl]⟩

theorem ch_ins : ∀ {X : List Nat} {a b m : Nat} {Y : List Nat}, Ch (X ++ a :: b :: Y) → nb a m = true → nb m b = true → Ch (X ++ a :: m :: b :: Y)
  | [], a, b, m, Y, h, h1, h2 => ⟨h1, h2, h.2⟩
  | [x], a, b, m, Y, h, h1, h2 => ⟨h.1, ch_ins (X := []) h.2 h1 h2⟩
  | x :: y :: X, a, b, m, Y, h, h1, h2 => ⟨h.1, ch_ins (X := y :: X) h.2 h1 h2⟩
theorem ch_mid : ∀ {X : List Nat} {a b : Nat} {Y : List Nat}, Ch (X ++ a :: b :: Y) → nb a b = true
  | [], a, b, Y, h => h.1
  | [x], a, b, Y, h => h.2.1
  | x :: y :: X, a, b, Y, h => ch_mid (X := y :: X) h.2

theorem ins_split {X : List Nat} {a b m : Nat} {Y : List Nat} : insAt (X ++ a :: b :: Y) (X.length + 1) m = X ++ a :: m :: b :: Y := by
  unfold insAt
  rw [show X ++ a :: b :: Y = (X ++ [a]) ++ b :: Y by simp, List.take_left' (by simp), List.drop_left' (by simp)]
  simp

theorem inv_step {top i k a b : Nat} {S : List Nat} (I : Inv top i S) (ht : top ≤ 6) (h1 : S[k]? = some a) (h2 : S[k + 1]? = some b) (hq : fq a + fq b ≤ top) :
    Inv top (i + 1) (insAt S (k + 1) (med a b)) ∧ (∀ j c, S[j]? = some c → decide (c < med a b) = decide (j < k + 1)) ∧ fp (med a b) = fp a + fp b ∧ fq (med a b) = fq a + fq b ∧ word (med a b) = word a ++ word b ∧ med a b ≤ 12 := by
  obtain ⟨X, Y, rfl, hl⟩ := split_at h1 h2
  subst hl
  rw [ins_split]
  have hab := ch_mid I.ch
  have ha := I.qt a (by simp)
  have hb := I.qt b (by simp)
  obtain ⟨m1, m2, m3, m4, m5, m6, m7⟩ := med_ok ha.2 hb.2 hab (by omega)
  have asc := I.asc
  rw [List.pairwise_append, List.pairwise_cons, List.pairwise_cons] at asc
  obtain ⟨p1, ⟨p2, p3, p4⟩, p5⟩ := asc
  refine ⟨⟨ch_ins I.ch m5 m6, ?_, ?_, ?_, ?_, ?_⟩, ?_, m3, m4, m7, by omega⟩
  · have := I.hd
    cases X with
    | nil => simpa using this
    | cons x X => simpa using this
  · have := I.last
    simpa using this
  · have := I.len
    simp at this ⊢; omega
  · intro c hc
    rw [List.mem_append, List.mem_cons, List.mem_cons] at hc
    rcases hc with hc | rfl | rfl | hc
    · exact I.qt c (by simp [hc])
    · exact ha
    · rw [m4]; omega
    · exact I.qt c (by
        rw [List.mem_append, List.mem_cons]
        exact .inr (.inr hc))
  · rw [List.pairwise_append, List.pairwise_cons, List.pairwise_cons, List.pairwise_cons]
    refine ⟨p1, ⟨fun c hc => ?_, fun c hc => ?_, p3, p4⟩, fun x hx c hc => ?_⟩
    · rcases List.mem_cons.mp hc with rfl | hc
      · exact m1
      · exact p2 c hc
    · rcases List.mem_cons.mp hc with rfl | hc
      · exact m2
      · have := p3 c hc; omega
    · rcases List.mem_cons.mp hc with rfl | hc
      · exact p5 x hx _ (by simp)
      · rcases List.mem_cons.mp hc with rfl | hc
        · have := p5 x hx a (by simp); omega
        · exact p5 x hx c (List.mem_cons_of_mem _ hc)
  · intro j c hj
    have hjl : j < (X ++ a :: b :: Y).length := (List.getElem?_eq_some_iff.mp hj).1
    by_cases hk : j < X.length + 1
    · rw [decide_eq_true hk, decide_eq_true_eq]
      by_cases hx : j < X.length
      · rw [List.getElem?_append_left hx] at hj
        have := p5 c (List.mem_of_getElem? hj) a (by simp); omega
      · have : j = X.length := by omega
        subst this
        simp at hj; omega
    · rw [decide_eq_false hk, decide_eq_false_iff_not]
      rw [List.getElem?_append_right (by omega)] at hj
      obtain ⟨r, hr⟩ : ∃ r, j - X.length = r + 1 := ⟨j - X.length - 1, by omega⟩
      rw [hr, List.getElem?_cons_succ] at hj
      have hc := List.mem_of_getElem? hj
      rcases List.mem_cons.mp hc with rfl | hc
      · omega
      · have := p3 c hc; omega

/-- what is next where the sum is over the top -/
def nx (top a : Nat) : Nat := ((List.range 13).filter fun j => decide (a < j) && decide (fq j ≤ top)).headD 0
theorem nx_all : ([3, 4, 5, 6].all fun top => (List.range 13).all fun a => (List.range 13).all fun b => !(nb a b && decide (fq a ≤ top) && decide (fq b ≤ top) && decide (top < fq a + fq b)) || b == nx top a) = true := by decide +kernel
theorem nx_ok {top a b : Nat} (h3 : 3 ≤ top) (h6 : top ≤ 6) (ha : a ≤ 12) (hb : b ≤ 12) (h : nb a b = true) (h1 : fq a ≤ top) (h2 : fq b ≤ top) (h4 : top < fq a + fq b) : b = nx top a := by
  have hm : top ∈ [3, 4, 5, 6] := by
    have : top = 3 ∨ top = 4 ∨ top = 5 ∨ top = 6 := by omega
    rcases this with rfl | rfl | rfl | rfl <;> simp
  have := all13 (all13 (List.all_eq_true.mp nx_all top hm) ha) hb
  rw [h, decide_eq_true h1, decide_eq_true h2, decide_eq_true h4] at this
  simpa using this
def full (top : Nat) : Nat → Nat → List Nat
  | 0, _ => []
  | f + 1, a => if a = 12 then [12] else a :: full top f (nx top a)
def goalS (top : Nat) : List Nat := (List.range 13).filter fun i => fq i ≤ top
theorem full_goal : ([3, 4, 5, 6].all fun top => full top 13 0 == goalS top) = true := by decide +kernel

theorem full_of {top : Nat} (h3 : 3 ≤ top) (h6 : top ≤ 6) : ∀ (r : List Nat) (a f : Nat), Ch (a :: r) → (a :: r).getLast? = some 12 → (∀ c ∈ a :: r, fq c ≤ top ∧ c ≤ 12) → (∀ j c d, (a :: r)[j]? = some c → (a :: r)[j + 1]? = some d → top < fq c + fq d) → r.length < f → a :: r = full top f a
  | [], a, f + 1, _, hl, _, _, _ => by
    simp at hl
    subst hl
    simp [full]
  | b :: r, a, f + 1, hc, hl, hq, hs, hf => by
    have hab := nb_lt hc.1
    have e : b = nx top a := nx_ok h3 h6 (hq a (by simp)).2 (hq b (by simp)).2 hc.1 (hq a (by simp)).1 (hq b (by simp)).1 (hs 0 a b rfl rfl)
    have ih := full_of h3 h6 r b f hc.2 (by simpa using hl) (fun c hc => hq c (List.mem_cons_of_mem _ hc)) (fun j c d h1 h2 => hs (j + 1) c d (by simpa using h1) (by simpa using h2)) (by simp at hf; omega)
    have hne : a ≠ 12 := by omega
    show a :: b :: r = if a = 12 then [12] else a :: full top f (nx top a)
    rw [if_neg hne, ← e, ih]
theorem asc_len : ∀ {S : List Nat} {lo : Nat}, S.Pairwise (· < ·) → (∀ a ∈ S, lo ≤ a ∧ a ≤ 12) → S.length + lo ≤ 13 ∨ S = []
  | [], _, _, _ => .inr rfl
  | a :: r, lo, hp, h => by
    rw [List.pairwise_cons] at hp
    have ha := h a (by simp)
    rcases asc_len (S := r) (lo := a + 1) hp.2 (fun c hc => ⟨hp.1 c hc, (h c (List.mem_cons_of_mem _ hc)).2⟩) with h1 | h1
    · left; simp; omega
    · subst h1; left; simp; omega
theorem inv_len {top i : Nat} {S : List Nat} (I : Inv top i S) : i + 2 ≤ 13 := by
  have := I.len
  rcases asc_len (lo := 0) I.asc (fun a ha => ⟨Nat.zero_le _, (I.qt a ha).2⟩) with h | h
  · omega
  · rw [h] at this; simp at this
theorem inv_end {top i : Nat} {S : List Nat} (I : Inv top i S) (h3 : 3 ≤ top) (h6 : top ≤ 6) (hs : ∀ j c d, S[j]? = some c → S[j + 1]? = some d → top < fq c + fq d) : S = goalS top := by
  have hl := inv_len I
  have hlen := I.len
  cases S with
  | nil => simp at hlen
  | cons a r =>
    have h0 := I.hd
    simp at h0 hlen
    subst h0
    have hm : top ∈ [3, 4, 5, 6] := by
      have : top = 3 ∨ top = 4 ∨ top = 5 ∨ top = 6 := by omega
      rcases this with rfl | rfl | rfl | rfl <;> simp
    have e := List.all_eq_true.mp full_goal top hm
    rw [beq_iff_eq] at e
    rw [← e]
    exact full_of h3 h6 r 0 13 I.ch I.last I.qt hs (by omega)
theorem map_ins {α : Type} (S : List Nat) (k m : Nat) (f : Nat → α) : (insAt S k m).map f = insAt (S.map f) k (f m) := by
  unfold insAt; simp [List.map_take, List.map_drop]
end Mine
end
-- part L2
section
set_option maxRecDepth 100000
set_option linter.unusedVariables false
open PySem
namespace Mine

theorem sapp (a b : Str) : (a ++ b).cps.toList = a.cps.toList ++ b.cps.toList := by
  show (Str.append a b).cps.toList = _
  unfold Str.append; simp
theorem sl_cps (l : List Nat) : (sl l).cps.toList = l := by unfold sl; simp
theorem sl_self (x : Str) : sl x.cps.toList = x := by unfold sl; simp
theorem sl_app (a b : List Nat) : sl a ++ sl b = sl (a ++ b) := by
  show Str.append _ _ = _
  unfold Str.append sl; simp
theorem J_cons (x : Str) (xs : List Str) : J (x :: xs) = x.cps.toList ++ J xs := by
  first | rfl | (unfold J; simp) | simp [J]
theorem J_nil : J [] = [] := by first | rfl | (unfold J; simp) | simp [J]
theorem wr_cons (p d : Str) (b : Bool) (bs : List Bool) : wr p d (b :: bs) = (if b then d else p).cps.toList ++ wr p d bs := by
  unfold wr; rw [List.map_cons, J_cons]
theorem wr_nil (p d : Str) : wr p d [] = [] := by unfold wr; rw [List.map_nil, J_nil]
theorem wr_app (p d : Str) : ∀ (a b : List Bool), wr p d (a ++ b) = wr p d a ++ wr p d b
  | [], b => by rw [wr_nil]; rfl
  | x :: a, b => by rw [List.cons_append, wr_cons, wr_cons, wr_app p d a b, List.append_assoc]

/-- rows: a body without line ends, an end -/
structure Rows (plain dotted : Str) (bp bd ep ed : List Nat) : Prop where
  p : plain.cps.toList = bp ++ ep
  d : dotted.cps.toList = bd ++ ed
  hep : ep = [10] ∨ ep = [13] ∨ ep = [13, 10]
  hed : ed = [10] ∨ ed = [13] ∨ ed = [13, 10]
  bpc : ∀ c ∈ bp, c ≠ 10 ∧ c ≠ 13
  bdc : ∀ c ∈ bd, c ≠ 10 ∧ c ≠ 13
  bp0 : ∃ c r, bp = c :: r ∧ c < 46
  bd0 : ∃ r, bd = 46 :: r
  lp : bp.length ≤ 4
  ld : bd.length ≤ 4

/-- rows of bodies, all ended alike -/
def W (bp bd : List Nat) (bs : List Bool) : List Nat := bs.flatMap fun b => (if b then bd else bp) ++ [13, 10]
theorem W_cons (bp bd : List Nat) (b : Bool) (bs : List Bool) : W bp bd (b :: bs) = (if b then bd else bp) ++ 13 :: 10 :: W bp bd bs := by
  unfold W; rw [List.flatMap_cons]; simp

theorem eols_body : ∀ (b r : List Nat), (∀ c ∈ b, c ≠ 10 ∧ c ≠ 13) → eols (b ++ r) = b ++ eols r
  | [], r, _ => rfl
  | c :: b, r, h => by
    have hc := h c (by simp)
    rw [List.cons_append, eols.eq_3 c (b ++ r) (fun r' a _ => hc.2 a), if_neg (by omega), eols_body b r fun d hd => h d (List.mem_cons_of_mem _ hd)]; rfl
theorem eols_end {e r : List Nat} (he : e = [10] ∨ e = [13] ∨ e = [13, 10]) (hr : r.head? ≠ some 10) : eols (e ++ r) = 13 :: 10 :: eols r := by
  rcases he with rfl | rfl | rfl
  · show eols (10 :: r) = _
    rw [eols.eq_3 10 r (fun r' a _ => by omega), if_pos (by omega)]
  · show eols (13 :: r) = _
    rw [eols.eq_3 13 r (fun r' _ b => by subst b; exact hr rfl), if_pos (by omega)]
  · show eols (13 :: 10 :: r) = _
    rw [eols.eq_2]
theorem dots_body : ∀ (b r : List Nat), (∀ c ∈ b, c ≠ 10 ∧ c ≠ 13) → dots false (b ++ 13 :: 10 :: r) = b ++ 13 :: 10 :: dots true r
  | [], r, _ => by simp [dots]
  | c :: b, r, h => by
    have hc := h c (by simp)
    have e : (c == 10) = false := by simpa using hc.1
    rw [List.cons_append, dots, if_neg (by simp), e, dots_body b r fun d hd => h d (List.mem_cons_of_mem _ hd)]; rfl
theorem crlfs_body : ∀ (b r : List Nat), (∀ c ∈ b, c ≠ 10 ∧ c ≠ 13) → crlfs (b ++ 13 :: 10 :: r) = 1 + crlfs r
  | [], r, _ => by rw [List.nil_append, crlfs.eq_2]
  | c :: b, r, h => by
    have hc := h c (by simp)
    rw [List.cons_append, crlfs_skip (fun q => hc.2 q.1), crlfs_body b r fun d hd => h d (List.mem_cons_of_mem _ hd)]

section
variable {plain dotted : Str} {bp bd ep ed : List Nat}
theorem wr_head (R : Rows plain dotted bp bd ep ed) : ∀ bs, (wr plain dotted bs).head? ≠ some 10
  | [] => by rw [wr_nil]; simp
  | b :: bs => by
    obtain ⟨c, r, e, hc⟩ := R.bp0
    obtain ⟨r', e'⟩ := R.bd0
    rw [wr_cons]
    cases b with
    | false => have := R.bpc c (by simp [e]); simp [R.p, e]; omega
    | true => simp [R.d, e']
theorem eols_wr (R : Rows plain dotted bp bd ep ed) : ∀ bs, eols (wr plain dotted bs) = W bp bd bs
  | [] => by rw [wr_nil]; rfl
  | b :: bs => by
    rw [wr_cons, W_cons]
    cases b with
    | false =>
      simp only [Bool.false_eq_true, if_false]
      rw [R.p, List.append_assoc, eols_body _ _ R.bpc, eols_end R.hep (wr_head R bs), eols_wr R bs]
    | true =>
      simp only [if_true]
      rw [R.d, List.append_assoc, eols_body _ _ R.bdc, eols_end R.hed (wr_head R bs), eols_wr R bs]
theorem dots_W (R : Rows plain dotted bp bd ep ed) : ∀ bs, dots true (W bp bd bs) = W bp (46 :: bd) bs
  | [] => by simp [W, dots]
  | b :: bs => by
    rw [W_cons, W_cons]
    cases b with
    | false =>
      simp only [Bool.false_eq_true, if_false]
      obtain ⟨c, r, e, hc⟩ := R.bp0
      have hb := R.bpc
      rw [e] at hb ⊢
      have h1 := hb c (by simp)
      have e1 : (c == 10) = false := by simpa using h1.1
      rw [List.cons_append, dots, if_neg (by omega), e1, dots_body r _ (fun d hd => hb d (List.mem_cons_of_mem _ hd)), ← e, dots_W R bs, e]; rfl
    | true =>
      simp only [if_true]
      obtain ⟨r, e⟩ := R.bd0
      have hb := R.bdc
      rw [e] at hb ⊢
      rw [List.cons_append, dots, if_pos ⟨rfl, rfl⟩, dots_body r _ (fun d hd => hb d (List.mem_cons_of_mem _ hd)), ← e, dots_W R bs, e]; rfl
theorem crlfs_W (R : Rows plain dotted bp bd ep ed) : ∀ bs, crlfs (W bp bd bs) = bs.length
  | [] => rfl
  | b :: bs => by
    rw [W_cons]
    cases b with
    | false => simp only [Bool.false_eq_true, if_false]; rw [crlfs_body _ _ R.bpc, crlfs_W R bs, List.length_cons]; omega
    | true => simp only [if_true]; rw [crlfs_body _ _ R.bdc, crlfs_W R bs, List.length_cons]; omega
theorem len_W (bp bd : List Nat) : ∀ bs, (W bp (46 :: bd) bs).length = (W bp bd bs).length + bs.count true
  | [] => rfl
  | b :: bs => by
    rw [W_cons, W_cons]
    have := len_W bp bd bs
    cases b <;> simp <;> omega
theorem W_le {bp bd : List Nat} (h1 : bp.length ≤ 5) (h2 : bd.length ≤ 5) : ∀ bs, (W bp bd bs).length ≤ 7 * bs.length
  | [] => by simp [W]
  | b :: bs => by
    rw [W_cons]
    have := W_le h1 h2 bs
    cases b <;> simp <;> omega
theorem wr_le (R : Rows plain dotted bp bd ep ed) : ∀ bs, (wr plain dotted bs).length ≤ 6 * bs.length
  | [] => by rw [wr_nil]; simp
  | b :: bs => by
    rw [wr_cons]
    have := wr_le R bs
    have h1 := R.lp
    have h2 := R.ld
    have e1 : ep.length ≤ 2 := by rcases R.hep with h | h | h <;> rw [h] <;> decide
    have e2 : ed.length ≤ 2 := by rcases R.hed with h | h | h <;> rw [h] <;> decide
    cases b with
    | false => simp [R.p]; omega
    | true => simp [R.d]; omega

/-- what _law_weighed makes of rows -/
theorem weigh (R : Rows plain dotted bp bd ep ed) (bs : List Bool) :
    ((dots true (eols (sl (wr plain dotted bs)).cps.toList)).length - (eols (sl (wr plain dotted bs)).cps.toList).length : Int) = (bs.count true : Int) ∧ crlfs (eols (sl (wr plain dotted bs)).cps.toList) = bs.length := by
  rw [sl_cps, eols_wr R, dots_W R, crlfs_W R, len_W]
  exact ⟨by omega, rfl⟩
/-- quotedata of rows -/
theorem quoted (R : Rows plain dotted bp bd ep ed) (bs : List Bool) : dots true (eols (sl (wr plain dotted bs)).cps.toList) = W bp (46 :: bd) bs := by
  rw [sl_cps, eols_wr R, dots_W R]
theorem wr_W {p d : Str} {bp bd : List Nat} (hp : p.cps.toList = bp ++ [13, 10]) (hd : d.cps.toList = bd ++ [13, 10]) : ∀ bs, wr p d bs = W bp bd bs
  | [] => by rw [wr_nil]; rfl
  | b :: bs => by
    rw [wr_cons, W_cons, wr_W hp hd bs]
    cases b <;> simp [hp, hd]
end

/-- the drawn rows -/
def frontB (n : Nat) : List Nat := (pick frontS (n / 12 % 4)).cps.toList ++ (pick tailS (n / 3 % 4)).cps.toList
def bodyB (bp : List Nat) : Bool := (bp.all fun c => c != 10 && c != 13) && decide (bp.length ≤ 4)
theorem body_all : ((List.range 4).all fun i => (List.range 4).all fun j => bodyB ((pick frontS i).cps.toList ++ (pick tailS j).cps.toList) && bodyB (46 :: (pick tailS j).cps.toList) && (match (pick frontS i).cps.toList with | c :: _ => decide (c < 46) | [] => false)) = true := by decide +kernel
theorem ends_all : ∀ i, i < 3 → (pick endsS i).cps.toList = [10] ∨ (pick endsS i).cps.toList = [13] ∨ (pick endsS i).cps.toList = [13, 10] := by
  intro i h
  match i, h with
  | 0, _ => exact .inl (by decide)
  | 1, _ => exact .inr (.inl (by decide))
  | 2, _ => exact .inr (.inr (by decide))
def plainS (n : Nat) : Str := bareS n ++ pick endsS (n % 3)
def dottedS (n : Nat) : Str := ledS n ++ pick endsS (n / 48 % 3)
theorem rows_drawn (n : Nat) : Rows (plainS n) (dottedS n) (bareS n).cps.toList (ledS n).cps.toList (pick endsS (n % 3)).cps.toList (pick endsS (n / 48 % 3)).cps.toList := by
  have h := List.all_eq_true.mp (List.all_eq_true.mp body_all (n / 12 % 4) (List.mem_range.mpr (by omega))) (n / 3 % 4) (List.mem_range.mpr (by omega))
  rw [Bool.and_eq_true, Bool.and_eq_true] at h
  obtain ⟨⟨h1, h2⟩, h3⟩ := h
  have e1 : (bareS n).cps.toList = (pick frontS (n / 12 % 4)).cps.toList ++ (pick tailS (n / 3 % 4)).cps.toList := sapp _ _
  have e2 : (ledS n).cps.toList = 46 :: (pick tailS (n / 3 % 4)).cps.toList := sapp _ _
  unfold bodyB at h1 h2
  rw [← e1] at h1
  rw [← e2] at h2
  rw [Bool.and_eq_true, List.all_eq_true, decide_eq_true_eq] at h1 h2
  refine ⟨sapp _ _, sapp _ _, ends_all _ (by omega), ends_all _ (by omega), fun c hc => ?_, fun c hc => ?_, ?_, ⟨_, e2⟩, h1.2, h2.2⟩
  · simpa using h1.1 c hc
  · simpa using h2.1 c hc
  · rw [e1]
    cases q : (pick frontS (n / 12 % 4)).cps.toList with
    | nil => rw [q] at h3; cases h3
    | cons c r => rw [q] at h3; exact ⟨c, _, rfl, by simpa using h3⟩
end Mine
end
-- part F10
section
open PySem PySem.W PyProof.Rows
set_option maxRecDepth 100000
set_option linter.unusedVariables false
namespace Mine
theorem fill_F10 : (PySem.Challenge.rw_pe0134_01.most = PySem.Challenge.rw_pe0134_01.most) ∧ (Mine.hd.heap_39 = Mine.hd.heap_39) := by
  k_fill
  exact ⟨rfl, rfl⟩

local macro_rules | `(tactic| walk_at "ev") => `(tactic| first
  | ((with_reducible show Ev _ _ _ _ _ _ (Expr.Name _ _) _); exact ev_name rfl)
  | with_reducible exact ev_int
  | with_reducible exact ev_flt
  | with_reducible exact ev_str
  | with_reducible exact ev_none
  | with_reducible exact ev_bool
  | ((with_reducible show Ev _ _ _ _ _ _ (Expr.BinOp _ _ _ _) _); exact ev_bin (by walk_at "ev") (by walk_at "ev") (by walk_at "bop"))
  | ((with_reducible show Ev _ _ _ _ _ _ (Expr.Tuple _ _ _) _); exact ev_tuple (by walk_at "evs"))
  | ((with_reducible show Ev _ _ _ _ _ _ (Expr.List _ _) _); exact ev_list (by walk_at "evs")))
local macro_rules | `(tactic| walk_at "evs") => `(tactic| first
  | with_reducible exact evs_nil
  | ((with_reducible show Evs _ _ _ _ _ _ _ (_ :: _) _); exact evs_cons (by walk_at "ev") (by walk_at "evs")))
local macro_rules | `(tactic| walk_at "bop") => `(tactic| first
  | with_reducible exact bop_add
  | with_reducible exact bop_sub
  | with_reducible exact bop_fadd
  | with_reducible exact bop_fsub
  | ((with_reducible show Bop _ _ _ _ .Mod (.int _) _ _); exact bop_mod (by decide))
  | ((with_reducible show Bop _ _ _ _ .FloorDiv (.int _) _ _); exact bop_fdiv (by decide) (by decide))
  | ((with_reducible show Bop _ _ _ _ .Div (.flt _) _ _); refine bop_fdivf ?_; first | with_reducible assumption | decide +kernel)
  | ((with_reducible show Bop _ _ _ _ .Mod (.flt _) _ _); exact bop_fmod (by decide +kernel)))

section
variable {prog : Program} {w : World} {g : Heap} {N N' : Addr → Prop} {A : Around} {env : Env} {oc : List Addr} {ρ ρ' : List (Str × D)} {s₀ s : Shared} {E : Value → Shared → Prop}

/-- insort_left(x, e2, key=ke) -/
theorem st_insort (c : Cx (Mine.hd.heap_39 w.params) g) {f e2 ke : Expr} {x : Str} {px kp pos p : Pos} {rest : List Stmt} {Q : Flow → Shared → Prop} {S : Addr} {xs : List Value} {l : List D} {d : D} {xf : UInt64} (kd : Nat → D) {k : Nat}
    (F : Frm g N s₀ env oc ρ s) (hx : ρ.lookup x = some (.val (.ref S))) (hNS : N S) (hS0 : s₀.heap.get? S = none)
    (hp : s.heap.PlainList S xs.toArray) (hr : Reps N s.heap l xs) (V : View g N' env ρ' s) (h2 : Ev prog w g A env ρ' e2 d)
    (hflat : ∀ h v, h.PlainList S xs.toArray → Rep N' h d v → Rep N h d v)
    (hz : l.length ≤ sizeLine) (hkl : k ≤ l.length) (hkx : Fn prog w g 3 (.ref 124) [d] [] (.flt xf)) (hkey : ∀ i d, l[i]? = some d → Fn prog w g 3 (.ref 124) [d] [] (kd i))
    (hlt : ∀ i A, i < l.length → Cop prog w g A .Lt (kd i) (.flt xf) (decide (i < k))) (R : Room 6 A)
    (hf : Ev prog w g A env ρ f (.val (.ref 49))) (hke : Ev prog w g A env ρ ke (.val (.ref 124)))
    (h : ∀ s' xs', Frm g N s₀ env oc ρ s' → s'.heap.PlainList S (List.toArray xs') → Reps N s'.heap (insAt l k d) xs' → Run (fun b => b = S ∨ Own env oc b) s s' → wpAny (model prog w) A (execs rest env) Q E s')
    (hn : ∀ env, eval (.Call f [.Name x px, e2] [⟨some (Str.ofString "key"), ke, kp⟩] pos) env = (do callWith pos (← eval f env) [] (backTo pos (starEach [.Name x px, e2] env)) (backToKw pos (keywordEach [⟨some (Str.ofString "key"), ke, kp⟩] env))) := by intro _; rfl)
    (hplain : ∀ env, ((backTo pos (starEach [.Name x px, e2] env)).any (·.1) || (backToKw pos (keywordEach [⟨some (Str.ofString "key"), ke, kp⟩] env)).any (·.1.isNone)) = false := by intro _; rfl)
    (he : ∀ env, starEach [.Name x px, e2] env = (false, eval (.Name x px) env) :: starEach [e2] env := by intro _; rfl)
    (he2 : ∀ env, starEach [e2] env = (false, eval e2 env) :: starEach [] env := by intro _; rfl)
    (hs : swapsWith (.Call f [.Name x px, e2] [⟨some (Str.ofString "key"), ke, kp⟩] pos) none p.line env = pure false := by rfl)
    (hdb : (x == ("__debug__" : Str)) = false := by decide) :
    wpAny (model prog w) A (execs (.Expr (.Call f [.Name x px, e2] [⟨some (Str.ofString "key"), ke, kp⟩] pos) p :: rest) env) Q E s := by
  refine st_expr F ?_ hs
  rw [hn]
  refine wpAny_bind (wpAny_mono (hf N s F.view E) (fun fv s₁ h₁ => ?_) fun _ _ x => x)
  have := h₁.1.val_inv; subst this
  have F₁ := F.keeps h₁.2
  have V₁ := V.keeps h₁.2
  have hkw := evk_one (pos := pos) (x := Str.ofString "key") (p := kp) hke
  refine callWith_KW (c.kx.keeps V₁.base) (by k_is) hkw.2.1 ?_ (hplain env) (he env)
  refine wpAny_items_cons (wpAny_mono ((ev_name hx hdb) N s₁ F₁.view E) (fun v1 s₂ h₂ => ?_) fun _ _ x => x) (he env)
  have := h₂.1.val_inv; subst this
  have F₂ := F₁.keeps h₂.2
  have V₂ := V₁.keeps h₂.2
  refine wpAny_mono ((evs_cons h2 evs_nil he2) N' s₂ V₂ E) (fun vs s₃ h₃ => ?_) fun _ _ x => x
  obtain ⟨v, ws, rfl, rv, rr⟩ := h₃.1.cons_inv
  have := rr.nil_inv; subst this
  have F₃ := F₂.keeps h₃.2
  refine wpAny_mono (hkw.2.2 N s₃ F₃.view E) (fun ks' s₄ h₄ => ?_) fun _ _ x => x
  have F₄ := F₃.keeps h₄.2
  refine ⟨c.kx.keeps F₄.base, ?_⟩
  rw [hkw.1]
  obtain ⟨kv, us, rfl, rk, ru⟩ := h₄.1.cons_inv
  have := ru.nil_inv; subst this
  have := rk.val_inv; subst this
  have k04 : Keeps s s₄ := ktrans h₁.2 (ktrans h₂.2 (ktrans h₃.2 h₄.2))
  have p₃ : s₃.heap.PlainList S xs.toArray := hp.at fun o e => kpOf (ktrans h₁.2 (ktrans h₂.2 h₃.2)) _ o e
  have p₄ : s₄.heap.PlainList S xs.toArray := hp.at fun o e => kpOf k04 _ o e
  have rv₄ : Rep N s₄.heap d v := (hflat _ _ p₃ rv).kp (kpOf h₄.2)
  have r₄ : Reps N s₄.heap l xs := hr.kp (kpOf k04)
  refine wpAny_mono (insort c kd hz hkl hkx hkey hlt A R N s₄ S xs v F₄.base F₄.view.old hNS p₄ r₄ rv₄ E) (fun r s₅ h₅ => ?_) fun _ _ x => x
  obtain ⟨rfl, p₅, k₅⟩ := h₅
  refine ⟨rfl, ?_⟩
  have ks : KpS N s₄.heap s₅.heap := fun b o nb _ e => k₅.kp (fun q => nb (q ▸ hNS)) e
  have F₅ : Frm g N s₀ env oc ρ s₅ := F₄.mut k₅ (fun b hb => ⟨hb ▸ hS0, hb ▸ hNS, fun o ho => by
    subst hb
    obtain ⟨n, e⟩ := p₄
    rw [ho] at e; cases e
    exact .inr ⟨_, _, rfl⟩⟩) ⟨fun a na => by
      by_cases q : a = S
      · subst q; obtain ⟨n, e⟩ := p₅; exact ⟨_, e⟩
      · obtain ⟨o, e⟩ := F₄.view.old.1 a na; exact ⟨o, k₅.kp q e⟩, Nat.lt_of_lt_of_le F₄.view.old.2 k₅.tk⟩
  exact h s₅ _ F₅ p₅ (Reps.ins k (r₄.kps ks) (rv₄.kps ks)) (Run.trans (Run.of k04) (k₅.mono fun b q => .inl q))

/-- x = [] -/
theorem st_newlist {x : Str} {p q pos : Pos} {rest : List Stmt} {Q : Flow → Shared → Prop} (F : Frm g N s₀ env oc ρ s) (hx : Stor env oc x)
    (h : ∀ s' S, ¬ N S → s₀.heap.get? S = none → s'.heap.PlainList S ([] : List Value).toArray → Frm g (fun b => N b ∨ b = S) s₀ env oc ((x, .val (.ref S)) :: ρ) s' → wpAny (model prog w) A (execs rest env) Q E s')
    (hs : swapsWith (.List [] pos) (some (.Name x p)) q.line env = pure false := by rfl) :
    wpAny (model prog w) A (execs (.Assign [.Name x p] (.List [] pos) q :: rest) env) Q E s := by
  refine wpAny_execs_cons (wpAny_Assign_Name ?_ hs)
  refine wpAny_List (wpAny_mono (evs_nil N s F.view E) (fun vs s₁ h₁ => ?_) fun _ _ x => x)
  have := h₁.1.nil_inv; subst this
  have F₁ := F.keeps h₁.2
  have nS : ¬ N s₁.heap.objs.size := F₁.view.old.new
  have nS0 : s₀.heap.get? s₁.heap.objs.size = none := by
    cases q : s₀.heap.get? s₁.heap.objs.size with
    | none => rfl
    | some o => exact absurd (Heap.lt_size (kpOf F₁.same _ _ q)) (Nat.lt_irrefl _)
  refine ⟨Nat.zero_le _, ?_⟩
  generalize hS : s₁.heap.objs.size = S at nS nS0
  have kk : Keeps s₁ { s₁ with heap := s₁.heap.push { cls := .type "list", data := .seq ([] : List Value).toArray } } := kpush _ _
  have hS1 : s₁.heap.get? S = none := Heap.get?_none_of_le (Nat.le_of_eq hS)
  have F₂ := F₁.keeps kk
  have F₃ : Frm g (fun b => N b ∨ b = S) s₀ env oc ρ { s₁ with heap := s₁.heap.push { cls := .type "list", data := .seq ([] : List Value).toArray } } := by
    have hN : ∀ b o, ¬ N b → s₁.heap.get? b = some o → ¬ (N b ∨ b = S) := fun b o nb e q => by
      rcases q with q | q
      · exact nb q
      · subst q; rw [hS1] at e; cases e
    refine ⟨F₂.same, F₂.ns, F₂.new, F₂.cel, F₂.inj, F₂.ground, F₂.view.base, ⟨?_, F₂.view.old.2⟩, F₂.view.fn, F₂.view.gl, F₂.view.bu, F₂.view.cex, fun x d e => ?_⟩
    · rintro a (na | rfl)
      · exact F₂.view.old.1 a na
      · rw [← hS]; exact ⟨_, Heap.get?_push_size _ rfl⟩
    · rcases F₁.view.vars x d e with ⟨a, m', u, n', e', r'⟩ | ⟨a, c, u, e1, e2, e3⟩
      · exact .inl ⟨a, m', u, n'.keeps (kpOf kk), e', Rep.mono (kpOf kk).s hN _ _ r'⟩
      · exact .inr ⟨a, c, u, e1, e2.keeps (kpOf kk), Rep.mono (kpOf kk).s hN _ _ e3⟩
  have hp : (s₁.heap.push { cls := .type "list", data := .seq ([] : List Value).toArray }).PlainList S ([] : List Value).toArray := ⟨0, by rw [← hS]; exact Heap.get?_push_size _ rfl⟩
  refine store_frm F₃ (Rep.val _) hx fun s' F' k => h s' S nS nS0 (hp.at fun o e => k.kp (F₃.notSeq (b := S) (o := o) e ?_) e) F'
  obtain ⟨n, e'⟩ := hp
  have : o = _ := Option.some.inj (Eq.trans (Eq.symm e) e')
  subst this
  exact ⟨_, _, rfl⟩

/-- the frame's list seen as data -/
theorem Frm.seeS {x : Str} {S : Addr} {xs : List Value} {l : List D} (F : Frm g N s₀ env oc ρ s) (hx : ρ.lookup x = some (.val (.ref S))) (hp : s.heap.PlainList S xs.toArray) (hr : Reps N s.heap l xs) :
    View g (fun b => N b ∧ b ≠ S) env ((x, .lst l) :: ρ) s :=
  (F.less (N' := fun b => N b ∧ b ≠ S) fun b q => q.1).view.retype hx (Rep.lst_of (fun q => q.2 rfl) hp.isList (hr.less fun b q => q.1))
/-- a flat tuple is no list -/
theorem flat3 {N : Addr → Prop} {S : Addr} {xs : List Value} {y : Str} {i j : Int} (h : Heap) (v : Value) (hp : h.PlainList S xs.toArray) (r : Rep (fun b => N b ∧ b ≠ S) h (.tup [.str y, .int i, .int j]) v) : Rep N h (.tup [.str y, .int i, .int j]) v := by
  obtain ⟨a, vs, rfl, na, ht, rv⟩ := r.tup_inv
  obtain ⟨v1, vs, rfl, r1, rv⟩ := rv.cons_inv
  obtain ⟨v2, vs, rfl, r2, rv⟩ := rv.cons_inv
  obtain ⟨v3, vs, rfl, r3, rv⟩ := rv.cons_inv
  have := rv.nil_inv; subst this
  obtain ⟨t1, rfl⟩ := r1.str_inv
  obtain ⟨t2, rfl⟩ := r2.int_inv
  obtain ⟨t3, rfl⟩ := r3.int_inv
  refine Rep.tup_of (fun q => na ⟨q, fun e => ?_⟩) ht (Reps.cons (Rep.str _ _) (Reps.cons (Rep.int _ _) (Reps.cons (Rep.int _ _) Reps.nil)))
  subst e
  obtain ⟨n, e⟩ := hp
  obtain ⟨o, ho, hc, _⟩ := ht
  rw [e] at ho; cases ho
  simp at hc
end
end Mine
end
-- part F11
section
open PySem PySem.W PyProof.Rows
set_option maxRecDepth 100000
set_option linter.unusedVariables false
namespace Mine
theorem fill_F11 : (PySem.Challenge.rw_pe0134_01.most = PySem.Challenge.rw_pe0134_01.most) ∧ (Mine.hd.heap_39 = Mine.hd.heap_39) := by
  k_fill
  exact ⟨rfl, rfl⟩

local macro_rules | `(tactic| walk_at "ev") => `(tactic| first
  | ((with_reducible show Ev _ _ _ _ _ _ (Expr.Name _ _) _); exact ev_name rfl)
  | with_reducible exact ev_int
  | with_reducible exact ev_flt
  | with_reducible exact ev_str
  | with_reducible exact ev_none
  | with_reducible exact ev_bool
  | ((with_reducible show Ev _ _ _ _ _ _ (Expr.BinOp _ _ _ _) _); exact ev_bin (by walk_at "ev") (by walk_at "ev") (by walk_at "bop"))
  | ((with_reducible show Ev _ _ _ _ _ _ (Expr.Tuple _ _ _) _); exact ev_tuple (by walk_at "evs"))
  | ((with_reducible show Ev _ _ _ _ _ _ (Expr.List _ _) _); exact ev_list (by walk_at "evs")))
local macro_rules | `(tactic| walk_at "evs") => `(tactic| first
  | with_reducible exact evs_nil
  | ((with_reducible show Evs _ _ _ _ _ _ _ (_ :: _) _); exact evs_cons (by walk_at "ev") (by walk_at "evs")))
local macro_rules | `(tactic| walk_at "bop") => `(tactic| first
  | with_reducible exact bop_add
  | with_reducible exact bop_sub
  | with_reducible exact bop_fadd
  | with_reducible exact bop_fsub
  | ((with_reducible show Bop _ _ _ _ .Mod (.int _) _ _); exact bop_mod (by decide))
  | ((with_reducible show Bop _ _ _ _ .FloorDiv (.int _) _ _); exact bop_fdiv (by decide) (by decide))
  | ((with_reducible show Bop _ _ _ _ .Div (.flt _) _ _); refine bop_fdivf ?_; first | with_reducible assumption | decide +kernel)
  | ((with_reducible show Bop _ _ _ _ .Mod (.flt _) _ _); exact bop_fmod (by decide +kernel)))

section
variable {plain dotted : Str}
def item (plain dotted : Str) (i : Nat) : D := .tup [.str (sl (wr plain dotted (word i))), .int (fp i), .int (fq i)]
abbrev shr (i : Nat) : UInt64 := fr (fp i) (fq i)
theorem shr_all : ((List.range 13).all fun a => (List.range 13).all fun b => (Float64.cmp (shr a) (shr b) == some Ordering.lt) == decide (a < b)) = true := by decide +kernel
theorem shr_lt {a b : Nat} (ha : a ≤ 12) (hb : b ≤ 12) : (Float64.cmp (shr a) (shr b) == some Ordering.lt) = decide (a < b) := by
  have := all13 (all13 shr_all ha) hb
  exact beq_iff_eq.mp this

/-- the places where neighbours may be joined -/
def spF (S : List Nat) (top : Nat) : D → List D
  | .int k => if fq (S.getD (k.toNat - 1) 0) + fq (S.getD k.toNat 0) ≤ top then [.int k] else []
  | _ => []
def spots (S : List Nat) (top : Nat) : List Int := (List.range (S.length - 1)).flatMap fun i => if fq (S.getD i 0) + fq (S.getD (i + 1) 0) ≤ top then [1 + (i : Int)] else []
theorem spots_eq (S : List Nat) (top : Nat) : ((List.range (S.length - 1)).map fun i => D.int (1 + (i : Nat))).flatMap (spF S top) = (spots S top).map .int := by
  unfold spots
  generalize List.range (S.length - 1) = r
  induction r with
  | nil => rfl
  | cons i r ih =>
    rw [List.map_cons, List.flatMap_cons, List.flatMap_cons, List.map_append, ih]
    congr 1
    unfold spF
    simp only
    rw [show (1 + (i : Int)).toNat = i + 1 by omega, show i + 1 - 1 = i by omega]
    split <;> rfl
theorem spots_len (S : List Nat) (top : Nat) : (spots S top).length ≤ S.length := by
  unfold spots
  have : ∀ r : List Nat, (r.flatMap fun i => if fq (S.getD i 0) + fq (S.getD (i + 1) 0) ≤ top then [1 + (i : Int)] else []).length ≤ r.length := by
    intro r
    induction r with
    | nil => simp
    | cons i r ih =>
      rw [List.flatMap_cons, List.length_append, List.length_cons]
      have : ∀ (p : Prop) [Decidable p], (if p then [1 + (i : Int)] else []).length ≤ 1 := fun p _ => by split <;> simp
      have := this (fq (S.getD i 0) + fq (S.getD (i + 1) 0) ≤ top)
      omega
  have h := this (List.range (S.length - 1))
  rw [List.length_range] at h; omega
theorem getD_at {S : List Nat} {i a : Nat} (h : S[i]? = some a) : S.getD i 0 = a := by rw [List.getD_eq_getElem?_getD, h]; rfl
theorem spots_mem {S : List Nat} {top : Nat} {k : Int} (h : k ∈ spots S top) : ∃ i a b, k = ((i + 1 : Nat) : Int) ∧ S[i]? = some a ∧ S[i + 1]? = some b ∧ fq a + fq b ≤ top := by
  unfold spots at h
  obtain ⟨i, hi, h⟩ := List.mem_flatMap.mp h
  have hi' := List.mem_range.mp hi
  split at h
  · rename_i hc
    rw [getD_at (show S[i]? = some S[i] by simp), getD_at (show S[i + 1]? = some S[i + 1] by simp)] at hc
    refine ⟨i, S[i], S[i + 1], ?_, by simp, by simp, hc⟩
    have := List.mem_singleton.mp h
    omega
  · cases h
theorem spots_nil {S : List Nat} {top : Nat} (h : spots S top = []) : ∀ j c d, S[j]? = some c → S[j + 1]? = some d → top < fq c + fq d := by
  intro j c d h1 h2
  have hj : j + 1 < S.length := (List.getElem?_eq_some_iff.mp h2).1
  have h3 := List.flatMap_eq_nil_iff.mp h j (List.mem_range.mpr (by omega))
  rw [getD_at h1, getD_at h2] at h3
  split at h3
  · cases h3
  · omega
end

section
variable {prog : Program} {w : World} {g : Heap}
variable {plain dotted : Str} {bp bd ep ed : List Nat}
theorem fn_weigh_rows (c : Cx (Mine.hd.heap_39 w.params) g) (RW : Rows plain dotted bp bd ep ed) (bs : List Bool) (hb : bs.length ≤ 1000) :
    Fn prog w g 2 (.ref 110) [.str (sl (wr plain dotted bs))] [] (.tup [.str (sl (wr plain dotted bs)), .int (bs.count true : Nat), .int bs.length]) := by
  have h1 := wr_le RW bs
  have h2 := weigh RW bs
  have h3 : (sl (wr plain dotted bs)).cps.size = (wr plain dotted bs).length := by unfold sl; simp
  have h4 : (dots true (eols (sl (wr plain dotted bs)).cps.toList)).length ≤ 4000000 := by
    rw [quoted RW]
    have := W_le (bp := bp) (bd := 46 :: bd) (by have := RW.lp; omega) (by have := RW.ld; simp; omega) bs
    omega
  have := fn_weighed (prog := prog) c (x := sl (wr plain dotted bs)) (by omega) h4
  rw [h2.1, h2.2] at this
  exact this
theorem fn_weigh_item (c : Cx (Mine.hd.heap_39 w.params) g) (RW : Rows plain dotted bp bd ep ed) {i : Nat} (hi : i ≤ 12) :
    Fn prog w g 2 (.ref 110) [.str (sl (wr plain dotted (word i)))] [] (item plain dotted i) := by
  obtain ⟨h1, h2, h3, h4, h5⟩ := word_ok hi
  have := fn_weigh_rows (prog := prog) c RW (word i) (by omega)
  rw [h1, h2] at this
  exact this
theorem fn_share_item (c : Cx (Mine.hd.heap_39 w.params) g) {i : Nat} (hi : i ≤ 12) : Fn prog w g 3 (.ref 124) [item plain dotted i] [] (.flt (shr i)) := by
  obtain ⟨h1, h2, h3, h4, h5⟩ := word_ok hi
  exact fn_share c h3 (by omega) h5

set_option maxHeartbeats 1000000 in
theorem fn_joined (c : Cx (Mine.hd.heap_39 w.params) g) (RW : Rows plain dotted bp bd ep ed) {top : Nat} (h3 : 3 ≤ top) (h6 : top ≤ 6) {draws : List Int} (hd0 : draws ≠ []) (hdl : draws.length ≤ 1000) :
    Fn prog w g 7 (.ref 129) [.str plain, .str dotted, .int top, .lst (draws.map .int)] [] (.lst ((goalS top).map (item plain dotted))) := by
  intro A R N s vs kvs hs hN hv hk E
  have := hk.nil_inv; subst this
  have hv' := hv
  obtain ⟨v1, vs, rfl, _, hv⟩ := hv.cons_inv
  obtain ⟨v2, vs, rfl, _, hv⟩ := hv.cons_inv
  obtain ⟨v3, vs, rfl, _, hv⟩ := hv.cons_inv
  obtain ⟨v4, vs, rfl, _, hv⟩ := hv.cons_inv
  have := hv.nil_inv; subst this
  refine call_fn c (ρ := [(Str.ofString "plain", .str plain), (Str.ofString "dotted", .str dotted), (Str.ofString "top", .int top), (Str.ofString "draws", .lst (draws.map .int))]) hs hN (by k_is) (by k_is) R (BindsTo.of_eq rfl) hv' rfl (by decide +kernel) rfl rfl rfl rfl ?_
  intro s₁ env oc A' R' he f F
  have hsl : (4000000 : Nat) ≤ sizeLine := by decide
  have eP : sl (wr plain dotted (word 0)) = plain := by
    rw [show word 0 = [false] by decide, wr_cons, wr_nil]; simpa using sl_self plain
  have eD : sl (wr plain dotted (word 12)) = dotted := by
    rw [show word 12 = [true] by decide, wr_cons, wr_nil]; simpa using sl_self dotted
  have wP := fn_weigh_item (prog := prog) c RW (show 0 ≤ 12 by decide)
  have wD := fn_weigh_item (prog := prog) c RW (show 12 ≤ 12 by decide)
  rw [eP] at wP
  rw [eD] at wD
  refine st_newlist F (f.stor rfl) fun s S nS nS0 p F => ?_
  refine st_insort c (kd := fun _ => .flt 0) (l := []) (k := 0) (xf := shr 12) F rfl (.inr rfl) nS0 p Reps.nil (F.seeS (x := Str.ofString "shelf") rfl p Reps.nil) (ev_call c (ev_glob c (by k_is) (f.kind rfl)) (by k_is) (evs_cons (ev_name rfl) evs_nil) evk_nil wD (R'.le (by decide))) flat3 (Nat.zero_le _) (Nat.zero_le _)
    (fn_share_item c (by decide)) (fun i d h => by simp at h) (fun i A h => by simp at h) R' (ev_glob c (by k_is) (f.kind rfl)) (ev_glob c (by k_is) (f.kind rfl)) fun s xs F p r _ => ?_
  change Reps _ _ ([12].map (item plain dotted)) _ at r
  refine st_insort c (kd := fun _ => .flt (shr 12)) (l := [12].map (item plain dotted)) (k := 0) (xf := shr 0) F rfl (.inr rfl) nS0 p r (F.seeS (x := Str.ofString "shelf") rfl p r) (ev_call c (ev_glob c (by k_is) (f.kind rfl)) (by k_is) (evs_cons (ev_name rfl) evs_nil) evk_nil wP (R'.le (by decide))) flat3 (by show 1 ≤ _; omega) (Nat.zero_le _)
    (fn_share_item c (by decide)) (fun i d h => by
      match i, h with
      | 0, h => simp at h; subst h; exact fn_share_item c (by decide)
      | i + 1, h => simp at h) (fun i A h => by
      have h0 : i = 0 := by simpa using h
      subst h0
      have := cop_flt (prog := prog) (w := w) (g := g) (A := A) (a := shr 12) (b := shr 0)
      rw [shr_lt (by decide) (by decide)] at this
      exact this) R' (ev_glob c (by k_is) (f.kind rfl)) (ev_glob c (by k_is) (f.kind rfl)) fun s xs F p r _ => ?_
  change Reps _ _ ([0, 12].map (item plain dotted)) _ at r
  refine st_forS (P := fun i l => ∃ T, Inv top i T ∧ l = T.map (item plain dotted)) F (.inr rfl) p r ⟨_, inv0 (by omega), rfl⟩ nS0 (src_range1 R'.h (ev_blt c (by k_is) rfl (by decide) (f.kind rfl)) ev_int (by decide) (by decide)) ?_ (fun s l xs hP _ _ _ => ?_)
  · rintro i d hd N' s₁ v l xs hNN ⟨T, I, rfl⟩ F p r rv E'
    have hSN : N' S := hNN S (.inr rfl)
    obtain ⟨hi, rfl⟩ : i < 12 ∧ d = .int (i : Nat) := by
      have hi : i < 12 := by simpa using (List.getElem?_eq_some_iff.mp hd).1
      refine ⟨hi, ?_⟩
      have := (List.getElem?_eq_some_iff.mp hd).2
      simp at this; exact this.symm
    have hT := I.len
    have hT2 := inv_len I
    have itm : ∀ j a, T[j]? = some a → (T.map (item plain dotted))[j]? = some (item plain dotted a) := fun j a e => by rw [List.getElem?_map, e]; rfl
    refine wpAny_assign_Name (store_frm F rv (f.stor rfl) fun s₂ F₂ k₂ => ?_)
    have hSo : ¬ Own env oc S := by
      obtain ⟨n, e⟩ := id p
      exact F.notSeq e ⟨_, _, rfl⟩
    have p₂ : s₂.heap.PlainList S xs.toArray := p.at fun o e => k₂.kp hSo e
    have r₂ := r.kps (F.reps k₂)
    have V := F₂.seeS (x := Str.ofString "shelf") rfl p₂ r₂
    have hTl : ((T.map (item plain dotted)).length : Int) = (i + 2 : Nat) := by simp [hT]
    have eS : ((List.range (((T.map (item plain dotted)).length : Int) - 1).toNat).map fun i => D.int (1 + (i : Nat))).flatMap (spF T top) = (spots T top).map .int := by
      rw [show ((((T.map (item plain dotted)).length : Int) - 1).toNat) = T.length - 1 by rw [hTl, hT]; omega]
      exact spots_eq T top
    have hsz := spots_len T top
    refine st_assign_compV (ns := [Str.ofString "k"]) (fun d => [(Str.ofString "k", d)]) (spF T top) F₂ V f ⟨rfl, by decide +kernel, rfl, rfl⟩
      (src_range2 (a := 1) (b := ((T.map (item plain dotted)).length : Int)) R'.h (ev_blt c (by k_is) rfl (by decide) (f.kind rfl)) ev_int (ev_callB (ev_blt c (by k_is) rfl (by decide) (f.kind rfl)) (evs_cons (ev_name rfl) evs_nil) (fn_len (by rw [List.length_map]; omega)) (R'.le (by decide))) (by decide) (by decide) (by rw [hTl]; omega) (by rw [hTl]; omega)) ?_ (fun _ _ => rfl) rfl ?_ ?_ rfl rfl rfl ?_
    · intro hp vs h
      rw [eS] at h ⊢
      exact reps_ints h
    · rw [eS, List.length_map]; omega
    · intro cenv oc' ef d hd
      obtain ⟨j, hj, rfl⟩ := List.mem_map.mp hd
      have hj' : j + 1 < T.length := by
        have := List.mem_range.mp hj
        rw [hTl] at this; omega
      have g1 : T[j]? = some T[j] := by simp
      have g2 : T[j + 1]? = some T[j + 1] := by simp
      have e0 : (1 + (j : Int) - 1).toNat = j := by omega
      have e1 : (1 + (j : Int)).toNat = j + 1 := by omega
      have ef2 : spF T top (.int (1 + (j : Int))) = if fq T[j] + fq T[j + 1] ≤ top then [.int (1 + (j : Int))] else [] := by
        unfold spF
        simp only
        rw [e1, show j + 1 - 1 = j by omega, getD_at g1, getD_at g2]
      refine ⟨asg_name (ef.stor rfl), _, tests_one (ts_cmp (ev_bin
        (ev_titem (ev_item (ev_name rfl) (ev_bin (ev_name rfl) ev_int bop_sub) (by omega) (by omega) (by rw [e0]; exact itm _ _ g1)) ev_int (by decide) (by decide) rfl)
        (ev_titem (ev_item (ev_name rfl) (ev_name rfl) (by omega) (by omega) (by rw [e1]; exact itm _ _ g2)) ev_int (by decide) (by decide) rfl) bop_add) (ev_name rfl) cop_le), fun hb => ?_, fun hb => ⟨_, ?_, ev_name rfl⟩⟩
      · rw [decide_eq_false_iff_not] at hb
        rw [ef2, if_neg (by omega)]
      · rw [decide_eq_true_eq] at hb
        rw [ef2, if_pos (by omega)]
    · intro s₃ F₃ k₃
      rw [eS] at F₃
      have p₃ : s₃.heap.PlainList S xs.toArray := p₂.at fun o e => k₃.kp hSo e
      have r₃ := r₂.kps (F₂.reps k₃)
      by_cases hsp : spots T top = []
      · refine st_if_t F₃ (Ts.of (ts_cmp (ev_name rfl) (ev_list evs_nil) (cop_empty R')) (by rw [hsp]; rfl)) fun s₄ F₄ k₄ => ?_
        have p₄ : s₄.heap.PlainList S xs.toArray := p₃.at fun o e => kpOf k₄ _ o e
        have r₄ := r₃.kp (kpOf k₄)
        have V₄ := (F₄.less (N' := N) fun b q => hNN b (.inl q)).view.retype (x := Str.ofString "shelf") rfl (Rep.lst_of nS p₄.isList (r₄.less fun b q => hNN b (.inl q)))
        refine st_returnV F₄ V₄ (ev_name rfl) fun v s' r k => .inr ⟨v, rfl, ?_, k⟩
        rw [inv_end I h3 h6 (spots_nil hsp)] at r
        exact r
      · refine st_if_no F₃ (Ts.of (ts_cmp (ev_name rfl) (ev_list evs_nil) (cop_empty R')) (by cases q : spots T top with
          | nil => exact absurd q hsp
          | cons a r => rfl)) fun s₄ F₄ k₄ => ?_
        have p₄ : s₄.heap.PlainList S xs.toArray := p₃.at fun o e => kpOf k₄ _ o e
        have r₄ := r₃.kp (kpOf k₄)
        have hdp : 0 < draws.length := List.length_pos_iff.mpr hd0
        have hsp0 : 0 < (spots T top).length := List.length_pos_iff.mpr hsp
        have em : ((i : Int).fmod (draws.length : Int)) = ((i % draws.length : Nat) : Int) := imod
        have hmlt : i % draws.length < draws.length := Nat.mod_lt _ hdp
        generalize hdr : draws[i % draws.length] = dr
        have hj0 : 0 ≤ dr.fmod ((spots T top).length : Int) := Int.fmod_nonneg_of_pos _ (by omega)
        have hj1 : dr.fmod ((spots T top).length : Int) < ((spots T top).length : Int) := Int.fmod_lt_of_pos _ (by omega)
        have hjl : (dr.fmod ((spots T top).length : Int)).toNat < (spots T top).length := by omega
        obtain ⟨q, a, b, ekk, g1, g2, hq⟩ := spots_mem (List.getElem_mem hjl)
        obtain ⟨I', hlt, e1, e2, e3, hm⟩ := inv_step I h6 g1 g2 hq
        refine st_assign F₄ (ev_item (l := (spots T top).map .int) (k := dr.fmod ((spots T top).length : Int)) (d := .int ((q + 1 : Nat) : Int)) (ev_name rfl)
          (Ev.of (ev_bin (ev_item (l := draws.map .int) (k := ((i % draws.length : Nat) : Int)) (d := .int dr) (ev_name rfl) (Ev.of (ev_bin (ev_name rfl) (ev_callB (ev_blt c (by k_is) rfl (by decide) (f.kind rfl)) (evs_cons (ev_name rfl) evs_nil) (fn_len (l := draws.map .int) (by rw [List.length_map]; omega)) (R'.le (by decide))) (bop_mod (by rw [List.length_map]; omega))) (by rw [List.length_map, em])) (by omega) (by omega) (by rw [Int.toNat_natCast]; simp [hdr, hmlt]))
            (ev_callB (ev_blt c (by k_is) rfl (by decide) (f.kind rfl)) (evs_cons (ev_name rfl) evs_nil) (fn_len (l := (spots T top).map .int) (by rw [List.length_map]; omega)) (R'.le (by decide))) (bop_mod (by rw [List.length_map]; omega))) (by rw [List.length_map])) hj0 (by omega) (by rw [← ekk]; simp [hjl])) (f.stor rfl) fun s₅ F₅ k₅ => ?_
        have p₅ : s₅.heap.PlainList S xs.toArray := p₄.at fun o e => k₅.kp hSo e
        have r₅ := r₄.kps (F₄.reps k₅)
        have f1 : (((q + 1 : Nat) : Int) - 1).toNat = q := by omega
        have f2 : ((q + 1 : Nat) : Int).toNat = q + 1 := by omega
        have hqT : q + 1 < T.length := (List.getElem?_eq_some_iff.mp g2).1
        have ha12 := (I.qt a (List.mem_of_getElem? g1)).2
        have hb12 := (I.qt b (List.mem_of_getElem? g2)).2
        have la := wr_le RW (word a)
        have lb := wr_le RW (word b)
        rw [(word_ok ha12).2.1] at la
        rw [(word_ok hb12).2.1] at lb
        have la6 := (word_ok ha12).2.2.2.1
        have lb6 := (word_ok hb12).2.2.2.1
        have hsum : (sl (wr plain dotted (word a))).length + (sl (wr plain dotted (word b))).length ≤ sizeLine := by
          show (sl (wr plain dotted (word a))).cps.size + (sl (wr plain dotted (word b))).cps.size ≤ _
          unfold sl; rw [List.size_toArray, List.size_toArray]; omega
        have wM := fn_weigh_item (prog := prog) c RW hm
        rw [e3, wr_app, ← sl_app] at wM
        refine st_insort c (kd := fun j => .flt (shr (T.getD j 0))) (l := T.map (item plain dotted)) (k := q + 1) (xf := shr (med a b)) F₅ rfl hSN nS0 p₅ r₅ (F₅.seeS (x := Str.ofString "shelf") rfl p₅ r₅)
          (ev_call c (ev_glob c (by k_is) (f.kind rfl)) (by k_is) (evs_cons (ev_bin
            (ev_titem (ev_item (ev_name rfl) (ev_bin (ev_name rfl) ev_int bop_sub) (by omega) (by omega) (by rw [f1]; exact itm _ _ g1)) ev_int (by decide) (by decide) rfl)
            (ev_titem (ev_item (ev_name rfl) (ev_name rfl) (by omega) (by omega) (by rw [f2]; exact itm _ _ g2)) ev_int (by decide) (by decide) rfl) (bop_sadd hsum)) evs_nil) evk_nil wM (R'.le (by decide))) flat3
          (by rw [List.length_map]; omega) (by rw [List.length_map]; omega) (fn_share_item c hm) (fun j d h => ?_) (fun j A h => ?_) R' (ev_glob c (by k_is) (f.kind rfl)) (ev_glob c (by k_is) (f.kind rfl)) fun s₆ xs' F₆ p₆ r₆ k₆ => ?_
        · rw [List.getElem?_map] at h
          cases hT' : T[j]? with
          | none => rw [hT'] at h; cases h
          | some t =>
            rw [hT'] at h
            have h : item plain dotted t = d := Option.some.inj h
            subst h
            rw [getD_at hT']
            exact fn_share_item c (I.qt t (List.mem_of_getElem? hT')).2
        · rw [List.length_map] at h
          have hT' : T[j]? = some T[j] := by simp
          have := cop_flt (prog := prog) (w := w) (g := g) (A := A) (a := shr (T.getD j 0)) (b := shr (med a b))
          rw [getD_at hT', shr_lt (I.qt _ (List.getElem_mem _)).2 hm, hlt j _ hT'] at this
          rw [getD_at hT']
          exact this
        · refine st_nil (.inl ⟨rfl, _, xs', ⟨_, I', rfl⟩, F₆.pick (.cons rfl (.cons rfl (.cons rfl (.cons rfl (.cons rfl .nil))))), p₆, ?_, ?_⟩)
          · rw [map_ins]; exact r₆
          · exact Run.trans (k₂.mono fun b q => .inr q) (Run.trans (k₃.mono fun b q => .inr q) (Run.trans (Run.of k₄) (Run.trans (k₅.mono fun b q => .inr q) k₆)))
  · obtain ⟨T, I, rfl⟩ := hP
    have := inv_len I
    simp at this
end
end Mine
end
-- part L3
section
set_option maxRecDepth 100000
set_option linter.unusedVariables false
open PySem
namespace Mine

theorem top_mem {top : Nat} (h3 : 3 ≤ top) (h6 : top ≤ 6) : top ∈ [3, 4, 5, 6] := by
  have : top = 3 ∨ top = 4 ∨ top = 5 ∨ top = 6 := by omega
  rcases this with rfl | rfl | rfl | rfl <;> simp
theorem goal_le {top i : Nat} (h : i ∈ goalS top) : i ≤ 12 ∧ fq i ≤ top := by
  unfold goalS at h
  have h1 := List.mem_filter.mp h
  have h2 := List.mem_range.mp h1.1
  exact ⟨by omega, by simpa using h1.2⟩
theorem goal_len (top : Nat) : (goalS top).length ≤ 13 := by
  unfold goalS
  have := List.length_filter_le (fun i => decide (fq i ≤ top)) (List.range 13)
  simpa using this

/-- the order of texts is the order of words -/
theorem app_lt (x l m : List Nat) : x ++ l < x ++ m ↔ l < m := by
  induction x with
  | nil => rfl
  | cons a x ih =>
    rw [List.cons_append, List.cons_append, List.cons_lt_cons_iff, ih]
    constructor
    · rintro (h | h)
      · exact absurd h (Nat.lt_irrefl _)
      · exact h.2
    · exact fun h => .inr ⟨rfl, h⟩
theorem W_lt {bp bd : List Nat} (hp : ∃ c r, bp = c :: r ∧ c < 46) : ∀ a b : List Bool, W bp (46 :: bd) a < W bp (46 :: bd) b ↔ bLt a b = true
  | a, [] => by rw [bLt_nil]; simp [W]
  | [], b :: bs => by
    obtain ⟨c, r, rfl, hc⟩ := hp
    rw [W_cons]
    cases b <;> simp [W, bLt]
  | x :: a, y :: b => by
    have ih := W_lt (bd := bd) hp a b
    obtain ⟨c, r, rfl, hc⟩ := hp
    rw [W_cons, W_cons]
    unfold bLt
    cases x <;> cases y
    · simp only [Bool.false_eq_true, if_false, if_true]
      rw [app_lt, List.cons_lt_cons_iff, List.cons_lt_cons_iff]
      simpa using ih
    · simp only [Bool.false_eq_true, if_false, if_true, reduceCtorEq]
      rw [List.cons_append, List.cons_append, List.cons_lt_cons_iff]
      simp; omega
    · simp only [Bool.false_eq_true, if_false, if_true, reduceCtorEq]
      rw [List.cons_append, List.cons_append, List.cons_lt_cons_iff]
      simp; omega
    · simp only [if_true]
      rw [app_lt, List.cons_lt_cons_iff, List.cons_lt_cons_iff]
      simpa using ih

def allW : Nat → List (List Bool)
  | 0 => [[]]
  | n + 1 => (allW n).flatMap fun l => [false :: l, true :: l]
theorem mem_allW : ∀ l : List Bool, l ∈ allW l.length
  | [] => by simp [allW]
  | b :: l => by
    rw [List.length_cons, allW]
    refine List.mem_flatMap.mpr ⟨l, mem_allW l, ?_⟩
    cases b <;> simp
def cntL (top : Nat) (bs : List Bool) : Nat := ((goalS top).filter fun i => bLt (word i) bs).length
def cntE (top : Nat) (bs : List Bool) : Nat := ((goalS top).filter fun i => bLe (word i) bs).length
theorem cnt_all : ([3, 4, 5, 6].all fun top => (List.range 6).all fun n => (allW n).all fun bs => decide (cntL top bs ≤ (goalS top).length) && decide (cntE top bs ≤ (goalS top).length) && (List.range (goalS top).length).all fun j =>
    (bLt (word ((goalS top).getD j 0)) bs == decide (j < cntL top bs)) && (bLt bs (word ((goalS top).getD j 0)) == decide (cntE top bs ≤ j))) = true := by decide +kernel
theorem cnt_ok {top : Nat} (h3 : 3 ≤ top) (h6 : top ≤ 6) {bs : List Bool} (hb : bs.length ≤ 5) : cntL top bs ≤ (goalS top).length ∧ cntE top bs ≤ (goalS top).length ∧ ∀ j i, (goalS top)[j]? = some i → bLt (word i) bs = decide (j < cntL top bs) ∧ bLt bs (word i) = decide (cntE top bs ≤ j) := by
  have h := List.all_eq_true.mp (List.all_eq_true.mp (List.all_eq_true.mp cnt_all top (top_mem h3 h6)) bs.length (List.mem_range.mpr (by omega))) bs (mem_allW bs)
  rw [Bool.and_eq_true, Bool.and_eq_true] at h
  refine ⟨by simpa using h.1.1, by simpa using h.1.2, fun j i hj => ?_⟩
  have hl := (List.getElem?_eq_some_iff.mp hj).1
  have h2 := List.all_eq_true.mp h.2 j (List.mem_range.mpr hl)
  rw [getD_at hj, Bool.and_eq_true, beq_iff_eq, beq_iff_eq] at h2
  exact h2

/-- a drawn fraction among the fractions -/
def lessN (top a b : Nat) : Nat := ((goalS top).filter fun i => decide (fp i * b < a * fq i)).length
def mostN (top a b : Nat) : Nat := ((goalS top).filter fun i => decide (fp i * b ≤ a * fq i)).length
theorem frac_all : ([3, 4, 5, 6].all fun top => (List.range 13).all fun b => (List.range (b + 1)).all fun a => b == 0 || (decide (lessN top a b ≤ (goalS top).length) && decide (mostN top a b ≤ (goalS top).length) && (List.range (goalS top).length).all fun j =>
    (decide (fp ((goalS top).getD j 0) * b < a * fq ((goalS top).getD j 0)) == decide (j < lessN top a b)) && (decide (a * fq ((goalS top).getD j 0) < fp ((goalS top).getD j 0) * b) == decide (mostN top a b ≤ j)))) = true := by decide +kernel
theorem share_all : ((List.range 13).all fun i => (List.range 13).all fun b => (List.range (b + 1)).all fun a => b == 0 || ((Float64.cmp (shr i) (fr a b) == some Ordering.lt) == decide (fp i * b < a * fq i) && (Float64.cmp (fr a b) (shr i) == some Ordering.lt) == decide (a * fq i < fp i * b))) = true := by decide +kernel
theorem frac_ok {top a b : Nat} (h3 : 3 ≤ top) (h6 : top ≤ 6) (hb1 : 1 ≤ b) (hb : b ≤ 12) (ha : a ≤ b) : lessN top a b ≤ (goalS top).length ∧ mostN top a b ≤ (goalS top).length ∧ ∀ j i, (goalS top)[j]? = some i → (Float64.cmp (shr i) (fr a b) == some Ordering.lt) = decide (j < lessN top a b) ∧ (Float64.cmp (fr a b) (shr i) == some Ordering.lt) = decide (mostN top a b ≤ j) := by
  have h := List.all_eq_true.mp (List.all_eq_true.mp (List.all_eq_true.mp frac_all top (top_mem h3 h6)) b (List.mem_range.mpr (by omega))) a (List.mem_range.mpr (by omega))
  rw [Bool.or_eq_true, beq_iff_eq] at h
  rcases h with h | h
  · omega
  rw [Bool.and_eq_true, Bool.and_eq_true] at h
  refine ⟨by simpa using h.1.1, by simpa using h.1.2, fun j i hj => ?_⟩
  have hl := (List.getElem?_eq_some_iff.mp hj).1
  have hi := (goal_le (List.mem_of_getElem? hj)).1
  have h2 := List.all_eq_true.mp h.2 j (List.mem_range.mpr hl)
  rw [getD_at hj, Bool.and_eq_true, beq_iff_eq, beq_iff_eq] at h2
  have g := List.all_eq_true.mp (List.all_eq_true.mp (all13 share_all hi) b (List.mem_range.mpr (by omega))) a (List.mem_range.mpr (by omega))
  rw [Bool.or_eq_true, beq_iff_eq] at g
  rcases g with g | g
  · omega
  rw [Bool.and_eq_true, beq_iff_eq, beq_iff_eq] at g
  exact ⟨g.1.trans h2.1, g.2.trans h2.2⟩

/-- the reduced fractions, as they are made and as they are sorted -/
def FRl (top : Nat) : List (Int × Int) := (List.range top).flatMap fun i => (List.range (i + 2)).flatMap fun p => if (divs (p : Nat) (1 + (i : Nat))).isEmpty then [((p : Nat), 1 + (i : Nat))] else []
def SH (top : Nat) : List (Int × Int) := (goalS top).map fun i => ((fp i : Nat), (fq i : Nat))
def piS (top : Nat) : List Nat := (SH top).map fun x => (FRl top).idxOf x
theorem FR_all : ([3, 4, 5, 6].all fun top => decide ((piS top).Perm (List.range (FRl top).length)) && decide ((piS top).map (fun i => (FRl top).getD i (0, 1)) = SH top) && decide (((SH top).map key).Pairwise (· < ·)) && decide ((FRl top).length < 64) && (FRl top).all fun x => x.2 != 0 && decide (x.2.natAbs < 1073741824)) = true := by decide +kernel
theorem FR_ok {top : Nat} (h3 : 3 ≤ top) (h6 : top ≤ 6) : (piS top).Perm (List.range (FRl top).length) ∧ (piS top).map (fun i => (FRl top).getD i (0, 1)) = SH top ∧ ((SH top).map key).Pairwise (· < ·) ∧ (FRl top).length < 64 ∧ ∀ x ∈ FRl top, x.2 ≠ 0 ∧ x.2.natAbs < 1073741824 := by
  have h := List.all_eq_true.mp FR_all top (top_mem h3 h6)
  rw [Bool.and_eq_true, Bool.and_eq_true, Bool.and_eq_true, Bool.and_eq_true] at h
  obtain ⟨⟨⟨⟨a1, a2⟩, a3⟩, a4⟩, a5⟩ := h
  refine ⟨of_decide_eq_true a1, of_decide_eq_true a2, of_decide_eq_true a3, of_decide_eq_true a4, fun x hx => ?_⟩
  have := List.all_eq_true.mp a5 x hx
  rw [Bool.and_eq_true] at this
  exact ⟨by simpa using this.1, of_decide_eq_true this.2⟩
def frG (q : Int) : D → List D
  | .int p => if (divs p q).isEmpty then [.tup [.int p, .int q]] else []
  | _ => []
def frF : D → List D
  | .int q => ((List.range (q + 1).toNat).map fun i => D.int (i : Nat)).flatMap (frG q)
  | _ => []
theorem frG_eq (q : Int) : ∀ r : List Nat, (r.map fun i => D.int (i : Nat)).flatMap (frG q) = (r.flatMap fun p => if (divs (p : Nat) q).isEmpty then [(((p : Nat) : Int), q)] else []).map pD
  | [] => rfl
  | p :: r => by
    rw [List.map_cons, List.flatMap_cons, List.flatMap_cons, List.map_append, frG_eq q r]
    congr 1
    show (if _ then _ else _) = _
    split <;> rfl
theorem frF_eq (top : Nat) : ((List.range top).map fun i => D.int (1 + (i : Nat))).flatMap frF = (FRl top).map pD := by
  unfold FRl
  generalize List.range top = r
  induction r with
  | nil => rfl
  | cons i r ih =>
    rw [List.map_cons, List.flatMap_cons, List.flatMap_cons, List.map_append, ih]
    congr 1
    show ((List.range (1 + (i : Int) + 1).toNat).map fun i => D.int (i : Nat)).flatMap (frG (1 + (i : Int))) = _
    rw [show (1 + (i : Int) + 1).toNat = i + 2 by omega, frG_eq]

/-- the words -/
def wF (p q : Int) : D → List D
  | .int k => [.bool (decide (q ≤ (k * p).fmod q + p))]
  | _ => []
def wordsF : D → List D
  | .tup [.int p, .int q] => [.lst (((List.range q.toNat).map fun k => D.int (k : Nat)).flatMap (wF p q))]
  | _ => []
theorem wF_eq (p q : Nat) : ∀ r : List Nat, (r.map fun k => D.int (k : Nat)).flatMap (wF p q) = (r.map fun k => decide (q ≤ k * p % q + p)).map D.bool
  | [] => rfl
  | k :: r => by
    rw [List.map_cons, List.flatMap_cons, wF_eq p q r]
    show D.bool _ :: _ = _
    rw [List.map_cons, List.map_cons]
    have e : (((k : Nat) : Int) * (p : Int)).fmod (q : Int) = ((k * p % q : Nat) : Int) := by rw [← Int.natCast_mul]; exact imod
    rw [e]
    congr 2
    exact decide_eq_decide.mpr (by omega)
theorem wordsF_eq (top : Nat) : ((SH top).map pD).flatMap wordsF = (goalS top).map fun i => D.lst ((word i).map .bool) := by
  unfold SH
  generalize goalS top = r
  induction r with
  | nil => rfl
  | cons i r ih =>
    rw [List.map_cons, List.map_cons, List.flatMap_cons, ih, List.map_cons]
    show D.lst _ :: _ = _
    rw [Int.toNat_natCast, wF_eq]; rfl
def boolsOf (l : List D) : List Bool := l.map fun d => match d with | .bool b => b | _ => false
theorem boolsOf_map (bs : List Bool) : boolsOf (bs.map .bool) = bs := by
  unfold boolsOf; rw [List.map_map]
  exact (List.map_congr_left fun b _ => rfl).trans (List.map_id _)
def zipF (plain dotted : Str) : D → List D
  | .tup [.lst w, .tup [p, q]] => [.tup [.str (sl (wr plain dotted (boolsOf w))), p, q]]
  | _ => []
theorem zipF_eq (plain dotted : Str) (top : Nat) : ((((goalS top).map fun i => D.lst ((word i).map .bool)).zip ((SH top).map pD)).map fun p => D.tup [p.1, p.2]).flatMap (zipF plain dotted) = (goalS top).map (item plain dotted) := by
  unfold SH
  generalize goalS top = r
  induction r with
  | nil => rfl
  | cons i r ih =>
    rw [List.map_cons, List.map_cons, List.map_cons, List.zip_cons_cons, List.map_cons, List.flatMap_cons, ih, List.map_cons]
    show D.tup [.str (sl (wr plain dotted (boolsOf ((word i).map .bool)))), .int (fp i : Nat), .int (fq i : Nat)] :: _ = _
    rw [boolsOf_map]; rfl
def sentF : D → List D
  | .tup (.str x :: _) => [.str (sl (dots true (eols x.cps.toList)))]
  | _ => []
def sentS (bp bd : List Nat) (i : Nat) : D := .str (sl (W bp (46 :: bd) (word i)))
theorem sentF_eq {plain dotted : Str} {bp bd ep ed : List Nat} (RW : Rows plain dotted bp bd ep ed) (top : Nat) : ((goalS top).map (item plain dotted)).flatMap sentF = (goalS top).map (sentS bp bd) := by
  generalize goalS top = r
  induction r with
  | nil => rfl
  | cons i r ih =>
    rw [List.map_cons, List.flatMap_cons, ih, List.map_cons]
    show D.str (sl (dots true (eols (sl (wr plain dotted (word i))).cps.toList))) :: _ = _
    rw [quoted RW]; rfl
def writF (p d : Str) : D → List D
  | .lst w => [.str (sl (wr p d (boolsOf w)))]
  | _ => []
theorem writF_eq {p d : Str} {bp bd : List Nat} (hp : p.cps.toList = bp ++ [13, 10]) (hd : d.cps.toList = 46 :: bd ++ [13, 10]) (top : Nat) : ((goalS top).map fun i => D.lst ((word i).map .bool)).flatMap (writF p d) = (goalS top).map (sentS bp bd) := by
  generalize goalS top = r
  induction r with
  | nil => rfl
  | cons i r ih =>
    rw [List.map_cons, List.flatMap_cons, ih, List.map_cons]
    show D.str (sl (wr p d (boolsOf ((word i).map .bool)))) :: _ = _
    rw [boolsOf_map, wr_W hp hd]; rfl
/-- the counts by comprehensions -/
def ltF (a b : Int) : D → List D
  | .tup [.int p, .int q] => if p * b < a * q then [.int 1] else []
  | _ => []
def leF (a b : Int) : D → List D
  | .tup [.int p, .int q] => if p * b ≤ a * q then [.int 1] else []
  | _ => []
theorem ltF_len (top a b : Nat) : (((SH top).map pD).flatMap (ltF a b)).length = lessN top a b := by
  unfold SH lessN
  generalize goalS top = r
  induction r with
  | nil => rfl
  | cons i r ih =>
    rw [List.map_cons, List.map_cons, List.flatMap_cons, List.length_append, ih, List.filter_cons]
    show (if ((fp i : Nat) : Int) * (b : Int) < (a : Int) * ((fq i : Nat) : Int) then [D.int 1] else []).length + _ = _
    rw [← Int.natCast_mul, ← Int.natCast_mul]
    by_cases h : fp i * b < a * fq i
    · rw [if_pos (by omega), decide_eq_true h, if_pos rfl, List.length_cons, List.length_cons, List.length_nil]; omega
    · rw [if_neg (by omega), decide_eq_false h, if_neg (by simp), List.length_nil]; omega
theorem leF_len (top a b : Nat) : (((SH top).map pD).flatMap (leF a b)).length = mostN top a b := by
  unfold SH mostN
  generalize goalS top = r
  induction r with
  | nil => rfl
  | cons i r ih =>
    rw [List.map_cons, List.map_cons, List.flatMap_cons, List.length_append, ih, List.filter_cons]
    show (if ((fp i : Nat) : Int) * (b : Int) ≤ (a : Int) * ((fq i : Nat) : Int) then [D.int 1] else []).length + _ = _
    rw [← Int.natCast_mul, ← Int.natCast_mul]
    by_cases h : fp i * b ≤ a * fq i
    · rw [if_pos (by omega), decide_eq_true h, if_pos rfl, List.length_cons, List.length_cons, List.length_nil]; omega
    · rw [if_neg (by omega), decide_eq_false h, if_neg (by simp), List.length_nil]; omega
def bltF (bs : List Bool) : D → List D
  | .lst w => if bLt (boolsOf w) bs then [.int 1] else []
  | _ => []
def bleF (bs : List Bool) : D → List D
  | .lst w => if bLe (boolsOf w) bs then [.int 1] else []
  | _ => []
theorem bltF_len (top : Nat) (bs : List Bool) : (((goalS top).map fun i => D.lst ((word i).map .bool)).flatMap (bltF bs)).length = cntL top bs := by
  unfold cntL
  generalize goalS top = r
  induction r with
  | nil => rfl
  | cons i r ih =>
    rw [List.map_cons, List.flatMap_cons, List.length_append, ih, List.filter_cons]
    show (if bLt (boolsOf ((word i).map .bool)) bs then [D.int 1] else []).length + _ = _
    rw [boolsOf_map]
    cases bLt (word i) bs <;> simp; omega
theorem bleF_len (top : Nat) (bs : List Bool) : (((goalS top).map fun i => D.lst ((word i).map .bool)).flatMap (bleF bs)).length = cntE top bs := by
  unfold cntE
  generalize goalS top = r
  induction r with
  | nil => rfl
  | cons i r ih =>
    rw [List.map_cons, List.flatMap_cons, List.length_append, ih, List.filter_cons]
    show (if bLe (boolsOf ((word i).map .bool)) bs then [D.int 1] else []).length + _ = _
    rw [boolsOf_map]
    cases bLe (word i) bs <;> simp; omega

/-- floats -/
def fltB (p q : Nat) : Bool := !Float64.isInf (fr p q) && !Float64.isInf (fr q 16) && !Float64.isInf (fr (2 * (q : Int) - p) 32) && !Float64.isInf (fr p (2 * (q : Int) - p)) &&
  (Float64.cmp (fr p q) (fr p q) == some Ordering.eq) && (Float64.cmp (fr q 16) (fr q 16) == some Ordering.eq) && (Float64.cmp (fr (2 * (q : Int) - p) 32) (fr (2 * (q : Int) - p) 32) == some Ordering.eq) && (Float64.cmp (fr p (2 * (q : Int) - p)) (fr p (2 * (q : Int) - p)) == some Ordering.eq)
theorem flt_all : ((List.range 13).all fun i => fltB (fp i) (fq i)) = true := by decide +kernel
theorem fr01 : fr 0 1 = 0 := by decide +kernel
theorem small_bits : ((List.range 200).all fun n => decide (Builtin.Int.intBits ((n : Nat) : Int) ≤ 64)) = true := by decide +kernel
theorem mulOk {n : Nat} {b : Int} (h : n < 200) : IntMulOk (n : Int) b := IntMulOk.of_left (of_decide_eq_true (List.all_eq_true.mp small_bits n (List.mem_range.mpr h)))
end Mine
end
-- part F12
section
open PySem PySem.W PyProof.Rows
set_option maxRecDepth 100000
set_option linter.unusedVariables false
namespace Mine
theorem fill_F12 : (PySem.Challenge.rw_pe0134_01.most = PySem.Challenge.rw_pe0134_01.most) ∧ (Mine.hd.heap_39 = Mine.hd.heap_39) := by
  k_fill
  exact ⟨rfl, rfl⟩

local macro_rules | `(tactic| walk_at "ev") => `(tactic| first
  | ((with_reducible show Ev _ _ _ _ _ _ (Expr.Name _ _) _); exact ev_name rfl)
  | with_reducible exact ev_int
  | with_reducible exact ev_flt
  | with_reducible exact ev_str
  | with_reducible exact ev_none
  | with_reducible exact ev_bool
  | ((with_reducible show Ev _ _ _ _ _ _ (Expr.BinOp _ _ _ _) _); exact ev_bin (by walk_at "ev") (by walk_at "ev") (by walk_at "bop"))
  | ((with_reducible show Ev _ _ _ _ _ _ (Expr.Tuple _ _ _) _); exact ev_tuple (by walk_at "evs"))
  | ((with_reducible show Ev _ _ _ _ _ _ (Expr.List _ _) _); exact ev_list (by walk_at "evs")))
local macro_rules | `(tactic| walk_at "evs") => `(tactic| first
  | with_reducible exact evs_nil
  | ((with_reducible show Evs _ _ _ _ _ _ _ (_ :: _) _); exact evs_cons (by walk_at "ev") (by walk_at "evs")))
local macro_rules | `(tactic| walk_at "bop") => `(tactic| first
  | with_reducible exact bop_add
  | with_reducible exact bop_sub
  | with_reducible exact bop_fadd
  | with_reducible exact bop_fsub
  | ((with_reducible show Bop _ _ _ _ .Mod (.int _) _ _); exact bop_mod (by decide))
  | ((with_reducible show Bop _ _ _ _ .FloorDiv (.int _) _ _); exact bop_fdiv (by decide) (by decide))
  | ((with_reducible show Bop _ _ _ _ .Div (.flt _) _ _); refine bop_fdivf ?_; first | with_reducible assumption | decide +kernel)
  | ((with_reducible show Bop _ _ _ _ .Mod (.flt _) _ _); exact bop_fmod (by decide +kernel)))

section
variable {prog : Program} {w : World} {g : Heap} {N : Addr → Prop} {A : Around} {env : Env} {oc : List Addr} {ρ : List (Str × D)} {s₀ s : Shared}
theorem Frm.tabk {s' : Shared} {P : Addr} {ps : Array Value} (F : Frm g N s₀ env oc ρ s) (k : Run (Own env oc) s s') (p : s.heap.get? P = some (tabObj ps)) : s'.heap.get? P = some (tabObj ps) := k.kp (F.notFS fun o ho => by rw [p] at ho; cases ho; exact .inl ⟨_, rfl⟩) p

theorem st_returnK {e : Expr} {p : Pos} {rest : List Stmt} {d : D} {Q : Flow → Shared → Prop} {E : Value → Shared → Prop} (F : Frm g N s₀ env oc ρ s) (he : Ev prog w g A env ρ e d) (h : ∀ v s', Rep N s'.heap d v → Keeps s₀ s' → Keeps s s' → Q (.ret v) s') :
    wpAny (model prog w) A (execs (.Return (some e) p :: rest) env) Q E s := by
  refine wpAny_execs_cons (wpAny_Return_some (wpAny_mono (he N s F.view E) (fun v s₁ h₁ => ?_) fun _ _ x => x))
  exact h v s₁ h₁.1 (ktrans F.same h₁.2) h₁.2

def modF (m : Int) : D → List D
  | .int x => [.int (x.fmod m)]
  | _ => []
theorem modF_eq (m : Int) : ∀ l : List Int, (l.map D.int).flatMap (modF m) = (l.map fun x => x.fmod m).map .int
  | [] => rfl
  | x :: l => by rw [List.map_cons, List.flatMap_cons, modF_eq m l]; rfl
theorem preSum_le {val : Nat → Int} {m : Int} (h : ∀ i, 0 ≤ val i ∧ val i < m) : ∀ k : Nat, 0 ≤ preSum val k ∧ preSum val k ≤ m * k
  | 0 => by simp [preSum]
  | k + 1 => by
    obtain ⟨a, b⟩ := preSum_le h k
    obtain ⟨c, d⟩ := h k
    have e : preSum val (k + 1) = preSum val k + val k := rfl
    rw [e, show ((k + 1 : Nat) : Int) = (k : Int) + 1 by omega, Int.mul_add]
    omega
theorem sum_nonneg : ∀ {l : List Int}, (∀ x ∈ l, 0 ≤ x) → 0 ≤ l.sum
  | [], _ => by simp
  | x :: l, h => by
    have := sum_nonneg (l := l) fun y hy => h y (List.mem_cons_of_mem _ hy)
    have := h x (by simp)
    rw [List.sum_cons]; omega
def pairF : D → List (Str × D)
  | .tup [a, b] => [(Str.ofString "q", b), (Str.ofString "p", a)]
  | _ => []

def zipP : D → List (Str × D)
  | .tup [w, .tup [a, b]] => [(Str.ofString "q", b), (Str.ofString "p", a), (Str.ofString "word", w)]
  | _ => []
theorem eqs_item {plain dotted : Str} {r : List Nat} : ∀ d ∈ r.map (item plain dotted), Eqs 1 d := fun d hd => by
  obtain ⟨i, _, rfl⟩ := List.mem_map.mp hd
  refine .tup fun d hd => ?_
  simp at hd
  rcases hd with rfl | rfl | rfl
  · exact .atom (.str _)
  · exact .atom (.int _)
  · exact .atom (.int _)
theorem eqs_sent {bp bd : List Nat} {r : List Nat} : ∀ d ∈ r.map (sentS bp bd), Eqs 0 d := fun d hd => by
  obtain ⟨i, _, rfl⟩ := List.mem_map.mp hd
  exact .atom (.str _)

def bitF (x : Int) : D → List D
  | .int j => [.bool ((x.fdiv (2 ^ j.toNat)).fmod 2 == 1)]
  | _ => []
def bits (x : Int) (m : Nat) : List Bool := (List.range m).map fun j => ((x.fdiv (2 ^ j)).fmod 2 == 1)
theorem bitF_eq (x : Int) : ∀ r : List Nat, (r.map fun j => D.int (j : Nat)).flatMap (bitF x) = (r.map fun j => ((x.fdiv (2 ^ j)).fmod 2 == 1)).map D.bool
  | [] => rfl
  | j :: r => by
    rw [List.map_cons, List.flatMap_cons, bitF_eq x r]
    show [D.bool _] ++ _ = _
    rw [Int.toNat_natCast]; rfl
theorem pows : ∀ j, j < 6 → (2 : Int) ^ j ≠ 0 ∧ ((2 : Int) ^ j).natAbs < 1073741824 ∧ (Builtin.Int.intBits 2 : Int) * (j : Nat) ≤ 2 ^ 27 := by
  intro j hj
  match j, hj with
  | 0, _ => decide +kernel
  | 1, _ => decide +kernel
  | 2, _ => decide +kernel
  | 3, _ => decide +kernel
  | 4, _ => decide +kernel
  | 5, _ => decide +kernel

set_option maxHeartbeats 4000000 in
theorem law_walk (c : Cx (Mine.hd.heap_39 w.params) g) (nkb : ∀ h, Kp g h → NoneBooked h) (hC : CodeHd g 150 148) (hb : ∀ hp, Kp g hp → hp.BuiltinsAt c.mg 148) (hg0 : g.get? 148 = none) {script : List Int} (hsl : script.length ≤ 63) (R : Room 12 A)
    {l : Addr} {vs : List Value} (hs : Kp g s.heap) (hP : s.heap.get? 148 = some (tabObj #[])) (hl : s.heap.IsList l vs.toArray) (hI : Reps (fun b => b = 148) s.heap (script.map .int) vs) {Rs : Result → Shared → Prop}
    (h : ∀ s', Keeps { s with heap := g } s' → GrownAt 148 s'.heap → Rs (.ok (.ret (.bool true))) s') :
    codeAny (model prog w) A (.call (.ref 151) ⟨[.ref l], []⟩) Rs s := by
  have hl148 : ¬ (l = 148) := fun q => by
    subst q
    obtain ⟨o, ho, hc, _⟩ := hl
    rw [hP] at ho; cases ho; cases hc
  refine code_fn1 (N := fun b => b = 148) c (ρ := [(Str.ofString "script", .lst (script.map .int))]) hs (fun a q => q ▸ ⟨_, hP⟩) ⟨_, _, rfl, rfl⟩ (by k_is) (by k_is) R (BindsTo.of_eq rfl) (Reps.one (Rep.lst_of hl148 hl hI)) rfl (by decide +kernel) rfl rfl rfl rfl ?_
  intro s₁ env oc A' R' he f F
  have P : s₁.heap.get? 148 = some (tabObj #[]) := kpOf F.same _ _ hP
  have F := F.lower (s₁ := { s with heap := g }) hs (by obtain ⟨h', tk, e, k⟩ := F.same; exact ⟨h', tk, e, fun b o q => k b o (hs b o q)⟩) (Kp.refl _)
  have hsz : (4000000 : Nat) ≤ sizeLine := by decide
  have fm : ∀ (m : Int), 0 < m → ∀ x : Int, 0 ≤ x.fmod m ∧ x.fmod m < m := fun m hm x => ⟨Int.fmod_nonneg_of_pos _ hm, Int.fmod_lt_of_pos _ hm⟩
  -- draw
  generalize hns : (script.take 10).map (fun x => x.fmod 120) = ns
  have hns1 : ∀ x ∈ ns, 0 ≤ x := fun x hx => by
    rw [← hns] at hx
    obtain ⟨y, _, rfl⟩ := List.mem_map.mp hx
    exact (fm 120 (by decide) y).1
  have hnsl : ns.length ≤ 10 := by rw [← hns, List.length_map, List.length_take]; omega
  have hnsv : ∀ i : Nat, 0 ≤ ns[i]?.getD 0 ∧ ns[i]?.getD 0 < 120 := fun i => by
    cases q : ns[i]? with
    | none => simp
    | some v =>
      rw [← hns, List.getElem?_map] at q
      cases q' : (script.take 10)[i]? with
      | none => rw [q'] at q; cases q
      | some y => rw [q'] at q; cases q; exact fm 120 (by decide) y
  have hps := preSum_le (val := fun i => ns[i]?.getD 0) (m := 120) hnsv
  obtain ⟨n, hn⟩ : ∃ n : Nat, ns.sum = n := ⟨ns.sum.toNat, by have := sum_nonneg hns1; omega⟩
  refine st_assign F (Ev.of (ev_callB (ev_blt c (by k_is) rfl (by decide) (f.kind rfl)) (evs_cons (Ev.of (ev_comp (ns := [Str.ofString "x"]) (fun d => [(Str.ofString "x", d)]) (modF 120) f ⟨rfl, by decide +kernel, rfl, rfl⟩
      (src_list R'.h (ev_upto (n := 10) (ev_name rfl) (Ev.of ev_int rfl) (by rw [List.length_map]; omega))) (fun _ _ => rfl) rfl ?_ ?_) (d' := .lst (ns.map .int)) ?_) evs_nil) (fn_sum ?_) (R'.le (by decide))) (d' := .int (n : Int)) (by rw [hn])) (f.stor rfl) fun s F' k => ?_
  · rw [← List.map_take, modF_eq, hns, List.length_map]; omega
  · intro cenv oc' ef d hd
    rw [← List.map_take] at hd
    obtain ⟨x, _, rfl⟩ := List.mem_map.mp hd
    exact ⟨asg_name (ef.stor rfl), true, tests_nil, fun h => (nomatch h), fun _ => ⟨_, rfl, ev_bin (ev_name rfl) ev_int (bop_mod (by decide))⟩⟩
  · rw [← List.map_take, modF_eq, hns]
  · intro j hj
    have h1 := hnsv j
    have h2 := hps (j + 1)
    unfold InLong
    omega
  replace P := F.tabk k P
  replace F := F'
  -- the rows
  refine st_unpack F (ev_call c (ev_glob c (by k_is) (f.kind rfl)) (by k_is) (evs_cons (ev_name rfl) evs_nil) evk_nil (fn_rows c) (R'.le (by decide)))
    (asg_tup4 R'.h (asg_name (f.stor rfl)) (asg_name (f.stor rfl)) (asg_name (f.stor rfl)) (asg_name (f.stor rfl))) fun s F' k => ?_
  replace P := F.tabk k P
  replace F := F'
  have pl := fun i => (pick_len i)
  have hbl : (bareS n).length + (pick endsS (n % 3)).length ≤ sizeLine := by
    have h1 := (pl (n / 12 % 4)).1
    have h2 := (pl (n / 3 % 4)).2.1
    have h3 := (pl (n % 3)).2.2
    have e : (bareS n).length = (pick frontS (n / 12 % 4)).length + (pick tailS (n / 3 % 4)).length := Str.length_append _ _
    omega
  have hll : (ledS n).length + (pick endsS (n / 48 % 3)).length ≤ sizeLine := by
    have h2 := (pl (n / 3 % 4)).2.1
    have h3 := (pl (n / 48 % 3)).2.2
    have e : (ledS n).length = (Str.ofString ".").length + (pick tailS (n / 3 % 4)).length := Str.length_append _ _
    have e' : (Str.ofString ".").length = 1 := by decide
    omega
  refine st_assign F (Ev.of (ev_bin (ev_name rfl) (ev_name rfl) (bop_sadd hbl)) (d' := .str (plainS n)) rfl) (f.stor rfl) fun s F' k => ?_
  replace P := F.tabk k P
  replace F := F'
  refine st_assign F (Ev.of (ev_bin (ev_name rfl) (ev_name rfl) (bop_sadd hll)) (d' := .str (dottedS n)) rfl) (f.stor rfl) fun s F' k => ?_
  replace P := F.tabk k P
  replace F := F'
  obtain ⟨top, htop⟩ : ∃ top : Nat, top = 3 + n / 5 % 4 := ⟨_, rfl⟩
  have h3 : 3 ≤ top := by omega
  have h6 : top ≤ 6 := by omega
  have et : (3 : Int) + ((n : Int).fdiv 5).fmod 4 = (top : Int) := by
    rw [show (5 : Int) = ((5 : Nat) : Int) from rfl, show (4 : Int) = ((4 : Nat) : Int) from rfl, idiv (by decide), imod, htop]; omega
  refine st_assign F (Ev.of (ev_bin ev_int (ev_bin (ev_bin (ev_name rfl) ev_int (bop_fdiv (by decide) (by decide))) ev_int (bop_mod (by decide))) bop_add) (congrArg D.int et)) (f.stor rfl) fun s F' k => ?_
  replace P := F.tabk k P
  replace F := F'
  have RW := rows_drawn n
  -- the shelf
  obtain ⟨draws, hdraws⟩ : ∃ draws : List Int, draws = (script.take 11).map (fun x => x.fmod 1000) ++ [0, 2, 1] := ⟨_, rfl⟩
  have hd0 : draws ≠ [] := by rw [hdraws]; simp
  have hdl : draws.length ≤ 1000 := by rw [hdraws, List.length_append, List.length_map, List.length_take]; simp; omega
  refine st_assign F (ev_call c (ev_glob c (by k_is) (f.kind rfl)) (by k_is) (evs_cons (ev_name rfl) (evs_cons (ev_name rfl) (evs_cons (ev_name rfl) (evs_cons (Ev.of (ev_bin
      (Ev.of (ev_comp (ns := [Str.ofString "x"]) (fun d => [(Str.ofString "x", d)]) (modF 1000) f ⟨rfl, by decide +kernel, rfl, rfl⟩
        (src_list R'.h (ev_upto (n := 11) (ev_name rfl) (Ev.of ev_int rfl) (by rw [List.length_map]; omega))) (fun _ _ => rfl) rfl ?_ ?_) (d' := .lst (((script.take 11).map (fun x => x.fmod 1000)).map .int)) ?_)
      (Ev.of (ev_list (evs_cons ev_int (evs_cons ev_int (evs_cons ev_int evs_nil)))) (d' := .lst (([0, 2, 1] : List Int).map .int)) rfl) (bop_ladd ?_)) (d' := .lst (draws.map .int)) ?_) evs_nil)))) evk_nil (fn_joined c RW h3 h6 hd0 hdl) (R'.le (by decide))) (f.stor rfl) fun s F' k => ?_
  · rw [← List.map_take, modF_eq, List.length_map, List.length_map, List.length_take]; omega
  · intro cenv oc' ef d hd
    rw [← List.map_take] at hd
    obtain ⟨x, _, rfl⟩ := List.mem_map.mp hd
    exact ⟨asg_name (ef.stor rfl), true, tests_nil, fun h => (nomatch h), fun _ => ⟨_, rfl, ev_bin (ev_name rfl) ev_int (bop_mod (by decide))⟩⟩
  · rw [← List.map_take, modF_eq]
  · rw [List.length_map, List.length_map, List.length_map, List.length_take]; simp; omega
  · rw [hdraws, List.map_append]
  replace P := F.tabk k P
  replace F := F'
  -- the fractions
  have hgl := goal_len top
  have hFR := FR_ok h3 h6
  have edts : ((List.range ((((top : Nat) : Int) + 1) - 1).toNat).map fun i => D.int (1 + (i : Nat))) = (List.range top).map fun i => D.int (1 + (i : Nat)) := by
    rw [show ((((top : Nat) : Int) + 1) - 1).toNat = top by omega]
  refine st_assign_compG (β := fun d => [(Str.ofString "q", d)]) (f := frF) (ns := [Str.ofString "q"]) (inner := fun cenv L => inner2 _ _ _ _ _ _ _ _ _ cenv L) F f ⟨rfl, by decide +kernel, rfl, rfl⟩
    (src_range2 R'.h (ev_blt c (by k_is) rfl (by decide) (f.kind rfl)) ev_int (ev_bin (ev_name rfl) ev_int bop_add) (by decide) (by decide) (by omega) (by omega)) (fun _ _ => rfl) rfl ?_ (fun cenv it acc A Q E s h => by rw [turn_two]; exact h) ?_ rfl rfl rfl fun s F' k => ?_
  · rw [edts, frF_eq, List.length_map]; have := hFR.2.2.2.1; omega
  · intro N' s₀ cenv oc' L hNL hLn hNN ef d hd
    rw [edts] at hd
    obtain ⟨i, hi, rfl⟩ := List.mem_map.mp hd
    have hi := List.mem_range.mp hi
    refine ⟨asg_name (ef.stor rfl), true, tests_nil, fun h => (nomatch h), fun _ => ?_⟩
    refine inn_nest (β := fun d => [(Str.ofString "p", d)]) (f := frG (1 + (i : Nat))) (ns := [Str.ofString "p"]) hNL hLn
      (src_range1 R'.h (ev_blt c (by k_is) rfl (by decide) (ef.kind rfl)) (ev_bin (ev_name rfl) ev_int bop_add) (by omega) (by omega)) (fun _ _ => rfl) rfl ?_
    intro d hd
    obtain ⟨j, hj, rfl⟩ := List.mem_map.mp hd
    refine ⟨asg_name (ef.stor rfl), _, tests_one (ts_val (ev_call c (ev_glob c (by k_is) (ef.kind rfl)) (by k_is) (evs_cons (ev_name rfl) (evs_cons (ev_name rfl) evs_nil)) evk_nil (fn_reduced c (by omega) (by omega)) (R'.le (by decide)))), fun hb => ?_, fun hb => ⟨_, ?_, ev_tuple (evs_cons (ev_name rfl) (evs_cons (ev_name rfl) evs_nil))⟩⟩
    · show (if _ then _ else _) = _
      rw [hb]; rfl
    · show (if _ then _ else _) = _
      rw [hb]; rfl
  rw [edts, frF_eq] at F'
  replace P := F.tabk k P
  replace F := F'
  -- sorted
  refine st_sorted c (piS top) (cd := 150) (P := 148) F rfl hg0 P (by rw [he]; rfl) hC (by decide) hb (R'.le (by decide)) (ev_blt c (by k_is) rfl (by decide) (f.kind rfl)) (ev_name rfl) hFR.2.2.2.1 hFR.1 hFR.2.1 hFR.2.2.1
    (fun x hx => ⟨(hFR.2.2.2.2 x hx).1, (hFR.2.2.2.2 x hx).2, IntMulOk.of_right (by decide +kernel)⟩) rfl rfl (by decide) rfl rfl ?_ rfl (fun _ _ _ _ => rfl) (f.stor rfl) fun s ps F P => ?_
  · rfl
  -- the words
  have hSH : ∀ d ∈ (SH top).map pD, ∃ i, i ≤ 12 ∧ fq i ≤ top ∧ d = .tup [.int (fp i : Nat), .int (fq i : Nat)] := fun d hd => by
    obtain ⟨x, hx, rfl⟩ := List.mem_map.mp hd
    unfold SH at hx
    obtain ⟨i, hi, rfl⟩ := List.mem_map.mp hx
    exact ⟨i, (goal_le hi).1, (goal_le hi).2, rfl⟩
  have hSHl : ((SH top).map pD).length ≤ 13 := by unfold SH; rw [List.length_map, List.length_map]; exact hgl
  refine st_assign_comp (ns := [Str.ofString "q", Str.ofString "p"]) pairF wordsF F f ⟨rfl, by decide +kernel, rfl, rfl⟩ (src_list R'.h (ev_name rfl)) ?_ rfl ?_ ?_ rfl rfl rfl fun s F' k => ?_
  · intro d hd
    obtain ⟨i, h1, h2, rfl⟩ := hSH d hd; rfl
  · rw [wordsF_eq, List.length_map]; omega
  · intro cenv oc' ef d hd
    obtain ⟨i, h1, h2, rfl⟩ := hSH d hd
    have hw := word_ok h1
    have hql : (((List.range ((fq i : Nat) : Int).toNat).map fun k => D.int (k : Nat)).flatMap (wF (fp i : Nat) (fq i : Nat))).length ≤ sizeLine := by
      rw [Int.toNat_natCast, wF_eq, List.length_map, List.length_map, List.length_range]; omega
    refine ⟨asg_tup2 R'.h (asg_name (ef.stor rfl)) (asg_name (ef.stor rfl)), true, tests_nil, fun h => (nomatch h), fun _ => ⟨_, rfl, ?_⟩⟩
    refine ev_comp (ns := [Str.ofString "k"]) (fun d => [(Str.ofString "k", d)]) (wF (fp i : Nat) (fq i : Nat)) ef ⟨rfl, by decide +kernel, rfl, rfl⟩
      (src_range1 R'.h (ev_blt c (by k_is) rfl (by decide) (ef.kind rfl)) (ev_name rfl) (by omega) (by omega)) (fun _ _ => rfl) rfl hql ?_
    intro cenv2 oc2 ef2 d hd
    obtain ⟨j, hj, rfl⟩ := List.mem_map.mp hd
    have hj := List.mem_range.mp hj
    rw [Int.toNat_natCast] at hj
    exact ⟨asg_name (ef2.stor rfl), true, tests_nil, fun h => (nomatch h), fun _ => ⟨_, rfl, ev_cmp (ev_bin (ev_bin (ev_bin (ev_name rfl) (ev_name rfl) (bop_mul (mulOk (by omega)))) (ev_name rfl) (bop_mod (by omega))) (ev_name rfl) bop_add) (ev_name rfl) cop_ge⟩⟩
  rw [wordsF_eq] at F'
  replace P := F.tabk k P
  replace F := F'
  -- the shelf is what it should be
  have hzd : ∀ d ∈ ((((goalS top).map fun i => D.lst ((word i).map .bool)).zip ((SH top).map pD)).map fun p => D.tup [p.1, p.2]), ∃ i, i ≤ 12 ∧ fq i ≤ top ∧ d = .tup [.lst ((word i).map .bool), .tup [.int (fp i : Nat), .int (fq i : Nat)]] := fun d hd => by
    unfold SH at hd
    rw [List.map_map, List.zip_map', List.map_map] at hd
    obtain ⟨i, hi, rfl⟩ := List.mem_map.mp hd
    exact ⟨i, (goal_le hi).1, (goal_le hi).2, rfl⟩
  have wrl : ∀ i, i ≤ 12 → (wr (plainS n) (dottedS n) (word i)).length ≤ 100 := fun i hi => by
    have h1 := wr_le RW (word i)
    have h2 := word_ok hi
    omega
  refine st_if_no F (ts_cmp (ev_name rfl) (Ev.of (ev_comp (ns := [Str.ofString "q", Str.ofString "p", Str.ofString "word"]) zipP (zipF (plainS n) (dottedS n)) f ⟨rfl, by decide +kernel, rfl, rfl⟩
      (src_zip R'.h (ev_blt c (by k_is) rfl (by decide) (f.kind rfl)) (ev_name rfl) (ev_name rfl) (by unfold SH; simp)) ?_ rfl ?_ ?_) (d' := .lst ((goalS top).map (item (plainS n) (dottedS n)))) (congrArg D.lst (zipF_eq _ _ _))) (cop_ne_same nkb eqs_item (R'.le (by decide)))) fun s F' k => ?_
  · intro d hd
    obtain ⟨i, h1, h2, rfl⟩ := hzd d hd; rfl
  · rw [zipF_eq, List.length_map]; omega
  · intro cenv oc' ef d hd
    obtain ⟨i, h1, h2, rfl⟩ := hzd d hd
    have hw := word_ok h1
    have hwl := wrl i h1
    refine ⟨asg_tup2 R'.h (asg_name (ef.stor rfl)) (asg_tup2 R'.h (asg_name (ef.stor rfl)) (asg_name (ef.stor rfl))), true, tests_nil, fun h => (nomatch h), fun _ => ⟨.tup [.str (sl (wr (plainS n) (dottedS n) (word i))), .int (fp i : Nat), .int (fq i : Nat)], ?_, ?_⟩⟩
    · show [D.tup [.str (sl (wr (plainS n) (dottedS n) (boolsOf ((word i).map .bool)))), .int (fp i : Nat), .int (fq i : Nat)]] = _
      rw [boolsOf_map]
    · exact ev_tuple (evs_cons (ev_call c (ev_glob c (by k_is) (ef.kind rfl)) (by k_is) (evs_cons (ev_name rfl) (evs_cons (ev_name rfl) (evs_cons (ev_name rfl) evs_nil))) evk_nil (fn_written c (by omega) (by omega)) (R'.le (by decide))) (evs_cons (ev_name rfl) (evs_cons (ev_name rfl) evs_nil)))
  replace P := kpOf k _ _ P
  replace F := F'
  -- the sents
  have wrs : ∀ i, i ≤ 12 → (sl (wr (plainS n) (dottedS n) (word i))).cps.size ≤ 100 := fun i hi => by
    have := wrl i hi
    unfold sl; rw [List.size_toArray]; exact this
  have hitem : ∀ d ∈ (goalS top).map (item (plainS n) (dottedS n)), ∃ i, i ≤ 12 ∧ d = item (plainS n) (dottedS n) i := fun d hd => by
    obtain ⟨i, hi, rfl⟩ := List.mem_map.mp hd
    exact ⟨i, (goal_le hi).1, rfl⟩
  refine st_assign_comp (ns := [Str.ofString "item"]) (fun d => [(Str.ofString "item", d)]) sentF F f ⟨rfl, by decide +kernel, rfl, rfl⟩ (src_list R'.h (ev_name rfl)) (fun _ _ => rfl) rfl ?_ ?_ rfl rfl rfl fun s F' k => ?_
  · rw [sentF_eq RW, List.length_map]; omega
  · intro cenv oc' ef d hd
    obtain ⟨i, h1, rfl⟩ := hitem d hd
    have hws := wrs i h1
    refine ⟨asg_name (ef.stor rfl), true, tests_nil, fun h => (nomatch h), fun _ => ⟨_, rfl, ?_⟩⟩
    exact ev_call c (ev_glob c (by k_is) (ef.kind rfl)) (by k_is) (evs_cons (ev_titem (d := .str (sl (wr (plainS n) (dottedS n) (word i)))) (ev_name rfl) ev_int (by decide) (by decide) rfl) evs_nil) evk_nil (fn_quote c (by omega)) (R'.le (by decide))
  rw [sentF_eq RW] at F'
  replace P := F.tabk k P
  replace F := F'
  -- the sents are what they should be
  obtain ⟨bp, hbp⟩ : ∃ bp, bp = (bareS n).cps.toList := ⟨_, rfl⟩
  obtain ⟨bd, hbd⟩ : ∃ bd, bd = (ledS n).cps.toList := ⟨_, rfl⟩
  rw [← hbp, ← hbd] at F RW
  have hcr : (Str.ofString "\r\n").cps.toList = [13, 10] := by decide
  have hdt : (Str.ofString ".").cps.toList = [46] := by decide
  have ep : (bareS n ++ Str.ofString "\r\n").cps.toList = bp ++ [13, 10] := by rw [sapp, hcr, hbp]
  have ed : (Str.ofString "." ++ ledS n ++ Str.ofString "\r\n").cps.toList = 46 :: bd ++ [13, 10] := by rw [sapp, sapp, hcr, hdt, hbd]; rfl
  have lbp : bp.length ≤ 4 := RW.lp
  have lbd : bd.length ≤ 4 := RW.ld
  have Wl : ∀ bs : List Bool, bs.length ≤ 6 → (W bp (46 :: bd) bs).length ≤ 42 := fun bs hbs => by
    have := W_le (bp := bp) (bd := 46 :: bd) (by omega) (by simp; omega) bs
    omega
  have slen : ∀ x : Str, x.length = x.cps.toList.length := fun x => by show x.cps.size = _; rw [Array.length_toList]
  have hz1 : (bareS n).length + (Str.ofString "\r\n").length ≤ sizeLine := by rw [slen, slen, hcr, ← hbp]; simp; omega
  have hz2 : (Str.ofString ".").length + (ledS n).length ≤ sizeLine := by rw [slen, slen, hdt, ← hbd]; simp; omega
  have hz3 : (Str.ofString "." ++ ledS n).length + (Str.ofString "\r\n").length ≤ sizeLine := by rw [slen, slen, sapp, hcr, hdt, ← hbd]; simp; omega
  have hwds : ∀ d ∈ (goalS top).map (fun i => D.lst ((word i).map .bool)), ∃ i, i ≤ 12 ∧ d = .lst ((word i).map .bool) := fun d hd => by
    obtain ⟨i, hi, rfl⟩ := List.mem_map.mp hd
    exact ⟨i, (goal_le hi).1, rfl⟩
  refine st_if_no F (ts_cmp (ev_name rfl) (Ev.of (ev_comp (ns := [Str.ofString "word"]) (fun d => [(Str.ofString "word", d)]) (writF (bareS n ++ Str.ofString "\r\n") (Str.ofString "." ++ ledS n ++ Str.ofString "\r\n")) f ⟨rfl, by decide +kernel, rfl, rfl⟩
      (src_list R'.h (ev_name rfl)) (fun _ _ => rfl) rfl ?_ ?_) (d' := .lst ((goalS top).map (sentS bp bd))) (congrArg D.lst (writF_eq ep ed _))) (cop_ne_same nkb eqs_sent (R'.le (by decide)))) fun s F' k => ?_
  · rw [writF_eq ep ed, List.length_map]; omega
  · intro cenv oc' ef d hd
    obtain ⟨i, h1, rfl⟩ := hwds d hd
    have hw := word_ok h1
    have hwl : (wr (bareS n ++ Str.ofString "\r\n") (Str.ofString "." ++ ledS n ++ Str.ofString "\r\n") (word i)).length ≤ 16777216 := by
      rw [wr_W ep ed]; have := Wl (word i) (by omega); omega
    refine ⟨asg_name (ef.stor rfl), true, tests_nil, fun h => (nomatch h), fun _ => ⟨.str (sl (wr (bareS n ++ Str.ofString "\r\n") (Str.ofString "." ++ ledS n ++ Str.ofString "\r\n") (word i))), ?_, ?_⟩⟩
    · show [D.str (sl (wr _ _ (boolsOf ((word i).map .bool))))] = _
      rw [boolsOf_map]
    · exact ev_call c (ev_glob c (by k_is) (ef.kind rfl)) (by k_is) (evs_cons (ev_name rfl) (evs_cons (ev_bin (ev_name rfl) ev_str (bop_sadd hz1)) (evs_cons (ev_bin (ev_bin ev_str (ev_name rfl) (bop_sadd hz2)) ev_str (bop_sadd hz3)) evs_nil))) evk_nil (fn_written c (by omega) hwl) (R'.le (by decide))
  replace P := kpOf k _ _ P
  replace F := F'
  replace F := F.pick (ρ' := [(Str.ofString "script", .lst (script.map .int)), (Str.ofString "plain", .str (plainS n)), (Str.ofString "dotted", .str (dottedS n)), (Str.ofString "shelf", .lst ((goalS top).map (item (plainS n) (dottedS n)))), (Str.ofString "shares", .lst ((SH top).map pD)), (Str.ofString "words", .lst ((goalS top).map fun i => D.lst ((word i).map .bool))), (Str.ofString "sents", .lst ((goalS top).map (sentS bp bd)))])
    (.cons rfl (.cons rfl (.cons rfl (.cons rfl (.cons rfl (.cons rfl (.cons rfl .nil)))))))
  -- the colours
  refine st_forT F rfl (.inl ⟨_, rfl⟩) P (src_list R'.h (ev_name rfl)) ?_ (fun s F P => ?_)
  · intro i d hd N' s₁ v hNN F₀ rv E'
    obtain ⟨j, h1, h2, rfl⟩ := hSH d (List.mem_of_getElem? hd)
    have hw := word_ok h1
    have hfl := all13 flt_all h1
    unfold fltB at hfl
    simp only [Bool.and_eq_true, Bool.not_eq_true'] at hfl
    obtain ⟨⟨⟨⟨⟨⟨⟨g1, g2⟩, g3⟩, g4⟩, g5⟩, g6⟩, g7⟩, g8⟩ := hfl
    obtain ⟨H, i1, i2⟩ := hsv_at (a := fp j) (b := fq j) (by omega) (by omega) (by omega)
    have H2 := hls_at (a := fp j) (b := fq j) (by omega) (by omega) (by omega)
    have g0 : (Float64.cmp (fr 0 1) (fr 0 1) == some Ordering.eq) = true := by decide +kernel
    refine (asg_tup2 R'.h (asg_name (f.stor rfl)) (asg_name (f.stor rfl))) N' _ _ s₁ v _ E' F₀ rv fun s F k₁ => ?_
    refine st_unpack F (ev_call c (ev_glob c (by k_is) (f.kind rfl)) (by k_is) (evs_cons (ev_name rfl) (evs_cons (ev_name rfl) evs_nil)) evk_nil (fn_colour c (fp j : Nat) (fq j : Nat) i1 i2) (R'.le (by decide)))
      (asg_tup3 R'.h (asg_name (f.stor rfl)) (asg_name (f.stor rfl)) (asg_name (f.stor rfl))) fun s F k₂ => ?_
    refine st_if_no F (ts_cmp (ev_call c (ev_glob c (by k_is) (f.kind rfl)) (by k_is) (evs_cons (ev_name rfl) (evs_cons (ev_name rfl) (evs_cons (ev_name rfl) evs_nil))) evk_nil (fn_hsv c H) (R'.le (by decide)))
      (ev_tuple (evs_cons (Ev.of ev_flt (congrArg D.flt fr01.symm)) (evs_cons (ev_bin (ev_name rfl) (ev_name rfl) (bop_div (by omega) g1)) (evs_cons (ev_bin (ev_name rfl) ev_int (bop_div (by decide) g2)) evs_nil))))
      (cop_net_same nkb (n := 0) (fun d hd => ?_) (R'.le (by decide)))) fun s F k₃ => ?_
    · simp at hd
      rcases hd with rfl | rfl | rfl
      · exact .atom (.flt _ g0)
      · exact .atom (.flt _ g5)
      · exact .atom (.flt _ g6)
    refine st_if_no F (ts_cmp (ev_call c (ev_glob c (by k_is) (f.kind rfl)) (by k_is) (evs_cons (ev_name rfl) (evs_cons (ev_name rfl) (evs_cons (ev_name rfl) evs_nil))) evk_nil (fn_hls c H2) (R'.le (by decide)))
      (ev_tuple (evs_cons (Ev.of ev_flt (congrArg D.flt fr01.symm)) (evs_cons (ev_bin (ev_bin (ev_bin ev_int (ev_name rfl) (bop_mul (mulOk (n := 2) (by decide)))) (ev_name rfl) bop_sub) ev_int (bop_div (by decide) g3))
        (evs_cons (ev_bin (ev_name rfl) (ev_bin (ev_bin ev_int (ev_name rfl) (bop_mul (mulOk (n := 2) (by decide)))) (ev_name rfl) bop_sub) (bop_div (by omega) g4)) evs_nil))))
      (cop_net_same nkb (n := 0) (fun d hd => ?_) (R'.le (by decide)))) fun s F k₄ => ?_
    · simp at hd
      rcases hd with rfl | rfl | rfl
      · exact .atom (.flt _ g0)
      · exact .atom (.flt _ g7)
      · exact .atom (.flt _ g8)
    exact st_nil ⟨rfl, F.pick (.cons rfl (.cons rfl (.cons rfl (.cons rfl (.cons rfl (.cons rfl (.cons rfl .nil))))))), Run.trans k₁ (Run.trans k₂ (Run.trans (Run.of k₃) (Run.of k₄)))⟩
  -- the drawn ones
  obtain ⟨xs, hxs⟩ : ∃ xs : List Int, xs = [43, 27, 134] ++ script.take 3 := ⟨_, rfl⟩
  refine st_forT F rfl (.inl ⟨_, rfl⟩) P (src_list (l := xs.map .int) R'.h (Ev.of (ev_bin (Ev.of (ev_list (evs_cons ev_int (evs_cons ev_int (evs_cons ev_int evs_nil)))) (d' := .lst (([43, 27, 134] : List Int).map .int)) rfl)
      (Ev.of (ev_upto (n := 3) (ev_name rfl) (Ev.of ev_int rfl) (by rw [List.length_map]; omega)) (d' := .lst ((script.take 3).map .int)) (by rw [List.map_take])) (bop_ladd (by rw [List.length_map, List.length_map, List.length_take]; simp; omega))) (by rw [hxs, List.map_append]))) ?_ (fun s F P => ?_)
  · intro i d hd N' s₁ v hNN F₀ rv E'
    obtain ⟨x, _, rfl⟩ := List.mem_map.mp (List.mem_of_getElem? hd)
    obtain ⟨bn, hbn⟩ : ∃ bn : Nat, 1 + x.fmod 12 = bn := ⟨(1 + x.fmod 12).toNat, by have := fm 12 (by decide) x; omega⟩
    have hb1 : 1 ≤ bn ∧ bn ≤ 12 := by have := fm 12 (by decide) x; omega
    obtain ⟨an, han⟩ : ∃ an : Nat, (x.fdiv 12).fmod ((bn : Int) + 1) = an := ⟨((x.fdiv 12).fmod ((bn : Int) + 1)).toNat, by have := fm ((bn : Int) + 1) (by omega) (x.fdiv 12); omega⟩
    have ha1 : an ≤ bn := by have := fm ((bn : Int) + 1) (by omega) (x.fdiv 12); omega
    obtain ⟨m, hm⟩ : ∃ m : Nat, (x.fdiv 32).fmod 6 = m := ⟨((x.fdiv 32).fmod 6).toNat, by have := fm 6 (by decide) (x.fdiv 32); omega⟩
    have hm5 : m ≤ 5 := by have := fm 6 (by decide) (x.fdiv 32); omega
    obtain ⟨fr1, fr2, fr3⟩ := frac_ok h3 h6 hb1.1 hb1.2 ha1
    refine asg_name (f.stor rfl) N' _ _ s₁ v _ E' F₀ rv fun s F k₁ => ?_
    refine st_assign F (Ev.of (ev_bin ev_int (ev_bin (ev_name rfl) ev_int (bop_mod (by decide))) bop_add) (congrArg D.int hbn)) (f.stor rfl) fun s F k₂ => ?_
    refine st_assign F (Ev.of (ev_bin (ev_bin (ev_name rfl) ev_int (bop_fdiv (by decide) (by decide))) (ev_bin (ev_name rfl) ev_int bop_add) (bop_mod (by omega))) (congrArg D.int han)) (f.stor rfl) fun s F k₃ => ?_
    refine st_assign F (ev_call c (ev_glob c (by k_is) (f.kind rfl)) (by k_is) (evs_cons (ev_tuple (evs_cons ev_str (evs_cons (ev_name rfl) (evs_cons (ev_name rfl) evs_nil)))) evs_nil) evk_nil (fn_share c hb1.1 hb1.2 ha1) (R'.le (by decide))) (f.stor rfl) fun s F k₄ => ?_
    have elt := fun d hd => hSH d hd
    refine st_assign F (Ev.of (ev_callB (ev_blt c (by k_is) rfl (by decide) (f.kind rfl)) (evs_cons (ev_comp (ns := [Str.ofString "q", Str.ofString "p"]) pairF (ltF an bn) f ⟨rfl, by decide +kernel, rfl, rfl⟩ (src_list R'.h (ev_name rfl)) ?_ rfl ?_ ?_) evs_nil) (fn_len ?_) (R'.le (by decide))) (d' := .int (lessN top an bn : Nat)) (by rw [ltF_len])) (f.stor rfl) fun s F k₅ => ?_
    · intro d hd
      obtain ⟨j, h1, h2, rfl⟩ := hSH d hd; rfl
    · rw [ltF_len]; omega
    · intro cenv oc' ef d hd
      obtain ⟨j, h1, h2, rfl⟩ := hSH d hd
      have hw := word_ok h1
      refine ⟨asg_tup2 R'.h (asg_name (ef.stor rfl)) (asg_name (ef.stor rfl)), _, tests_one (ts_cmp (ev_bin (ev_name rfl) (ev_name rfl) (bop_mul (mulOk (by omega)))) (ev_bin (ev_name rfl) (ev_name rfl) (bop_mul (mulOk (by omega)))) cop_lt), fun hb => ?_, fun hb => ⟨_, ?_, ev_int⟩⟩
      · show (if _ then _ else _) = _
        rw [if_neg (of_decide_eq_false hb)]
      · show (if _ then _ else _) = _
        rw [if_pos (of_decide_eq_true hb)]
    · rw [ltF_len]; omega
    refine st_assign F (Ev.of (ev_callB (ev_blt c (by k_is) rfl (by decide) (f.kind rfl)) (evs_cons (ev_comp (ns := [Str.ofString "q", Str.ofString "p"]) pairF (leF an bn) f ⟨rfl, by decide +kernel, rfl, rfl⟩ (src_list R'.h (ev_name rfl)) ?_ rfl ?_ ?_) evs_nil) (fn_len ?_) (R'.le (by decide))) (d' := .int (mostN top an bn : Nat)) (by rw [leF_len])) (f.stor rfl) fun s F k₆ => ?_
    · intro d hd
      obtain ⟨j, h1, h2, rfl⟩ := hSH d hd; rfl
    · rw [leF_len]; omega
    · intro cenv oc' ef d hd
      obtain ⟨j, h1, h2, rfl⟩ := hSH d hd
      have hw := word_ok h1
      refine ⟨asg_tup2 R'.h (asg_name (ef.stor rfl)) (asg_name (ef.stor rfl)), _, tests_one (ts_cmp (ev_bin (ev_name rfl) (ev_name rfl) (bop_mul (mulOk (by omega)))) (ev_bin (ev_name rfl) (ev_name rfl) (bop_mul (mulOk (by omega)))) cop_le), fun hb => ?_, fun hb => ⟨_, ?_, ev_int⟩⟩
      · show (if _ then _ else _) = _
        rw [if_neg (of_decide_eq_false hb)]
      · show (if _ then _ else _) = _
        rw [if_pos (of_decide_eq_true hb)]
    · rw [leF_len]; omega
    have hgm : ∀ j d, ((goalS top).map (item (plainS n) (dottedS n)))[j]? = some d → ∃ i, (goalS top)[j]? = some i ∧ item (plainS n) (dottedS n) i = d := fun j d hd => by
      rw [List.getElem?_map] at hd
      cases q : (goalS top)[j]? with
      | none => rw [q] at hd; cases hd
      | some i => rw [q] at hd; exact ⟨i, q, Option.some.inj hd⟩
    have hkey : ∀ j d, ((goalS top).map (item (plainS n) (dottedS n)))[j]? = some d → Fn prog w g 3 (.ref 124) [d] [] (.flt (shr ((goalS top).getD j 0))) := fun j d hd => by
      obtain ⟨i, hi, rfl⟩ := hgm j d hd
      rw [getD_at hi]
      exact fn_share_item c (goal_le (List.mem_of_getElem? hi)).1
    have hlt1 : ∀ j A, j < ((goalS top).map (item (plainS n) (dottedS n))).length → Cop prog w g A .Lt (.flt (shr ((goalS top).getD j 0))) (.flt (fr an bn)) (decide (j < lessN top an bn)) := fun j A hj => by
      rw [List.length_map] at hj
      have hi : (goalS top)[j]? = some (goalS top)[j] := by simp
      have := cop_flt (prog := prog) (w := w) (g := g) (A := A) (a := shr ((goalS top).getD j 0)) (b := fr an bn)
      rw [getD_at hi, (fr3 j _ hi).1] at this
      rw [getD_at hi]; exact this
    have hlt2 : ∀ j A, j < ((goalS top).map (item (plainS n) (dottedS n))).length → Cop prog w g A .Lt (.flt (fr an bn)) (.flt (shr ((goalS top).getD j 0))) (decide (mostN top an bn ≤ j)) := fun j A hj => by
      rw [List.length_map] at hj
      have hi : (goalS top)[j]? = some (goalS top)[j] := by simp
      have := cop_flt (prog := prog) (w := w) (g := g) (A := A) (a := fr an bn) (b := shr ((goalS top).getD j 0))
      rw [getD_at hi, (fr3 j _ hi).2] at this
      rw [getD_at hi]; exact this
    have hlz : ((goalS top).map (item (plainS n) (dottedS n))).length ≤ sizeLine := by rw [List.length_map]; omega
    have ne_self : ∀ k : Int, (k != k) = false := fun k => by simp
    refine st_if_no F (Ts.of (ts_cmp (ev_call c (ev_glob c (by k_is) (f.kind rfl)) (by k_is) (evs_cons (ev_name rfl) (evs_cons (ev_name rfl) evs_nil)) (evk_one (ev_glob c (by k_is) (f.kind rfl))) (fn_bisL_k2 c (fun j => .flt (shr ((goalS top).getD j 0))) hlz (by rw [List.length_map]; exact fr1) hkey hlt1) (R'.le (by decide))) (ev_name rfl) cop_ne) (ne_self _)) fun s F k₇ => ?_
    refine st_if_no F (Ts.of (ts_cmp (ev_call c (ev_glob c (by k_is) (f.kind rfl)) (by k_is) (evs_cons (ev_name rfl) (evs_cons (ev_name rfl) evs_nil)) (evk_one (ev_glob c (by k_is) (f.kind rfl))) (fn_bisR_k2 c (fun j => .flt (shr ((goalS top).getD j 0))) hlz (by rw [List.length_map]; exact fr2) hkey hlt2) (R'.le (by decide))) (ev_name rfl) cop_ne) (ne_self _)) fun s F k₈ => ?_
    obtain ⟨bs, hbs⟩ : ∃ bs, bs = bits x m := ⟨_, rfl⟩
    have hbl : bs.length = m := by rw [hbs]; unfold bits; simp
    have ebs : ((List.range ((m : Int)).toNat).map fun i => D.int (i : Nat)).flatMap (bitF x) = bs.map .bool := by
      rw [Int.toNat_natCast, bitF_eq, hbs]; rfl
    refine st_assign F (Ev.of (ev_comp (ns := [Str.ofString "j"]) (fun d => [(Str.ofString "j", d)]) (bitF x) f ⟨rfl, by decide +kernel, rfl, rfl⟩
        (src_range1 (b := (m : Int)) R'.h (ev_blt c (by k_is) rfl (by decide) (f.kind rfl)) (Ev.of (ev_bin (ev_bin (ev_name rfl) ev_int (bop_fdiv (by decide) (by decide))) ev_int (bop_mod (by decide))) (congrArg D.int hm)) (by omega) (by omega)) (fun _ _ => rfl) rfl ?_ ?_) (congrArg D.lst ebs)) (f.stor rfl) (fun s F k₉ => ?_) (noswap (f.kind rfl))
    · rw [ebs, List.length_map]; omega
    · intro cenv oc' ef d hd
      obtain ⟨j, hj, rfl⟩ := List.mem_map.mp hd
      have hj := List.mem_range.mp hj
      rw [Int.toNat_natCast] at hj
      obtain ⟨p1, p2, p3⟩ := pows j (by omega)
      refine ⟨asg_name (ef.stor rfl), true, tests_nil, fun h => (nomatch h), fun _ => ⟨_, rfl, ev_cmp (ev_bin (ev_bin (ev_name rfl) (ev_bin ev_int (ev_name rfl) (bop_pow (by omega) p3)) (bop_fdiv (by rw [Int.toNat_natCast]; exact p1) (by rw [Int.toNat_natCast]; exact p2))) ev_int (bop_mod (by decide))) ev_int cop_eq⟩⟩
    obtain ⟨c1, c2, c3⟩ := cnt_ok h3 h6 (bs := bs) (by omega)
    refine st_assign F (Ev.of (ev_tuple (evs_cons (ev_callB (ev_blt c (by k_is) rfl (by decide) (f.kind rfl)) (evs_cons (ev_comp (ns := [Str.ofString "one"]) (fun d => [(Str.ofString "one", d)]) (bltF bs) f ⟨rfl, by decide +kernel, rfl, rfl⟩ (src_list R'.h (ev_name rfl)) (fun _ _ => rfl) rfl ?_ ?_) evs_nil) (fn_len ?_) (R'.le (by decide)))
      (evs_cons (ev_callB (ev_blt c (by k_is) rfl (by decide) (f.kind rfl)) (evs_cons (ev_comp (ns := [Str.ofString "one"]) (fun d => [(Str.ofString "one", d)]) (bleF bs) f ⟨rfl, by decide +kernel, rfl, rfl⟩ (src_list R'.h (ev_name rfl)) (fun _ _ => rfl) rfl ?_ ?_) evs_nil) (fn_len ?_) (R'.le (by decide))) evs_nil))) (d' := .tup [.int (cntL top bs : Nat), .int (cntE top bs : Nat)]) (by rw [bltF_len, bleF_len])) (f.stor rfl) fun s F k₁₀ => ?_
    · rw [bltF_len]; omega
    · intro cenv oc' ef d hd
      obtain ⟨j, h1, rfl⟩ := hwds d hd
      refine ⟨asg_name (ef.stor rfl), _, tests_one (ts_cmp (ev_name rfl) (ev_name rfl) (cop_blt R')), fun hb => ?_, fun hb => ⟨_, ?_, ev_int⟩⟩
      · show (if bLt (boolsOf ((word j).map .bool)) bs then _ else _) = _
        rw [boolsOf_map, hb]; rfl
      · show (if bLt (boolsOf ((word j).map .bool)) bs then _ else _) = _
        rw [boolsOf_map, hb]; rfl
    · rw [bltF_len]; omega
    · rw [bleF_len]; omega
    · intro cenv oc' ef d hd
      obtain ⟨j, h1, rfl⟩ := hwds d hd
      refine ⟨asg_name (ef.stor rfl), _, tests_one (ts_cmp (ev_name rfl) (ev_name rfl) (cop_ble R')), fun hb => ?_, fun hb => ⟨_, ?_, ev_int⟩⟩
      · show (if bLe (boolsOf ((word j).map .bool)) bs then _ else _) = _
        rw [boolsOf_map, hb]; rfl
      · show (if bLe (boolsOf ((word j).map .bool)) bs then _ else _) = _
        rw [boolsOf_map, hb]; rfl
    · rw [bleF_len]; omega
    have hwb : (wr (plainS n) (dottedS n) bs).length ≤ 100 := by have := wr_le RW bs; omega
    have hwbs : (sl (wr (plainS n) (dottedS n) bs)).cps.size ≤ 100 := by unfold sl; rw [List.size_toArray]; exact hwb
    have hsk : ∀ j d, ((goalS top).map (sentS bp bd))[j]? = some d → d = sentS bp bd ((goalS top).getD j 0) := fun j d hd => by
      rw [List.getElem?_map] at hd
      cases q : (goalS top)[j]? with
      | none => rw [q] at hd; cases hd
      | some i => rw [q] at hd; rw [getD_at q]; exact (Option.some.inj hd).symm
    have hsl1 : ∀ j A, j < ((goalS top).map (sentS bp bd)).length → Cop prog w g A .Lt (sentS bp bd ((goalS top).getD j 0)) (.str (sl (W bp (46 :: bd) bs))) (decide (j < cntL top bs)) := fun j A hj => by
      rw [List.length_map] at hj
      have hi : (goalS top)[j]? = some (goalS top)[j] := by simp
      have := cop_slt (prog := prog) (w := w) (g := g) (A := A) (a := sl (W bp (46 :: bd) (word ((goalS top).getD j 0)))) (b := sl (W bp (46 :: bd) bs))
      rw [sl_cps, sl_cps, show decide (W bp (46 :: bd) (word ((goalS top).getD j 0)) < W bp (46 :: bd) bs) = bLt (word ((goalS top).getD j 0)) bs by
        rw [Bool.eq_iff_iff, decide_eq_true_eq]; exact W_lt RW.bp0 _ _, getD_at hi, (c3 j _ hi).1] at this
      rw [getD_at hi]; exact this
    have hsl2 : ∀ j A, j < ((goalS top).map (sentS bp bd)).length → Cop prog w g A .Lt (.str (sl (W bp (46 :: bd) bs))) (sentS bp bd ((goalS top).getD j 0)) (decide (cntE top bs ≤ j)) := fun j A hj => by
      rw [List.length_map] at hj
      have hi : (goalS top)[j]? = some (goalS top)[j] := by simp
      have := cop_slt (prog := prog) (w := w) (g := g) (A := A) (a := sl (W bp (46 :: bd) bs)) (b := sl (W bp (46 :: bd) (word ((goalS top).getD j 0))))
      rw [sl_cps, sl_cps, show decide (W bp (46 :: bd) bs < W bp (46 :: bd) (word ((goalS top).getD j 0))) = bLt bs (word ((goalS top).getD j 0)) by
        rw [Bool.eq_iff_iff, decide_eq_true_eq]; exact W_lt RW.bp0 _ _, getD_at hi, (c3 j _ hi).2] at this
      rw [getD_at hi]; exact this
    refine st_if_no F (ts_cmp (ev_call c (ev_glob c (by k_is) (f.kind rfl)) (by k_is) (evs_cons (ev_name rfl) (evs_cons (Ev.of (ev_call c (ev_glob c (by k_is) (f.kind rfl)) (by k_is) (evs_cons (ev_call c (ev_glob c (by k_is) (f.kind rfl)) (by k_is) (evs_cons (ev_name rfl) (evs_cons (ev_name rfl) (evs_cons (ev_name rfl) evs_nil))) evk_nil (fn_written c (bs := bs) (by omega) (by omega)) (R'.le (by decide))) evs_nil) evk_nil (fn_quote c (by omega)) (R'.le (by decide)))
        (congrArg D.str (congrArg sl (quoted RW bs)))) evs_nil)) evk_nil (fn_both c (fun j => sentS bp bd ((goalS top).getD j 0)) (by rw [List.length_map]; omega) (by rw [List.length_map]; exact c1) (by rw [List.length_map]; exact c2) hsk hsl1 hsl2) (R'.le (by decide))) (ev_name rfl)
      (cop_net_same nkb (n := 0) (fun d hd => ?_) (R'.le (by decide)))) fun s F k₁₁ => ?_
    · simp at hd
      rcases hd with rfl | rfl
      · exact .atom (.int _)
      · exact .atom (.int _)
    exact st_nil ⟨rfl, F.pick (.cons rfl (.cons rfl (.cons rfl (.cons rfl (.cons rfl (.cons rfl (.cons rfl .nil))))))), Run.trans k₁ (Run.trans k₂ (Run.trans k₃ (Run.trans k₄ (Run.trans k₅ (Run.trans k₆ (Run.trans (Run.of k₇) (Run.trans (Run.of k₈) (Run.trans k₉ (Run.trans k₁₀ (Run.of k₁₁))))))))))⟩
  refine st_returnK F ev_bool fun v s' r k k' => ?_
  have := r.bool_inv; subst this
  exact h s' k ⟨ps, kpOf k' _ _ P⟩
end
end Mine
end
-- part G1
section
open PySem PySem.W PyProof.Rows
set_option maxRecDepth 100000
set_option linter.unusedVariables false
namespace Mine
theorem fill_G1 : (PySem.Challenge.rw_pe0134_01.most = PySem.Challenge.rw_pe0134_01.most) ∧ (Mine.hd.heap_39 = Mine.hd.heap_39) := by
  k_fill
  exact ⟨rfl, rfl⟩
theorem reps_of {N : Addr → Prop} {h : Heap} : ∀ {vs : List Value} {ns : List Int}, IntsAre vs ns → Reps N h (ns.map .int) vs
  | _, _, .nil => Reps.nil
  | _, _, .cons n t r => Reps.cons (Rep.int _ _) (reps_of r)

section
variable {prog p : Program} {w : World} {s : Shared} {loose : List Str} {mean : ExcName → Option Value} {mg mb : Str → Option Value}
/-- the law answers True, from the head's facts -/
theorem law_true (KX : (Mine.hd.heap_39 w.params).In s.heap) (hT : TabsAt [(150, 148)] s.heap) (T : Top p loose mean mg mb s.heap) {script : List Int} (hsl : script.length ≤ 63) {l : Addr} {vs : List Value} (hl : s.heap.IsList l vs.toArray) (hI : IntsAre vs script)
    {Rs : Result → Shared → Prop} (h : ∀ s', Keeps { s with heap := ghostOf s.heap [(150, 148)] } s' → GrownAt 148 s'.heap → Rs (.ok (.ret (.bool true))) s') :
    codeAny (model prog w) callerA (.call (.ref 151) ⟨[.ref l], []⟩) Rs s := by
  have X' := ghost_K hT KX (by kernel_rfl)
  have T' := ghost_top hT T
  let c : Cx (Mine.hd.heap_39 w.params) (ghostOf s.heap [(150, 148)]) := ⟨X', mg, mb, T'.g, T'.b, T'.builtins, T'.nolimit⟩
  have hP : s.heap.get? 148 = some (tabObj #[]) := (hT (150, 148) (by simp)).2
  have g0 : (ghostOf s.heap [(150, 148)]).get? 148 = none := hideAll_none _ (by simp)
  refine law_walk c (nkb_of c (by kernel_rfl)) (ghost_code hT).1 (fun hp k => ?_) g0 hsl ⟨rfl, by decide, by decide⟩ (fun b o e => of_hideAll _ e) hP hl (reps_of hI) h
  obtain ⟨bm, ob, b1, b2, b3, b4, b5, b6⟩ := T'.bmain
  refine ⟨bm, ob, b1, b2, fun q => ?_, fun q => ?_, k _ _ b3, b4, b5, b6⟩
  · obtain ⟨o, es, ep, e, hd, _⟩ := T'.g
    rw [q, e] at b3; cases b3; rw [hd] at b6; cases b6
  · rw [q, g0] at b3; cases b3
end
set_option maxHeartbeats 2000000 in
theorem G1 : PySem.Challenge.rw_pe0134_01.Holds := Mine.hd (by
  k_fill
  intro w s₀ s₁ mg mb G Y fa o pm cd doc dV kV ho hd hcd hD hmg hg args vals as hpre hlay hrd hwl hlo
  have KX := km_in_of Y
  km_tabs Y
  refine Ground.open G ?_
  intro T B D TE TW
  km_lay T hmg ho hd cd
  have hfa := mg_of (n := PySem.Str.ofString "law") (v := .ref 151) KX T.g (by kernel_rfl)
  have ee := (show mg (PySem.Str.ofString "law") = some (Value.ref fa) from hmg).symm.trans hfa
  cases ee
  wrow_args hpre hlay hrd hwl hlo
  refine enter_call ?_
  kn_posts
  rename IntsAre _ _ => hI
  rename Heap.IsList _ _ _ => hL
  refine law_true KX hT9 T ?hl hL hI fun s' k gr => ⟨⟨.inl ⟨_, .bool true, [], rfl, raisesW_false ?hn, .bool true, ?hp, unshared_nil⟩, kpOf k, ?ho, ?hg⟩, gr, trivial⟩
  case hl => omega
  case hn => wrow_none_raised
  case hp => wrow_post
  case ho => obtain ⟨h', tk, rfl, _⟩ := k; rfl
  case hg => obtain ⟨h', tk, rfl, _⟩ := k; exact hg)
end Mine
end
theorem PySem.Challenge.cw_pe0134_01_holds : PySem.Challenge.rw_pe0134_01.Holds := by
  exact Mine.G1
