import PyProof.Rows.All
import Wide.All
import OpenK.AllK
import Wide.FinOn
import PySem.Challenge.RW_wn0071_01
set_option Elab.async false
set_option linter.unusedVariables false
section
open PySem PySem.W PySem.Calls PyProof.Rows
set_option maxRecDepth 100000
namespace Mine

/-- plain data -/
inductive D where
  | none
  | bool (b : Bool)
  | int (i : Int)
  | str (x : Str)
  | list (ds : List D)
  | tup (ds : List D)
  | mgr

abbrev FMap := Addr → Option Obj
def Sub (F : FMap) (h : Heap) : Prop := ∀ a o, F a = some o → h.get? a = some o
def LeF (F F' : FMap) : Prop := ∀ a o, F a = some o → F' a = some o
theorem LeF.refl (F : FMap) : LeF F F := fun _ _ e => e
theorem LeF.trans {F G H : FMap} (x : LeF F G) (y : LeF G H) : LeF F H := fun a o e => y a o (x a o e)
abbrev FMap.of (h : Heap) : FMap := fun a => h.get? a
def FList (F : FMap) (a : Addr) (vs : List Value) : Prop := ∃ o, F a = some o ∧ o.cls = .type "list" ∧ ∃ n, o.data = .seq vs.toArray n
def FTup (F : FMap) (a : Addr) (vs : List Value) : Prop := ∃ o, F a = some o ∧ o.cls = .type "tuple" ∧ ∃ n, o.data = .seq vs.toArray n
/-- the manager: its dict has the one entry passwd -/
def FMgr (F : FMap) (a : Addr) : Prop := ∃ dx hsh t v n, F a = some (instObj 117 dx) ∧ F dx = some (dictOf [⟨hsh, .str (Str.ofString "passwd") t, v⟩] n)

mutual
inductive In (F : FMap) : Value → D → Prop
  | none : In F .none .none
  | bool (b : Bool) : In F (.bool b) (.bool b)
  | int (i : Int) (t : Tok) : In F (.int i t) (.int i)
  | str (x : Str) (t : Tok) : In F (.str x t) (.str x)
  | list {a vs ds} : FList F a vs → InAll F vs ds → In F (.ref a) (.list ds)
  | tup {a vs ds} : FTup F a vs → InAll F vs ds → In F (.ref a) (.tup ds)
  | mgr {a} : FMgr F a → In F (.ref a) .mgr
inductive InAll (F : FMap) : List Value → List D → Prop
  | nil : InAll F [] []
  | cons {v vs d ds} : In F v d → InAll F vs ds → InAll F (v :: vs) (d :: ds)
end

theorem FList.mono {F F' : FMap} {a vs} (x : FList F a vs) (l : LeF F F') : FList F' a vs := let ⟨o, e, r⟩ := x; ⟨o, l _ _ e, r⟩
theorem FTup.mono {F F' : FMap} {a vs} (x : FTup F a vs) (l : LeF F F') : FTup F' a vs := let ⟨o, e, r⟩ := x; ⟨o, l _ _ e, r⟩
theorem FMgr.mono {F F' : FMap} {a} (x : FMgr F a) (l : LeF F F') : FMgr F' a := let ⟨dx, hsh, t, v, n, e, r⟩ := x; ⟨dx, hsh, t, v, n, l _ _ e, l _ _ r⟩
mutual
theorem In.mono {F F' : FMap} (l : LeF F F') : ∀ {v : Value} {d : D}, In F v d → In F' v d
  | _, _, .none => .none
  | _, _, .bool b => .bool b
  | _, _, .int i t => .int i t
  | _, _, .str x t => .str x t
  | _, _, .list h r => .list (h.mono l) (InAll.mono l r)
  | _, _, .tup h r => .tup (h.mono l) (InAll.mono l r)
  | _, _, .mgr h => .mgr (h.mono l)
theorem InAll.mono {F F' : FMap} (l : LeF F F') : ∀ {vs : List Value} {ds : List D}, InAll F vs ds → InAll F' vs ds
  | _, _, .nil => .nil
  | _, _, .cons h r => .cons (In.mono l h) (InAll.mono l r)
end
section
variable {F : FMap} {v : Value} {d : D} {vs ws : List Value} {ds es : List D}
theorem InAll.length (h : InAll F vs ds) : vs.length = ds.length := by
  induction vs generalizing ds with
  | nil => cases h; rfl
  | cons v vs ih => cases h with | cons _ r => rw [List.length_cons, List.length_cons, ih r]
theorem InAll.append (h : InAll F vs ds) (k : InAll F ws es) : InAll F (vs ++ ws) (ds ++ es) := by
  induction vs generalizing ds with
  | nil => cases h; exact k
  | cons v vs ih => cases h with | cons h r => exact .cons h (ih r)
theorem InAll.get (h : InAll F vs ds) {k : Nat} {d : D} (hk : ds[k]? = some d) : ∃ v, vs[k]? = some v ∧ In F v d := by
  induction vs generalizing ds k with
  | nil => cases h; simp at hk
  | cons v vs ih =>
    cases h with
    | cons h r =>
      cases k with
      | zero => simp at hk; subst hk; exact ⟨v, rfl, h⟩
      | succ k => simp at hk; simpa using ih r hk
theorem InAll.drop (h : InAll F vs ds) (k : Nat) : InAll F (vs.drop k) (ds.drop k) := by
  induction k generalizing vs ds with
  | zero => simpa using h
  | succ k ih => cases h with | nil => simpa using InAll.nil | cons h r => simpa using ih r
theorem InAll.take (h : InAll F vs ds) (k : Nat) : InAll F (vs.take k) (ds.take k) := by
  induction k generalizing vs ds with
  | zero => simpa using InAll.nil
  | succ k ih => cases h with | nil => simpa using InAll.nil | cons h r => simpa using InAll.cons h (ih r)
end

/-- what a step keeps: G is kept, F is frozen data and grows off G -/
structure Grow (G : FMap) (s : Shared) (F : FMap) (s' : Shared) (F' : FMap) : Prop where
  same : ∃ h' tk, s' = { s with heap := h', toks := tk }
  keep : Sub G s'.heap
  le : LeF F F'
  sub : Sub F' s'.heap
  apart : ∀ a, F a = none → (G a).isSome = true → F' a = none
  toks : s.toks ≤ s'.toks

theorem Grow.refl {G : FMap} {s : Shared} {F : FMap} (hG : Sub G s.heap) (hF : Sub F s.heap) : Grow G s F s F :=
  ⟨⟨s.heap, s.toks, rfl⟩, hG, LeF.refl F, hF, fun _ e _ => e, Nat.le_refl _⟩
theorem Grow.trans {G G' : FMap} {s s' s'' : Shared} {F F' F'' : FMap} (x : Grow G s F s' F') (y : Grow G' s' F' s'' F'') (hG : LeF G G') : Grow G s F s'' F'' := by
  obtain ⟨⟨h1, t1, rfl⟩, k1, l1, s1, a1, tk1⟩ := x
  obtain ⟨⟨h2, t2, rfl⟩, k2, l2, s2, a2, tk2⟩ := y
  refine ⟨⟨h2, t2, rfl⟩, fun a o e => k2 a o (hG a o e), l1.trans l2, s2, fun a e g => ?_, Nat.le_trans tk1 tk2⟩
  refine a2 a (a1 a e g) ?_
  obtain ⟨o, ho⟩ := Option.isSome_iff_exists.mp g
  rw [hG a o ho]; rfl
/-- for expressions: the whole heap is kept -/
abbrev Ext (s : Shared) (F : FMap) (s' : Shared) (F' : FMap) : Prop := Grow (FMap.of s.heap) s F s' F'
theorem Ext.refl {s : Shared} {F : FMap} (hF : Sub F s.heap) : Ext s F s F := Grow.refl (fun _ _ e => e) hF
theorem Ext.trans {s s' s'' : Shared} {F F' F'' : FMap} (x : Ext s F s' F') (y : Ext s' F' s'' F'') : Ext s F s'' F'' := Grow.trans x y x.keep
theorem Grow.ext {G : FMap} {s s' s'' : Shared} {F F' F'' : FMap} (x : Grow G s F s' F') (y : Ext s' F' s'' F'') : Grow G s F s'' F'' := Grow.trans x y x.keep
theorem Ext.heap {s : Shared} {F : FMap} {s' : Shared} {F' : FMap} (x : Ext s F s' F') : ∀ b o, s.heap.get? b = some o → s'.heap.get? b = some o := x.keep
/-- only the tokens move -/
theorem Ext.tok {s : Shared} {F : FMap} (hF : Sub F s.heap) {tk : Nat} (ht : s.toks ≤ tk) : Ext s F { s with toks := tk } F :=
  ⟨⟨s.heap, tk, rfl⟩, fun _ _ e => e, LeF.refl F, hF, fun _ e _ => e, ht⟩

/-- F with one more -/
def FMap.add (F : FMap) (a : Addr) (o : Obj) : FMap := fun b => if b = a then some o else F b
theorem FMap.add_self (F : FMap) (a : Addr) (o : Obj) : F.add a o a = some o := by simp [FMap.add]
theorem FMap.add_ne (F : FMap) {a b : Addr} (o : Obj) (h : b ≠ a) : F.add a o b = F b := by simp [FMap.add, h]
theorem FMap.le_add {F : FMap} {a : Addr} (o : Obj) (h : F a = none) : LeF F (F.add a o) := fun b o' e => by
  by_cases hb : b = a
  · subst hb; rw [h] at e; cases e
  · rw [FMap.add_ne F o hb]; exact e
theorem Sub.none_of {F : FMap} {h : Heap} (x : Sub F h) {a : Addr} (e : h.get? a = none) : F a = none := by
  cases q : F a with
  | none => rfl
  | some o => rw [x a o q] at e; cases e
theorem get?_size (h : Heap) : h.get? h.objs.size = none := Heap.get?_none_of_le (Nat.le_refl _)
theorem Sub.push {F : FMap} {h : Heap} (x : Sub F h) (o : Obj) : Sub F (h.push o) := fun a o' e => Heap.get?_push_of_some o (x a o' e)
theorem Sub.push_add {F : FMap} {h : Heap} (x : Sub F h) (o : Obj) (ho : o.isFreed = false) : Sub (F.add h.objs.size o) (h.push o) := fun a o' e => by
  by_cases ha : a = h.objs.size
  · subst ha; rw [FMap.add_self] at e; cases e; exact Heap.get?_push_size h ho
  · rw [FMap.add_ne F o ha] at e; exact Heap.get?_push_of_some o (x a o' e)
/-- one new object, frozen -/
theorem Ext.push {s : Shared} {F : FMap} (hF : Sub F s.heap) (o : Obj) (ho : o.isFreed = false := by rfl) : Ext s F { s with heap := s.heap.push o } (F.add s.heap.objs.size o) :=
  ⟨⟨_, _, rfl⟩, fun a o' e => Heap.get?_push_of_some o e, FMap.le_add o (hF.none_of (get?_size _)), hF.push_add o ho, fun a e g => by
    have : a ≠ s.heap.objs.size := fun q => by subst q; simp [FMap.of, get?_size] at g
    rw [FMap.add_ne F o this]; exact e, Nat.le_refl _⟩
/-- one new object, not frozen -/
theorem Ext.pushOff {s : Shared} {F : FMap} (hF : Sub F s.heap) (o : Obj) : Ext s F { s with heap := s.heap.push o } F :=
  ⟨⟨_, _, rfl⟩, fun a o' e => Heap.get?_push_of_some o e, LeF.refl F, hF.push o, fun a e _ => e, Nat.le_refl _⟩
/-- the heap grew, the frozen part stands -/
theorem Ext.of_keeps {s s' : Shared} {F : FMap} (hF : Sub F s.heap) {h' : Heap} {tk : Nat} (hs : s' = { s with heap := h', toks := tk }) (hk : ∀ b o, s.heap.get? b = some o → h'.get? b = some o) (ht : s.toks ≤ tk) : Ext s F s' F := by
  subst hs
  exact ⟨⟨_, _, rfl⟩, hk, LeF.refl F, fun a o e => hk a o (hF a o e), fun _ e _ => e, ht⟩

/-- a name's value -/
inductive VarIn (env : Env) (h : Heap) (x : Str) (v : Value) : Prop
  | loc {m : Str → Option Value} (hk : env.kindOf x = some .local) (hn : h.Ns env.locals m) (hm : m x = some v)
  | cell {c : Addr} (hk : env.kindOf x = some .cell ∨ env.kindOf x = some .free) (hc : env.cells.lookup x = some c) (hv : h.IsCell c (some v))
theorem VarIn.keeps {env : Env} {h h' : Heap} {x : Str} {v : Value} (V : VarIn env h x v) (hk : ∀ b o, h.get? b = some o → h'.get? b = some o) : VarIn env h' x v := by
  cases V with
  | loc a b c => exact .loc a (b.keeps hk) c
  | cell a b c => exact .cell a b (c.keeps hk)

abbrev Rho := List (Str × D)
structure EnvOk (env : Env) : Prop where
  kind : env.scope.kind = .function
  glob : env.globals = mainGlobals
  blt : env.builtins = builtinsNs

/-- the frozen part holds the base, the names hold their data -/
structure St (hb : Heap) (env : Env) (s : Shared) (F : FMap) (ρ : Rho) : Prop where
  sub : Sub F s.heap
  base : LeF (FMap.of hb) F
  vars : ∀ p ∈ ρ, ∃ v, VarIn env s.heap p.1 v ∧ In F v p.2
  tok : 0 < s.toks
theorem St.ext {hb env s F ρ s' F'} (x : St hb env s F ρ) (e : Ext s F s' F') : St hb env s' F' ρ :=
  ⟨e.sub, x.base.trans e.le, fun p hp => let ⟨v, h1, h2⟩ := x.vars p hp; ⟨v, h1.keeps e.keep, h2.mono e.le⟩, Nat.lt_of_lt_of_le x.tok e.toks⟩
theorem St.keep {hb env s F ρ} (x : St hb env s F ρ) : ∀ b o, hb.get? b = some o → s.heap.get? b = some o := fun b o e => x.sub b o (x.base b o e)
theorem St.weaken {hb env s F ρ ρ'} (x : St hb env s F ρ) (h : ∀ p ∈ ρ', p ∈ ρ) : St hb env s F ρ' := ⟨x.sub, x.base, fun p hp => x.vars p (h p hp), x.tok⟩

/-- room for n more calls -/
structure Amb (n : Nat) (A : Around) : Prop where
  hh : A.handled = none
  depth : A.depth + n < recursionLimit
  units : A.units + 16 * n + 100 < cLine
theorem Amb.mono {n m : Nat} {A : Around} (x : Amb n A) (h : m ≤ n) : Amb m A := ⟨x.hh, by have := x.depth; omega, by have := x.units; omega⟩
theorem Amb.in1 {n : Nat} {A : Around} (x : Amb (n + 1) A) : Amb n A.in1 := ⟨x.hh, by have := x.depth; simp only [Around.in1_depth]; omega, by have := x.units; simp only [Around.in1_units]; omega⟩
theorem Amb.deeper {n : Nat} {A : Around} (x : Amb (n + 1) A) (env : Env) : Amb n (A.deeper env) := ⟨x.hh, by have := x.depth; show A.depth + 1 + n < _; omega, by have := x.units; show A.units + 3 + 16 * n + 100 < _; omega⟩

/-- an expression's datum: it allocates, no more -/
def EJ (prog : Program) (w : World) (hb : Heap) (n : Nat) (env : Env) (ρ : Rho) (e : Expr) (d : D) : Prop :=
  ∀ A, Amb n A → ∀ s F, St hb env s F ρ → ∀ E, wpAny (model prog w) A (eval e env) (fun v s' => ∃ F', Ext s F s' F' ∧ In F' v d) E s

theorem wpAny_toksE {α : Type} {M : Model} {A : Around} {t : Sem α} {s : Shared} {Q : α → Shared → Prop} {E : Value → Shared → Prop}
    (h : wpAny M A t (fun a s' => s.toks ≤ s'.toks → Q a s') E s) : wpAny M A t Q E s :=
  wpAny_with_toks (Nat.le_refl _) (wpAny_mono h (fun _ _ x => x) (fun _ _ x _ => x))

section
variable {prog : Program} {w : World} {hb : Heap} {n : Nat} {env : Env} {ρ : Rho}
theorem EJ.name {x : Str} {pos : Pos} {d : D} (ok : EnvOk env) (hm : (x, d) ∈ ρ) (hd : (x == ("__debug__" : Str)) = false := by decide) (hc : (x == ("__classdict__" : Str)) = false := by decide) : EJ prog w hb n env ρ (.Name x pos) d := by
  intro A hA s F S E
  obtain ⟨v, V, hv⟩ := S.vars _ hm
  have R : Ext s F s F ∧ In F v d := ⟨Ext.refl S.sub, hv⟩
  cases V with
  | loc hk hn hm' => exact wpAny_Name (wpAny_loadName_local ok.kind hk hn hm' ⟨F, R⟩) hd
  | cell hk hcl hv' =>
    rcases hk with hk | hk
    · exact wpAny_Name (wpAny_loadName_cell ok.kind hk hcl hv' ⟨F, R⟩) hd
    · exact wpAny_Name (wpAny_loadName_free ok.kind hk hcl hv' ⟨F, R⟩ hc) hd
theorem EJ.cint {i : Int} {k pos} : EJ prog w hb n env ρ (.Constant (.int i) k pos) (.int i) := fun A _ s F S E =>
  wpAny_Constant_int ⟨F, Ext.tok S.sub (Nat.le_succ _), .int _ _⟩
theorem EJ.cstr {x : Str} {k pos} : EJ prog w hb n env ρ (.Constant (.str x) k pos) (.str x) := fun A _ s F S E =>
  wpAny_Constant_str ⟨F, Ext.tok S.sub (Nat.le_succ _), .str _ _⟩
theorem EJ.cbool {b : Bool} {k pos} : EJ prog w hb n env ρ (.Constant (.bool b) k pos) (.bool b) := fun A _ s F S E =>
  wpAny_Constant_bool ⟨F, Ext.refl S.sub, .bool _⟩
theorem EJ.cnone {k pos} : EJ prog w hb n env ρ (.Constant .none k pos) .none := fun A _ s F S E =>
  wpAny_Constant_none ⟨F, Ext.refl S.sub, .none⟩

/-- an operation on two data -/
def BinOK (prog : Program) (w : World) (op : Operator) (a b d : D) : Prop := ∀ A, Amb 1 A → ∀ s F, Sub F s.heap → ∀ u v, In F u a → In F v b → ∀ E, wpAny (model prog w) A (binaryOp op u v) (fun r s' => ∃ F', Ext s F s' F' ∧ In F' r d) E s
theorem EJ.bin {l r : Expr} {op : Operator} {pos : Pos} {a b d : D} (hl : EJ prog w hb (n+1) env ρ l a) (hr : EJ prog w hb (n+1) env ρ r b) (ho : BinOK prog w op a b d) : EJ prog w hb (n+1) env ρ (.BinOp l op r pos) d := by
  intro A hA s F S E
  refine wpAny_BinOp (wpAny_mono (hl A hA s F S E) (fun u s₁ h₁ => ?_) fun _ _ e => e)
  obtain ⟨F₁, x₁, i₁⟩ := h₁
  refine wpAny_mono (hr A hA s₁ F₁ (S.ext x₁) E) (fun v s₂ h₂ => ?_) fun _ _ e => e
  obtain ⟨F₂, x₂, i₂⟩ := h₂
  refine wpAny_mono (ho A (hA.mono (by omega)) s₂ F₂ x₂.sub u v (i₁.mono x₂.le) i₂ E) (fun r s₃ h₃ => ?_) fun _ _ e => e
  obtain ⟨F₃, x₃, i₃⟩ := h₃
  exact ⟨F₃, (x₁.trans x₂).trans x₃, i₃⟩
end
end Mine
end
section
open PySem PySem.W PySem.Calls PyProof.Rows
set_option maxRecDepth 100000
namespace Mine
section
variable {prog : Program} {w : World}

theorem bin_add_int {a b : Int} : BinOK prog w .Add (.int a) (.int b) (.int (a + b)) := by
  rintro A hA s F S _ _ ⟨⟩ ⟨⟩ E
  with_reducible refine add_int ?_
  exact ⟨F, Ext.tok S (Nat.le_succ _), .int _ _⟩
theorem bin_sub_int {a b : Int} : BinOK prog w .Sub (.int a) (.int b) (.int (a - b)) := by
  rintro A hA s F S _ _ ⟨⟩ ⟨⟩ E
  with_reducible refine sub_int ?_
  exact ⟨F, Ext.tok S (Nat.le_succ _), .int _ _⟩
theorem bin_mod_int {a b : Int} (hb : b ≠ 0) : BinOK prog w .Mod (.int a) (.int b) (.int (a.fmod b)) := by
  rintro A hA s F S _ _ ⟨⟩ ⟨⟩ E
  with_reducible refine mod_int' hb ?_
  exact ⟨F, Ext.tok S (Nat.le_succ _), .int _ _⟩
theorem bin_and_int {a b : Int} : BinOK prog w .BitAnd (.int a) (.int b) (.int (Builtin.bitAnd a b)) := by
  rintro A hA s F S _ _ ⟨⟩ ⟨⟩ E
  with_reducible refine and_int ?_
  exact ⟨F, Ext.tok S (Nat.le_succ _), .int _ _⟩
theorem bin_shr_int {a b : Int} (hb : 0 ≤ b) : BinOK prog w .RShift (.int a) (.int b) (.int (a.fdiv (2 ^ b.toNat))) := by
  rintro A hA s F S _ _ ⟨⟩ ⟨⟩ E
  with_reducible refine rshift_int hb ?_
  exact ⟨F, Ext.tok S (Nat.le_succ _), .int _ _⟩
theorem bin_pow_int {a b : Int} (hb : 0 ≤ b) (hs : (Builtin.Int.intBits a : Int) * b ≤ 2 ^ 27) : BinOK prog w .Pow (.int a) (.int b) (.int (a ^ b.toNat)) := by
  rintro A hA s F S _ _ ⟨⟩ ⟨⟩ E
  with_reducible refine pow_int hb hs ?_
  exact ⟨F, Ext.tok S (Nat.le_succ _), .int _ _⟩
theorem bin_add_str {a b : Str} (h : a.length + b.length ≤ sizeLine) : BinOK prog w .Add (.str a) (.str b) (.str (a ++ b)) := by
  rintro A hA s F S _ _ ⟨⟩ ⟨⟩ E
  exact wpAny_toksE (add_str (fun t' tk ht => ⟨F, Ext.tok S ht, .str _ _⟩) h)

theorem FList.isList {F : FMap} {a vs} {h : Heap} (x : FList F a vs) (S : Sub F h) : h.IsList a vs.toArray := let ⟨o, e, c, n, d⟩ := x; ⟨o, S a o e, c, n, d⟩
theorem FTup.isTup {F : FMap} {a vs} {h : Heap} (x : FTup F a vs) (S : Sub F h) : IsTup h a vs.toArray := let ⟨o, e, c, n, d⟩ := x; ⟨o, S a o e, c, n, d⟩
theorem FList.new {F : FMap} {a : Addr} {vs : List Value} {n : Nat} : FList (F.add a { cls := .type "list", data := .seq vs.toArray n }) a vs := ⟨_, FMap.add_self _ _ _, rfl, n, rfl⟩
theorem FTup.new {F : FMap} {a : Addr} {vs : List Value} {n : Nat} : FTup (F.add a { cls := .type "tuple", data := .seq vs.toArray n }) a vs := ⟨_, FMap.add_self _ _ _, rfl, n, rfl⟩

/-- a new list object, frozen at once -/
theorem ext_newList {s : Shared} {F : FMap} (S : Sub F s.heap) {vs : List Value} {ds : List D} (i : InAll F vs ds) :
    ∃ F', Ext s F { s with heap := s.heap.push { cls := .type "list", data := .seq vs.toArray } } F' ∧ In F' (.ref s.heap.objs.size) (.list ds) := by
  have x := Ext.push S ({ cls := .type "list", data := .seq vs.toArray } : Obj)
  exact ⟨_, x, .list FList.new (i.mono x.le)⟩
theorem ext_newTup {s : Shared} {F : FMap} (S : Sub F s.heap) {vs : List Value} {ds : List D} (i : InAll F vs ds) :
    ∃ F', Ext s F { s with heap := s.heap.push { cls := .type "tuple", data := .seq vs.toArray } } F' ∧ In F' (.ref s.heap.objs.size) (.tup ds) := by
  have x := Ext.push S ({ cls := .type "tuple", data := .seq vs.toArray } : Obj)
  exact ⟨_, x, .tup FTup.new (i.mono x.le)⟩

theorem bin_add_list {as bs : List D} (h : as.length + bs.length ≤ sizeLine) : BinOK prog w .Add (.list as) (.list bs) (.list (as ++ bs)) := by
  rintro A hA s F S _ _ ⟨⟩ ⟨⟩ E
  rename_i a vs ha ia b ws hb ib
  obtain ⟨⟨cls, dd, data, sl⟩, ho, hc, n, hd⟩ := ha.isList S
  obtain ⟨⟨cls2, dd2, data2, sl2⟩, ho2, hc2, n2, hd2⟩ := hb.isList S
  simp only at hc hd hc2 hd2
  subst hc hd hc2 hd2
  have e : vs.toArray ++ ws.toArray = (vs ++ ws).toArray := by simp
  refine concat_meets ⟨_, ho, rfl⟩ ⟨_, ho2, rfl⟩ noFill_list_add seq_list_add PySem.F.slot_list_add PySem.F.entry_list_add (PySem.F.args_list_add_2 _ _) (list_addW a b vs.toArray ws.toArray n n2 dd dd2 sl sl2 (by rw [ia.length.symm, ib.length.symm] at h; simpa using h)) ⟨ho, ho2, ?_⟩
  rw [e]
  exact ext_newList S (ia.append ib)

def UnOK (prog : Program) (w : World) (op : UnaryOp) (a d : D) : Prop := ∀ A, ∀ s F, Sub F s.heap → ∀ u, In F u a → ∀ E, wpAny (model prog w) A (unaryOp op u) (fun r s' => ∃ F', Ext s F s' F' ∧ In F' r d) E s
theorem un_inv {a : Int} : UnOK prog w .Invert (.int a) (.int (Builtin.bitNot a)) := by
  rintro A s F S _ ⟨⟩ E
  with_reducible refine invert_int ?_
  exact ⟨F, Ext.tok S (Nat.le_succ _), .int _ _⟩
theorem un_neg {a : Int} : UnOK prog w .USub (.int a) (.int (-a)) := by
  rintro A s F S _ ⟨⟩ E
  with_reducible refine neg_int ?_
  exact ⟨F, Ext.tok S (Nat.le_succ _), .int _ _⟩

variable {hb : Heap} {n : Nat} {env : Env} {ρ : Rho}
theorem EJ.un {x : Expr} {op : UnaryOp} {pos : Pos} {a d : D} (hx : EJ prog w hb n env ρ x a) (ho : UnOK prog w op a d) : EJ prog w hb n env ρ (.UnaryOp op x pos) d := by
  intro A hA s F S E
  refine wpAny_UnaryOp (wpAny_mono (hx A hA s F S E) (fun u s₁ h₁ => ?_) fun _ _ e => e)
  obtain ⟨F₁, x₁, i₁⟩ := h₁
  refine wpAny_mono (ho A s₁ F₁ x₁.sub u i₁ E) (fun r s₂ h₂ => ?_) fun _ _ e => e
  obtain ⟨F₂, x₂, i₂⟩ := h₂
  exact ⟨F₂, x₁.trans x₂, i₂⟩

/-- a comparison of two data -/
def CmpOK (prog : Program) (w : World) (op : CmpOp) (a b : D) (r : Bool) : Prop := ∀ A, Amb 1 A → ∀ s F, Sub F s.heap → ∀ u v, In F u a → In F v b → ∀ E, wpAny (model prog w) A (compareOp op u v) (fun x s' => x = .bool r ∧ ∃ F', Ext s F s' F') E s
theorem cmp_eq_int {a b : Int} : CmpOK prog w .Eq (.int a) (.int b) (a == b) := by
  rintro A hA s F S _ _ ⟨⟩ ⟨⟩ E; with_reducible refine eq_int ?_; exact ⟨rfl, F, Ext.refl S⟩
theorem cmp_ne_int {a b : Int} : CmpOK prog w .NotEq (.int a) (.int b) (a != b) := by
  rintro A hA s F S _ _ ⟨⟩ ⟨⟩ E; with_reducible refine ne_int ?_; exact ⟨rfl, F, Ext.refl S⟩
theorem cmp_gt_int {a b : Int} : CmpOK prog w .Gt (.int a) (.int b) (decide (b < a)) := by
  rintro A hA s F S _ _ ⟨⟩ ⟨⟩ E; with_reducible refine gt_int ?_; exact ⟨rfl, F, Ext.refl S⟩
theorem cmp_ge_int {a b : Int} : CmpOK prog w .GtE (.int a) (.int b) (decide (b ≤ a)) := by
  rintro A hA s F S _ _ ⟨⟩ ⟨⟩ E; with_reducible refine ge_int ?_; exact ⟨rfl, F, Ext.refl S⟩
theorem cmp_eq_str {a b : Str} : CmpOK prog w .Eq (.str a) (.str b) (a == b) := by
  rintro A hA s F S _ _ ⟨⟩ ⟨⟩ E; with_reducible refine eq_str ?_; exact ⟨rfl, F, Ext.refl S⟩
theorem cmp_ne_str {a b : Str} : CmpOK prog w .NotEq (.str a) (.str b) (a != b) := by
  rintro A hA s F S _ _ ⟨⟩ ⟨⟩ E; with_reducible refine ne_str ?_; exact ⟨rfl, F, Ext.refl S⟩
theorem cmp_is_bool {a b : Bool} : CmpOK prog w .Is (.bool a) (.bool b) (a == b) := by
  rintro A hA s F S _ _ ⟨⟩ ⟨⟩ E; with_reducible refine wpAny_is_plain rfl ?_; exact ⟨by cases a <;> cases b <;> decide, F, Ext.refl S⟩
theorem cmp_isNot_bool {a b : Bool} : CmpOK prog w .IsNot (.bool a) (.bool b) (a != b) := by
  rintro A hA s F S _ _ ⟨⟩ ⟨⟩ E; with_reducible refine wpAny_isNot_plain rfl ?_; exact ⟨by cases a <;> cases b <;> decide, F, Ext.refl S⟩

mutual
def py : D → PyData
  | .none => .none
  | .bool b => .bool b
  | .int i => .int i
  | .str x => .str x
  | .list ds => .list (pys ds)
  | .tup ds => .tuple (pys ds)
  | .mgr => .none
def pys : List D → List PyData
  | [] => []
  | d :: ds => py d :: pys ds
end
mutual
def okE : Nat → D → Bool
  | _, .int _ => true
  | _, .str x => PyData.strOk x
  | n + 1, .list ds => okEs n ds
  | n + 1, .tup ds => okEs n ds
  | _, _ => false
def okEs : Nat → List D → Bool
  | _, [] => true
  | n, d :: ds => okE n d && okEs n ds
end
mutual
theorem reads_in {F : FMap} {h : Heap} (S : Sub F h) : ∀ {v : Value} {d : D} (n : Nat), In F v d → okE n d = true → ∃ as, Reads h v (py d) as
  | _, _, _, .none, hk => by simp [okE] at hk
  | _, _, _, .bool b, hk => by simp [okE] at hk
  | _, _, _, .int i t, _ => ⟨_, Reads.int i t⟩
  | _, _, _, .str x t, _ => ⟨_, Reads.str x t⟩
  | _, _, 0, .list _ _, hk => by simp [okE] at hk
  | _, _, 0, .tup _ _, hk => by simp [okE] at hk
  | _, _, n + 1, .list hm r, hk => by
    obtain ⟨as, q⟩ := reads_all S n r (by simpa [okE] using hk)
    obtain ⟨o, e, c, m, d⟩ := hm
    rw [py]
    exact ⟨_, reads_list_at (S _ _ e) c d (by simpa using q)⟩
  | _, _, n + 1, .tup hm r, hk => by
    obtain ⟨as, q⟩ := reads_all S n r (by simpa [okE] using hk)
    obtain ⟨o, e, c, m, d⟩ := hm
    rw [py]
    exact ⟨_, reads_tuple_at (S _ _ e) c d (by simpa using q)⟩
  | _, _, _, .mgr _, hk => by simp [okE] at hk
theorem reads_all {F : FMap} {h : Heap} (S : Sub F h) : ∀ {vs : List Value} {ds : List D} (n : Nat), InAll F vs ds → okEs n ds = true → ∃ as, ReadsAll h vs (pys ds) as
  | _, _, _, .nil, _ => ⟨_, ReadsAll.nil⟩
  | _, _, n, .cons hd r, hk => by
    simp only [okEs, Bool.and_eq_true] at hk
    obtain ⟨as, q⟩ := reads_in S n hd hk.1
    obtain ⟨bs, p⟩ := reads_all S n r hk.2
    rw [pys]
    exact ⟨_, ReadsAll.cons q p⟩
end
mutual
theorem lay_in : ∀ (n : Nat) (d : D), okE n d = true → (py d).canLay0 = true ∧ (py d).depth ≤ n
  | n, .none, h => by simp [okE] at h
  | n, .bool b, h => by simp [okE] at h
  | n, .int i, h => by simp [py, PyData.canLay0, PyData.depth]
  | n, .str x, h => by simp [okE] at h; simp [py, PyData.canLay0, PyData.depth, h]
  | 0, .list ds, h => by simp [okE] at h
  | 0, .tup ds, h => by simp [okE] at h
  | n + 1, .list ds, h => by
    have q := lay_all n ds (by simpa [okE] using h)
    have q2 := q.2
    simp only [py, PyData.canLay0, PyData.depth, q.1, true_and]; omega
  | n + 1, .tup ds, h => by
    have q := lay_all n ds (by simpa [okE] using h)
    have q2 := q.2
    simp only [py, PyData.canLay0, PyData.depth, q.1, true_and]; omega
  | n, .mgr, h => by simp [okE] at h
theorem lay_all : ∀ (n : Nat) (ds : List D), okEs n ds = true → PyData.canLayAll0 (pys ds) = true ∧ PyData.depthAll (pys ds) ≤ n
  | n, [], _ => by simp [pys, PyData.canLayAll0, PyData.depthAll]
  | n, d :: ds, h => by
    simp only [okEs, Bool.and_eq_true] at h
    have h1 := lay_in n d h.1
    have h2 := lay_all n ds h.2
    have a1 := h1.2
    have a2 := h2.2
    simp only [pys, PyData.canLayAll0, PyData.depthAll, h1.1, h2.1, Bool.and_self, true_and]
    omega
end
mutual
theorem eqv_in : ∀ (n k : Nat) (d e : D), okE n d = true → okE k e = true → (PyData.eqv (py d) (py e) = true ↔ d = e)
  | n, k, .none, e, h, _ => by simp [okE] at h
  | n, k, .bool b, e, h, _ => by simp [okE] at h
  | n, k, .mgr, e, h, _ => by simp [okE] at h
  | n, k, .int i, e, h, h2 => by cases e <;> cases k <;> simp_all [okE, py, PyData.eqv]
  | n, k, .str x, e, h, h2 => by cases e <;> cases k <;> simp_all [okE, py, PyData.eqv]
  | 0, k, .list ds, e, h, _ => by simp [okE] at h
  | 0, k, .tup ds, e, h, _ => by simp [okE] at h
  | n + 1, k, .list ds, e, h, h2 => by
    cases e with
    | list es =>
      cases k with
      | zero => simp [okE] at h2
      | succ k =>
        simp only [py, PyData.eqv, D.list.injEq]
        exact eqv_all n k ds es (by simpa [okE] using h) (by simpa [okE] using h2)
    | _ => cases k <;> simp_all [okE, py, PyData.eqv]
  | n + 1, k, .tup ds, e, h, h2 => by
    cases e with
    | tup es =>
      cases k with
      | zero => simp [okE] at h2
      | succ k =>
        simp only [py, PyData.eqv, D.tup.injEq]
        exact eqv_all n k ds es (by simpa [okE] using h) (by simpa [okE] using h2)
    | _ => cases k <;> simp_all [okE, py, PyData.eqv]
theorem eqv_all : ∀ (n k : Nat) (ds es : List D), okEs n ds = true → okEs k es = true → (PyData.eqvAll (pys ds) (pys es) = true ↔ ds = es)
  | n, k, [], es, _, _ => by cases es <;> simp [pys, PyData.eqvAll]
  | n, k, d :: ds, [], _, _ => by simp [pys, PyData.eqvAll]
  | n, k, d :: ds, e :: es, h, h2 => by
    simp only [okEs, Bool.and_eq_true] at h h2
    have q1 := eqv_in n k d e h.1 h2.1
    have q2 := eqv_all n k ds es h.2 h2.2
    simp only [pys, PyData.eqvAll, Bool.and_eq_true, q1, q2, List.cons.injEq]
end
theorem shaped_in {n : Nat} {d : D} (hn : n ≤ 20) (h : okE n d = true) : SeqAt.shaped (py d) = true := by
  have l := lay_in n d h
  unfold SeqAt.shaped; rw [l.1, Bool.true_and]; exact decide_eq_true (Nat.le_trans l.2 (Nat.le_trans hn (by decide)))
theorem cmp_eq {a b : D} {r : Bool} (ha : okE 8 a = true) (hb : okE 8 b = true) (hr : r = true ↔ a = b) : CmpOK prog w .Eq a b r := by
  intro A hA s F S u v iu iv E
  obtain ⟨as, ra⟩ := reads_in S 8 iu ha
  obtain ⟨bs, rb⟩ := reads_in S 8 iv hb
  have e : PyData.eqv (py a) (py b) = r := by
    have q := eqv_in 8 8 a b ha hb
    rw [Bool.eq_iff_iff, q, hr]
  exact eq_dataH ra rb (shaped_in (by decide) ha) (shaped_in (by decide) hb) (by have := hA.units; omega) ⟨by rw [e], F, Ext.refl S⟩
theorem cmp_ne {a b : D} {r : Bool} (ha : okE 8 a = true) (hb : okE 8 b = true) (hr : r = true ↔ a ≠ b) : CmpOK prog w .NotEq a b r := by
  intro A hA s F S u v iu iv E
  obtain ⟨as, ra⟩ := reads_in S 8 iu ha
  obtain ⟨bs, rb⟩ := reads_in S 8 iv hb
  have e : (!PyData.eqv (py a) (py b)) = r := by
    have q := eqv_in 8 8 a b ha hb
    cases h : PyData.eqv (py a) (py b) <;> cases r <;> simp_all
  exact ne_dataH ra rb (shaped_in (by decide) ha) (shaped_in (by decide) hb) (by have := hA.units; omega) ⟨by rw [e], F, Ext.refl S⟩
/-- not in a list of ints -/
theorem intsAre_of {F : FMap} : ∀ {vs : List Value} {ns : List Int}, InAll F vs (ns.map D.int) → IntsAre vs ns
  | _, [], .nil => .nil
  | _, _ :: _, .cons (.int i t) r => .cons i t (intsAre_of r)
theorem any_eq_contains (i : Int) (ns : List Int) : (ns.any fun x => x == i) = ns.contains i := by
  induction ns with
  | nil => rfl
  | cons m ns ih =>
    rw [List.any_cons, ih, List.contains_cons]
    congr 1
    exact Bool.beq_comm
theorem cmp_notIn_ints {i : Int} {ns : List Int} : CmpOK prog w .NotIn (.int i) (.list (ns.map D.int)) (!ns.contains i) := by
  rintro A hA s F S _ _ ⟨⟩ ⟨⟩ E
  rename_i t a vs ha ia
  refine notin_list_ints (ha.isList S) (intsAre_of ia) ⟨?_, F, Ext.refl S⟩
  rw [any_eq_contains]
end
end Mine
end
section
open PySem PySem.W PySem.Calls PyProof.Rows
set_option maxRecDepth 100000
namespace Mine
section
variable {prog : Program} {w : World} {hb : Heap} {n : Nat} {env : Env} {ρ : Rho}

/-- a test's outcome -/
def BJ (prog : Program) (w : World) (hb : Heap) (n : Nat) (env : Env) (ρ : Rho) (e : Expr) (b : Bool) : Prop :=
  ∀ A, Amb n A → ∀ s F, St hb env s F ρ → ∀ E, wpAny (model prog w) A (isTrue e env (eval e env)) (fun r s' => r = b ∧ ∃ F', Ext s F s' F') E s

theorem EJ.cmp {l r : Expr} {op : CmpOp} {pos : Pos} {a b : D} {x : Bool} (hl : EJ prog w hb (n+1) env ρ l a) (hr : EJ prog w hb (n+1) env ρ r b) (ho : CmpOK prog w op a b x)
    (hm : behindInMarks op r = false := by with_unfolding_all rfl) : EJ prog w hb (n+1) env ρ (.Compare l [op] [r] pos) (.bool x) := by
  intro A hA s F S E
  refine wpAny_Compare1 (wpAny_mono (hl A hA s F S E) (fun u s₁ h₁ => ?_) fun _ _ e => e) hm
  obtain ⟨F₁, x₁, i₁⟩ := h₁
  refine wpAny_mono (hr A hA s₁ F₁ (S.ext x₁) E) (fun v s₂ h₂ => ?_) fun _ _ e => e
  obtain ⟨F₂, x₂, i₂⟩ := h₂
  refine wpAny_mono (ho A (hA.mono (by omega)) s₂ F₂ x₂.sub u v (i₁.mono x₂.le) i₂ E) (fun r s₃ h₃ => ?_) fun _ _ e => e
  obtain ⟨rfl, F₃, x₃⟩ := h₃
  exact ⟨F₃, (x₁.trans x₂).trans x₃, .bool _⟩
theorem BJ.cmp {l r : Expr} {op : CmpOp} {pos : Pos} {a b : D} {x : Bool} (hl : EJ prog w hb (n+1) env ρ l a) (hr : EJ prog w hb (n+1) env ρ r b) (ho : CmpOK prog w op a b x)
    (hm : behindInMarks op r = false := by with_unfolding_all rfl) : BJ prog w hb (n+1) env ρ (.Compare l [op] [r] pos) x := by
  intro A hA s F S E
  refine wpAny_isTrue_Compare1 (wpAny_mono (hl A hA s F S E) (fun u s₁ h₁ => ?_) fun _ _ e => e) hm
  obtain ⟨F₁, x₁, i₁⟩ := h₁
  refine wpAny_mono (hr A hA s₁ F₁ (S.ext x₁) E) (fun v s₂ h₂ => ?_) fun _ _ e => e
  obtain ⟨F₂, x₂, i₂⟩ := h₂
  refine wpAny_mono (ho A (hA.mono (by omega)) s₂ F₂ x₂.sub u v (i₁.mono x₂.le) i₂ E) (fun r s₃ h₃ => ?_) fun _ _ e => e
  obtain ⟨rfl, F₃, x₃⟩ := h₃
  exact wpAny_truthy_bool ⟨rfl, F₃, (x₁.trans x₂).trans x₃⟩
theorem BJ.not {x : Expr} {pos : Pos} {b : Bool} (h : BJ prog w hb n env ρ x b) : BJ prog w hb n env ρ (.UnaryOp .Not x pos) (!b) := by
  intro A hA s F S E
  refine wpAny_isTrue_Not (wpAny_mono (h A hA s F S E) (fun r s₁ h₁ => ?_) fun _ _ e => e)
  obtain ⟨rfl, x₁⟩ := h₁
  exact ⟨rfl, x₁⟩
/-- a test that is a value's truth -/
theorem BJ.val {e : Expr} {b : Bool} (h : EJ prog w hb n env ρ e (.bool b)) (he : ∀ env : Env, isTrue e env (eval e env) = (do let v ← eval e env; standAt e.pos; holding [v] (truthy v)) := by intro _; rfl) : BJ prog w hb n env ρ e b := by
  intro A hA s F S E
  rw [he]
  refine wpAny_bind (wpAny_mono (h A hA s F S E) (fun v s₁ h₁ => ?_) fun _ _ e => e)
  obtain ⟨F₁, x₁, ⟨⟩⟩ := h₁
  exact wpAny_bind (wpAny_standAt (wpAny_holding (wpAny_truthy_bool ⟨rfl, F₁, x₁⟩)))
/-- all of «and», some of «or» -/
def AllB (prog : Program) (w : World) (hb : Heap) (n : Nat) (env : Env) (ρ : Rho) (op : BoolOp) (es : List Expr) (b : Bool) : Prop :=
  ∀ A, Amb n A → ∀ s F, St hb env s F ρ → ∀ E, wpAny (model prog w) A (allTrue op es env) (fun r s' => r = b ∧ ∃ F', Ext s F s' F') E s
theorem AllB.and0 : AllB prog w hb n env ρ .And [] true := fun A hA s F S E => wpAny_allTrue_And_nil ⟨rfl, F, Ext.refl S.sub⟩
theorem AllB.or0 : AllB prog w hb n env ρ .Or [] false := fun A hA s F S E => wpAny_allTrue_Or_nil ⟨rfl, F, Ext.refl S.sub⟩
theorem AllB.and {x : Expr} {r : List Expr} {a b : Bool} (h : BJ prog w hb n env ρ x a) (hr : a = true → AllB prog w hb n env ρ .And r b) : AllB prog w hb n env ρ .And (x :: r) (a && b) := by
  intro A hA s F S E
  refine wpAny_allTrue_And_cons (wpAny_mono (h A hA s F S E) (fun t s₁ h₁ => ?_) fun _ _ e => e)
  obtain ⟨rfl, F₁, x₁⟩ := h₁
  cases t with
  | false => exact ⟨rfl, F₁, x₁⟩
  | true => exact wpAny_mono (hr rfl A hA s₁ F₁ (S.ext x₁) E) (fun t s₂ h₂ => let ⟨e, F₂, x₂⟩ := h₂; ⟨by simpa using e, F₂, x₁.trans x₂⟩) fun _ _ e => e
theorem AllB.or {x : Expr} {r : List Expr} {a b : Bool} (h : BJ prog w hb n env ρ x a) (hr : a = false → AllB prog w hb n env ρ .Or r b) : AllB prog w hb n env ρ .Or (x :: r) (a || b) := by
  intro A hA s F S E
  refine wpAny_allTrue_Or_cons (wpAny_mono (h A hA s F S E) (fun t s₁ h₁ => ?_) fun _ _ e => e)
  obtain ⟨rfl, F₁, x₁⟩ := h₁
  cases t with
  | true => exact ⟨rfl, F₁, x₁⟩
  | false => exact wpAny_mono (hr rfl A hA s₁ F₁ (S.ext x₁) E) (fun t s₂ h₂ => let ⟨e, F₂, x₂⟩ := h₂; ⟨by simpa using e, F₂, x₁.trans x₂⟩) fun _ _ e => e
theorem BJ.bool {op : BoolOp} {es : List Expr} {pos : Pos} {b : Bool} (h : AllB prog w hb n env ρ op es b) : BJ prog w hb n env ρ (.BoolOp op es pos) b :=
  fun A hA s F S E => wpAny_isTrue_BoolOp (h A hA s F S E)

/-- «and», «or» of bools as a value -/
def OpB (prog : Program) (w : World) (hb : Heap) (n : Nat) (env : Env) (ρ : Rho) (op : BoolOp) (es : List Expr) (b : Bool) : Prop :=
  ∀ pos A, Amb n A → ∀ s F, St hb env s F ρ → ∀ E, wpAny (model prog w) A (boolOp pos op (evalEach es env)) (fun r s' => r = .bool b ∧ ∃ F', Ext s F s' F') E s
theorem OpB.one {op : BoolOp} {x : Expr} {b : Bool} (h : EJ prog w hb n env ρ x (.bool b)) : OpB prog w hb n env ρ op [x] b := by
  intro pos A hA s F S E
  refine wpAny_mono (h A hA s F S E) (fun v s₁ h₁ => ?_) fun _ _ e => e
  obtain ⟨F₁, x₁, ⟨⟩⟩ := h₁
  exact ⟨rfl, F₁, x₁⟩
theorem OpB.and {x y : Expr} {r : List Expr} {a b : Bool} (h : EJ prog w hb n env ρ x (.bool a)) (hr : a = true → OpB prog w hb n env ρ .And (y :: r) b) : OpB prog w hb n env ρ .And (x :: y :: r) (a && b) := by
  intro pos A hA s F S E
  show wpAny _ A (do
    let v ← eval x env
    standAt pos
    let t ← holding [v] (truthy v)
    match BoolOp.And, t with
    | .And, false | .Or, true => pure v
    | _, _ => boolOp pos .And (evalEach (y :: r) env)) _ _ s
  refine wpAny_bind (wpAny_mono (h A hA s F S E) (fun v s₁ h₁ => ?_) fun _ _ e => e)
  obtain ⟨F₁, x₁, ⟨⟩⟩ := h₁
  refine wpAny_bind (wpAny_standAt (wpAny_bind (wpAny_holding (wpAny_truthy_bool ?_))))
  cases a with
  | false => exact wpAny_pure ⟨rfl, F₁, x₁⟩
  | true => exact wpAny_mono (hr rfl pos A hA s₁ F₁ (S.ext x₁) E) (fun t s₂ h₂ => let ⟨e, F₂, x₂⟩ := h₂; ⟨by simpa using e, F₂, x₁.trans x₂⟩) fun _ _ e => e
theorem OpB.or {x y : Expr} {r : List Expr} {a b : Bool} (h : EJ prog w hb n env ρ x (.bool a)) (hr : a = false → OpB prog w hb n env ρ .Or (y :: r) b) : OpB prog w hb n env ρ .Or (x :: y :: r) (a || b) := by
  intro pos A hA s F S E
  show wpAny _ A (do
    let v ← eval x env
    standAt pos
    let t ← holding [v] (truthy v)
    match BoolOp.Or, t with
    | .And, false | .Or, true => pure v
    | _, _ => boolOp pos .Or (evalEach (y :: r) env)) _ _ s
  refine wpAny_bind (wpAny_mono (h A hA s F S E) (fun v s₁ h₁ => ?_) fun _ _ e => e)
  obtain ⟨F₁, x₁, ⟨⟩⟩ := h₁
  refine wpAny_bind (wpAny_standAt (wpAny_bind (wpAny_holding (wpAny_truthy_bool ?_))))
  cases a with
  | true => exact wpAny_pure ⟨rfl, F₁, x₁⟩
  | false => exact wpAny_mono (hr rfl pos A hA s₁ F₁ (S.ext x₁) E) (fun t s₂ h₂ => let ⟨e, F₂, x₂⟩ := h₂; ⟨by simpa using e, F₂, x₁.trans x₂⟩) fun _ _ e => e
theorem EJ.bool {op : BoolOp} {es : List Expr} {pos : Pos} {b : Bool} (h : OpB prog w hb n env ρ op es b) : EJ prog w hb n env ρ (.BoolOp op es pos) (.bool b) := by
  intro A hA s F S E
  show wpAny _ A (boolOp pos op (evalEach es env)) _ _ s
  exact wpAny_mono (h pos A hA s F S E) (fun v s₁ h₁ => let ⟨e, F₁, x₁⟩ := h₁; ⟨F₁, x₁, by rw [e]; exact .bool _⟩) fun _ _ e => e
theorem EJ.ifexp {t x y : Expr} {pos : Pos} {b : Bool} {d : D} (ht : BJ prog w hb n env ρ t b) (hx : b = true → EJ prog w hb n env ρ x d) (hy : b = false → EJ prog w hb n env ρ y d) : EJ prog w hb n env ρ (.IfExp t x y pos) d := by
  intro A hA s F S E
  refine wpAny_IfExp (wpAny_mono (ht A hA s F S E) (fun r s₁ h₁ => ?_) fun _ _ e => e)
  obtain ⟨rfl, F₁, x₁⟩ := h₁
  cases r with
  | true => exact wpAny_mono (hx rfl A hA s₁ F₁ (S.ext x₁) E) (fun v s₂ h₂ => let ⟨F₂, x₂, i⟩ := h₂; ⟨F₂, x₁.trans x₂, i⟩) fun _ _ e => e
  | false => exact wpAny_mono (hy rfl A hA s₁ F₁ (S.ext x₁) E) (fun v s₂ h₂ => let ⟨F₂, x₂, i⟩ := h₂; ⟨F₂, x₁.trans x₂, i⟩) fun _ _ e => e

/-- the arguments, the items -/
def AJ (prog : Program) (w : World) (hb : Heap) (n : Nat) (env : Env) (ρ : Rho) (es : List Expr) (ds : List D) : Prop :=
  ∀ pos A, Amb n A → ∀ s F, St hb env s F ρ → ∀ E, wpAny (model prog w) A (spliced (backTo pos (starEach es env))) (fun vs s' => ∃ F', Ext s F s' F' ∧ InAll F' vs ds) E s
theorem AJ.nil : AJ prog w hb n env ρ [] [] := fun pos A hA s F S E => args_nil ⟨F, Ext.refl S.sub, .nil⟩
theorem AJ.cons {e : Expr} {r : List Expr} {d : D} {ds : List D} (h : EJ prog w hb n env ρ e d) (hr : AJ prog w hb n env ρ r ds)
    (he : ∀ env, starEach (e :: r) env = (false, eval e env) :: starEach r env := by intro _; rfl) : AJ prog w hb n env ρ (e :: r) (d :: ds) := by
  intro pos A hA s F S E
  refine args_cons (wpAny_mono (h A hA s F S E) (fun v s₁ h₁ => ?_) fun _ _ e => e) (he env)
  obtain ⟨F₁, x₁, i₁⟩ := h₁
  refine wpAny_mono (hr pos A hA s₁ F₁ (S.ext x₁) E) (fun vs s₂ h₂ => ?_) fun _ _ e => e
  obtain ⟨F₂, x₂, i₂⟩ := h₂
  exact ⟨F₂, x₁.trans x₂, .cons (i₁.mono x₂.le) i₂⟩
theorem EJ.list {es : List Expr} {pos : Pos} {ds : List D} (h : AJ prog w hb n env ρ es ds) (hs : ds.length ≤ sizeLine) : EJ prog w hb n env ρ (.List es pos) (.list ds) := by
  intro A hA s F S E
  refine List_ (wpAny_mono (h pos A hA s F S E) (fun vs s₁ h₁ => ?_) fun _ _ e => e)
  obtain ⟨F₁, x₁, i₁⟩ := h₁
  refine wpAny_newObj_type ?_ (by show vs.toArray.size ≤ sizeLine; rw [List.size_toArray, i₁.length]; exact hs)
  obtain ⟨F₂, x₂, i₂⟩ := ext_newList x₁.sub i₁
  exact ⟨F₂, x₁.trans x₂, i₂⟩
theorem EJ.tup {es : List Expr} {k : Nat} {pos : Pos} {ds : List D} (h : AJ prog w hb n env ρ es ds) (hs : ds.length ≤ sizeLine) : EJ prog w hb n env ρ (.Tuple es k pos) (.tup ds) := by
  intro A hA s F S E
  refine Tuple_ (wpAny_mono (h pos A hA s F S E) (fun vs s₁ h₁ => ?_) fun _ _ e => e)
  obtain ⟨F₁, x₁, i₁⟩ := h₁
  refine wpAny_newObj_type ?_ (by show vs.toArray.size ≤ sizeLine; rw [List.size_toArray, i₁.length]; exact hs)
  obtain ⟨F₂, x₂, i₂⟩ := ext_newTup x₁.sub i₁
  exact ⟨F₂, x₁.trans x₂, i₂⟩

/-- x[i] -/
def GetOK (prog : Program) (w : World) (a b d : D) : Prop := ∀ A, ∀ s F, Sub F s.heap → ∀ u v, In F u a → In F v b →
  (∃ T id, s.TypeIs u T ∧ typeLookup (.type T) "__getitem__" = pure (some (.builtin id))) ∧ ∀ E, wpAny (model prog w) A (getItem u v) (fun r s' => ∃ F', Ext s F s' F' ∧ In F' r d) E s
theorem subTail {A : Around} {s : Shared} {value slice : Expr} {o i : Value} {T id : String} {Q : Value → Shared → Prop} {E : Value → Shared → Prop} (hT : s.TypeIs o T)
    (hl : typeLookup (.type T) "__getitem__" = pure (some (.builtin id))) (h : wpAny (model prog w) A (getItem o i) Q E s)
    (hs : ∃ vs, subscripted slice false o i = operate vs (getItem o i)) :
    wpAny (model prog w) A (subscriptTail value slice o i) Q E s := by
  obtain ⟨vs, hs⟩ := hs
  unfold subscriptTail
  refine wpAny_bind ?_
  rw [getitemInPython_of_ne hT.not_modules]
  refine wpAny_bind (wpAny_specialOf hT hl ?_)
  have fin : wpAny (model prog w) A (subscripted slice false o i) (fun r s₃ => wpAny (model prog w) A (letTemporaryGo value o r >>= fun _ => pure r) Q E s₃) E s := by
    rw [hs]
    exact wpAny_operating (wpAny_mono h (fun r s₃ h₃ => wpAny_bind (wpAny_letTemporaryGo (wpAny_pure h₃))) fun _ _ x => x)
  first
    | exact wpAny_pure (wpAny_bind fin)
    | exact wpAny_bind (wpAny_pure (wpAny_bind fin))
    | exact wpAny_bind fin
theorem EJ.sub {x i : Expr} {pos : Pos} {a b d : D} (hx : EJ prog w hb n env ρ x a) (hi : EJ prog w hb n env ρ i b) (ho : GetOK prog w a b d)
    (hs : ∀ o v, ∃ vs, subscripted i false o v = operate vs (getItem o v) := by intro _ _; exact ⟨_, rfl⟩) : EJ prog w hb n env ρ (.Subscript x i pos) d := by
  intro A hA s F S E
  refine Subscript_ (wpAny_mono (hx A hA s F S E) (fun u s₁ h₁ => ?_) fun _ _ e => e)
  obtain ⟨F₁, x₁, i₁⟩ := h₁
  refine wpAny_mono (hi A hA s₁ F₁ (S.ext x₁) E) (fun v s₂ h₂ => ?_) fun _ _ e => e
  obtain ⟨F₂, x₂, i₂⟩ := h₂
  obtain ⟨⟨T, id, hT, hl⟩, hg⟩ := ho A s₂ F₂ x₂.sub u v (i₁.mono x₂.le) i₂
  refine subTail hT hl (wpAny_mono (hg E) (fun r s₃ h₃ => ?_) fun _ _ e => e) (hs u v)
  obtain ⟨F₃, x₃, i₃⟩ := h₃
  exact ⟨F₃, (x₁.trans x₂).trans x₃, i₃⟩
theorem get_list {ds : List D} {k : Int} {d : D} (h0 : 0 ≤ k) (hk : k < 2 ^ 63) (hd : ds[k.toNat]? = some d) : GetOK prog w (.list ds) (.int k) d := by
  rintro A s F S _ _ ⟨⟩ ⟨⟩
  rename_i a vs ha ia t
  have hl := ha.isList S
  obtain ⟨v, hv, iv⟩ := ia.get hd
  exact ⟨⟨_, _, hl.typeIs, slot_list_getitem.lookup⟩, fun E => wpAny_getItem_list hl h0 hk (by simpa using hv) ⟨F, Ext.refl S, iv⟩⟩
theorem get_list_neg {ds : List D} {k : Int} {d : D} (h0 : k < 0) (h1 : -(ds.length : Int) ≤ k) (hk : -(2 ^ 63) ≤ k) (hd : ds[(k + ds.length).toNat]? = some d) : GetOK prog w (.list ds) (.int k) d := by
  rintro A s F S _ _ ⟨⟩ ⟨⟩
  rename_i a vs ha ia t
  have hl := ha.isList S
  obtain ⟨v, hv, iv⟩ := ia.get hd
  have e := ia.length
  exact ⟨⟨_, _, hl.typeIs, slot_list_getitem.lookup⟩, fun E => wpAny_getItem_list_neg hl h0 (by simpa [e] using h1) hk (by simpa [e] using hv) ⟨F, Ext.refl S, iv⟩⟩
theorem get_tup {ds : List D} {k : Int} {j : Nat} {d : D} (hlo : -(2 ^ 63) ≤ k) (hk : k < 2 ^ 63) (hj : seqIndex? k ds.length = some j) (hd : ds[j]? = some d) : GetOK prog w (.tup ds) (.int k) d := by
  rintro A s F S _ _ ⟨⟩ ⟨⟩
  rename_i a vs ha ia t
  have hl := ha.isTup S
  obtain ⟨v, hv, iv⟩ := ia.get hd
  exact ⟨⟨_, _, hl.typeIs, slot_tuple_getitem.lookup⟩, fun E => getItem_tuple hl hlo hk (by simpa [ia.length] using hj) (by simpa using hv) ⟨F, Ext.refl S, iv⟩⟩
theorem get_str {x : Str} {k : Int} (hr : fitsSsize k = true) (hin : (Txt.charAt x k).isSome = true) : GetOK prog w (.str x) (.int k) (.str (Txt.item x k)) := by
  rintro A s F S _ _ ⟨⟩ ⟨⟩
  exact ⟨⟨_, _, typeIs_str _ _ _, PySem.F.slot_str_getitem.lookup⟩, fun E => SB.getItem hr hin ⟨F, Ext.tok S (Nat.le_succ _), .str _ _⟩⟩

/-- a part of a slice -/
def PJ (prog : Program) (w : World) (hb : Heap) (n : Nat) (env : Env) (ρ : Rho) (e : Option Expr) (k : Option Int) : Prop :=
  ∀ A, Amb n A → ∀ s F, St hb env s F ρ → ∀ E, wpAny (model prog w) A (evalPart e env) (fun v s' => IsPart v k ∧ ∃ F', Ext s F s' F') E s
theorem PJ.none : PJ prog w hb n env ρ none none := fun A hA s F S E => wpAny_pure ⟨.none, F, Ext.refl S.sub⟩
theorem PJ.some {e : Expr} {k : Int} (h : EJ prog w hb n env ρ e (.int k)) : PJ prog w hb n env ρ (some e) (some k) := by
  intro A hA s F S E
  refine wpAny_mono (h A hA s F S E) (fun v s₁ h₁ => ?_) fun _ _ e => e
  obtain ⟨F₁, x₁, ⟨⟩⟩ := h₁
  exact ⟨.int _ _, F₁, x₁⟩
theorem eval_Slice_parts {l u : Option Expr} {p : Pos} {A : Around} {s : Shared} {Q : Value → Shared → Prop} {E : Value → Shared → Prop}
    (h : wpAny (model prog w) A (evalPart l env) (fun vl s₁ => wpAny (model prog w) A (evalPart u env) (fun vu s₂ => Q (.ref s₂.heap.objs.size) { s₂ with heap := s₂.heap.push { cls := .type "slice", data := .fields #[vl, vu, .none] } }) E s₁) E s) :
    wpAny (model prog w) A (eval (.Slice l u none p) env) Q E s :=
  wpAny_Slice (wpAny_mono h (fun vl s₁ h₁ => wpAny_mono h₁ (fun vu s₂ h₂ => by rw [evalPart_none]; exact wpAny_pure h₂) fun _ _ e => e) fun _ _ e => e)

/-- x[l:u] for a list -/
theorem slicePick_in {F : FMap} {vs : List Value} {ds : List D} (i : InAll F vs ds) (lo hi : Option Int) {es : List D}
    (he : (sliceRange (sliceBounds lo hi none ds.length).1 (sliceBounds lo hi none ds.length).2.1 (sliceBounds lo hi none ds.length).2.2).filterMap (ds[·]?) = es) : InAll F (slicePick vs.toArray lo hi none).toList es := by
  subst he
  have e : (slicePick vs.toArray lo hi none).toList = (sliceRange (sliceBounds lo hi none ds.length).1 (sliceBounds lo hi none ds.length).2.1 (sliceBounds lo hi none ds.length).2.2).filterMap (vs[·]?) := by
    unfold slicePick
    simp only [List.size_toArray, i.length]
    simp
  rw [e]
  generalize sliceRange _ _ _ = ks
  induction ks with
  | nil => exact .nil
  | cons k ks ih =>
    rw [List.filterMap_cons, List.filterMap_cons]
    cases hd : ds[k]? with
    | none =>
      have hv : vs[k]? = none := by rw [List.getElem?_eq_none_iff, i.length]; exact List.getElem?_eq_none_iff.mp hd
      rw [hv]; exact ih
    | some d =>
      obtain ⟨v, hv, iv⟩ := i.get hd
      rw [hv]; exact .cons iv ih
def pick (ds : List D) (lo hi : Option Int) : List D := (sliceRange (sliceBounds lo hi none ds.length).1 (sliceBounds lo hi none ds.length).2.1 (sliceBounds lo hi none ds.length).2.2).filterMap (ds[·]?)
theorem EJ.sliceList {x : Expr} {l u : Option Expr} {p pos : Pos} {ds : List D} {lo hi : Option Int} (hx : EJ prog w hb n env ρ x (.list ds)) (hl : PJ prog w hb n env ρ l lo) (hu : PJ prog w hb n env ρ u hi) (hs : ds.length ≤ sizeLine) :
    EJ prog w hb n env ρ (.Subscript x (.Slice l u none p) pos) (.list (pick ds lo hi)) := by
  intro A hA s F S E
  refine Subscript_ (wpAny_mono (hx A hA s F S E) (fun o s₁ h₁ => ?_) fun _ _ e => e)
  obtain ⟨F₁, x₁, i₁⟩ := h₁
  refine eval_Slice_parts (wpAny_mono (hl A hA s₁ F₁ (S.ext x₁) E) (fun vl s₂ h₂ => ?_) fun _ _ e => e)
  obtain ⟨p₂, F₂, x₂⟩ := h₂
  refine wpAny_mono (hu A hA s₂ F₂ ((S.ext x₁).ext x₂) E) (fun vu s₃ h₃ => ?_) fun _ _ e => e
  obtain ⟨p₃, F₃, x₃⟩ := h₃
  have i₃ := (i₁.mono x₂.le).mono x₃.le
  cases i₃ with
  | list ha ia =>
    rename_i a vs
    have hl' := (ha.isList x₃.sub).push { cls := .type "slice", data := .fields #[vl, vu, .none] }
    refine subTail hl'.typeIs slot_list_getitem.lookup (wpAny_getItem_list_slice hl' (Heap.IsSliceOf.new ..) p₂ p₃ .none (by simp) ?_ (by rw [List.size_toArray, ia.length]; exact hs)) ⟨_, rfl⟩
    have x₄ := Ext.pushOff x₃.sub ({ cls := .type "slice", data := .fields #[vl, vu, .none] } : Obj)
    obtain ⟨F₅, x₅, i₅⟩ := ext_newList x₄.sub (slicePick_in (ia.mono x₄.le) lo hi rfl)
    refine ⟨F₅, (((x₁.trans x₂).trans x₃).trans x₄).trans ?_, ?_⟩
    · simpa using x₅
    · simpa [pick] using i₅
/-- x[l:u] for a text -/
theorem EJ.sliceStr {x : Expr} {l u : Option Expr} {p pos : Pos} {y : Str} {lo hi : Option Int} (hx : EJ prog w hb n env ρ x (.str y)) (hl : PJ prog w hb n env ρ l lo) (hu : PJ prog w hb n env ρ u hi) (hs : y.length ≤ sizeLine) :
    EJ prog w hb n env ρ (.Subscript x (.Slice l u none p) pos) (.str (Txt.slice y lo hi)) := by
  intro A hA s F S E
  refine Subscript_ (wpAny_mono (hx A hA s F S E) (fun o s₁ h₁ => ?_) fun _ _ e => e)
  obtain ⟨F₁, x₁, ⟨⟩⟩ := h₁
  rename_i t
  refine eval_Slice_parts (wpAny_mono (hl A hA s₁ F₁ (S.ext x₁) E) (fun vl s₂ h₂ => ?_) fun _ _ e => e)
  obtain ⟨p₂, F₂, x₂⟩ := h₂
  refine wpAny_mono (hu A hA s₂ F₂ ((S.ext x₁).ext x₂) E) (fun vu s₃ h₃ => ?_) fun _ _ e => e
  obtain ⟨p₃, F₃, x₃⟩ := h₃
  refine subTail (typeIs_str _ _ _) PySem.F.slot_str_getitem.lookup ?_ ⟨_, rfl⟩
  have x₄ := Ext.pushOff x₃.sub ({ cls := .type "slice", data := .fields #[vl, vu, .none] } : Obj)
  have fin : ∀ (t' : Tok) (k : Nat), s₃.toks ≤ k → ∃ F', Ext s F { s₃ with heap := s₃.heap.push { cls := .type "slice", data := .fields #[vl, vu, .none] }, toks := k } F' ∧ In F' (.str (Txt.slice y lo hi) t') (.str (Txt.slice y lo hi)) :=
    fun t' k hk => ⟨F₃, (((x₁.trans x₂).trans x₃).trans x₄).trans (Ext.tok x₄.sub hk), .str _ _⟩
  refine wpAny_toksE ?_
  cases p₂ with
  | none =>
    cases p₃ with
    | none => exact wpAny_getItem_str_slice (l := none) (u := none) (st := none) ⟨_, Heap.get?_push_size _ rfl, rfl, rfl⟩ rfl (post_val_or_str ⟨Nat.le_trans (Txt.slice_le y _ _) hs, fun t' k hk => fin t' k hk⟩)
    | int j uj => exact wpAny_getItem_str_slice (l := none) (u := some (j, uj)) (st := none) ⟨_, Heap.get?_push_size _ rfl, rfl, rfl⟩ rfl (post_val_or_str ⟨Nat.le_trans (Txt.slice_le y _ _) hs, fun t' k hk => fin t' k hk⟩)
  | int i ui =>
    cases p₃ with
    | none => exact wpAny_getItem_str_slice (l := some (i, ui)) (u := none) (st := none) ⟨_, Heap.get?_push_size _ rfl, rfl, rfl⟩ rfl (post_val_or_str ⟨Nat.le_trans (Txt.slice_le y _ _) hs, fun t' k hk => fin t' k hk⟩)
    | int j uj => exact wpAny_getItem_str_slice (l := some (i, ui)) (u := some (j, uj)) (st := none) ⟨_, Heap.get?_push_size _ rfl, rfl, rfl⟩ rfl (post_val_or_str ⟨Nat.le_trans (Txt.slice_le y _ _) hs, fun t' k hk => fin t' k hk⟩)
end
end Mine
end
section
open PySem PySem.W PySem.Calls PyProof.Rows
set_option maxRecDepth 100000
namespace Mine

/-- the base: its namespaces -/
structure Wd (hb : Heap) (mg mb : Str → Option Value) : Prop where
  g : hb.Ns mainGlobals mg
  b : hb.Ns builtinsNs mb
  nolimit : hb.NoLimit
  builtins : ∀ x : Str, x ≠ "__name__" → mb x = bootBuiltins x

section
variable {prog : Program} {w : World} {hb : Heap} {mg mb : Str → Option Value} {n : Nat} {env : Env} {ρ : Rho}

/-- a name of the module's, of the built-ins' -/
def GV (hb : Heap) (mg mb : Str → Option Value) (x : Str) (v : Value) : Prop := mg x = some v ∨ (mg x = none ∧ bootBuiltins x = some v ∧ x ≠ "__name__")
theorem eval_global {M : Model} {A : Around} {s : Shared} {Q : Value → Shared → Prop} {E : Value → Shared → Prop} {x : Str} {pos : Pos} {v : Value} (W : Wd hb mg mb) (ok : EnvOk env) (hk : ∀ b o, hb.get? b = some o → s.heap.get? b = some o)
    (hx : env.kindOf x = some .globalImplicit) (hv : GV hb mg mb x v) (h : Q v s) (hd : (x == ("__debug__" : Str)) = false := by decide) : wpAny M A (eval (.Name x pos) env) Q E s := by
  refine Name_function_global ok.kind hx ?_ hd
  rcases hv with hv | ⟨h1, h2, h3⟩
  · exact loadGlobal_global (by rw [ok.glob]; exact W.g.keeps hk) hv h
  · exact loadGlobal_builtin (by rw [ok.glob]; exact W.g.keeps hk) h1 (by rw [ok.blt]; exact W.b.keeps hk) ((W.builtins x h3).trans h2) h

/-- a call of f on data -/
def CallOK (prog : Program) (w : World) (hb : Heap) (n : Nat) (f : Value) (ds : List D) (d : D) : Prop :=
  ∀ A, Amb n A → ∀ s F, Sub F s.heap → LeF (FMap.of hb) F → 0 < s.toks → ∀ vs, InAll F vs ds → ∀ E, wpAny (model prog w) A (call f vs) (fun v s' => ∃ F', Ext s F s' F' ∧ In F' v d) E s
theorem CallOK.mono {m : Nat} {f : Value} {ds : List D} {d : D} (h : CallOK prog w hb m f ds d) (hm : m ≤ n) : CallOK prog w hb n f ds d := fun A hA => h A (hA.mono hm)

theorem EJ.callFn {x : Str} {np pos : Pos} {f : Addr} {o : Obj} {fd : FuncData} {e : Expr} {es : List Expr} {ds : List D} {d : D} (W : Wd hb mg mb) (ok : EnvOk env) (hx : env.kindOf x = some .globalImplicit) (hv : GV hb mg mb x (.ref f))
    (ho : hb.get? f = some o) (hd : o.data = .func fd) (ha : AJ prog w hb n env ρ (e :: es) ds) (hc : CallOK prog w hb n (.ref f) ds d)
    (he : ∀ env, starEach (e :: es) env = (false, eval e env) :: starEach es env := by intro _; rfl) (hdb : (x == ("__debug__" : Str)) = false := by decide) :
    EJ prog w hb n env ρ (.Call (.Name x np) (e :: es) [] pos) d := by
  intro A hA s F S E
  refine Call_ (eval_global W ok S.keep hx hv ?_ hdb)
  refine callWith_def (o := o) (fd := fd) hd (wpAny_mono (ha pos A hA s F S E) (fun vs s₁ h₁ => ?_) fun _ _ e => e) (he env)
  obtain ⟨F₁, x₁, i₁⟩ := h₁
  have S₁ := S.ext x₁
  refine ⟨S₁.keep _ _ ho, wpAny_mono (hc A hA s₁ F₁ S₁.sub S₁.base S₁.tok vs i₁ E) (fun v s₂ h₂ => ?_) fun _ _ e => e⟩
  obtain ⟨F₂, x₂, i₂⟩ := h₂
  exact ⟨F₂, x₁.trans x₂, i₂⟩
theorem EJ.callBi {x : Str} {np pos : Pos} {id : String} {e : Expr} {es : List Expr} {ds : List D} {d : D} (W : Wd hb mg mb) (ok : EnvOk env) (hx : env.kindOf x = some .globalImplicit) (hv : GV hb mg mb x (.builtin id))
    (ha : AJ prog w hb n env ρ (e :: es) ds) (hc : CallOK prog w hb n (.builtin id) ds d)
    (he : ∀ env, starEach (e :: es) env = (false, eval e env) :: starEach es env := by intro _; rfl) (hp : ∀ env, (backTo pos (starEach es env)).any (·.1) = false := by intro _; rfl) (hdb : (x == ("__debug__" : Str)) = false := by decide) :
    EJ prog w hb n env ρ (.Call (.Name x np) (e :: es) [] pos) d := by
  intro A hA s F S E
  refine Call_ (eval_global W ok S.keep hx hv ?_ hdb)
  refine PyProof.Rows.callWith_builtin1 (wpAny_mono (ha pos A hA s F S E) (fun vs s₁ h₁ => ?_) fun _ _ e => e) (he env) (hp env)
  obtain ⟨F₁, x₁, i₁⟩ := h₁
  have S₁ := S.ext x₁
  refine wpAny_mono (hc A hA s₁ F₁ S₁.sub S₁.base S₁.tok vs i₁ E) (fun v s₂ h₂ => ?_) fun _ _ e => e
  obtain ⟨F₂, x₂, i₂⟩ := h₂
  exact ⟨F₂, x₁.trans x₂, i₂⟩

/-- a method of a datum -/
def MethOK (prog : Program) (w : World) (hb : Heap) (a : D) (name : Str) (f : Value) : Prop :=
  ∀ A s F, Sub F s.heap → LeF (FMap.of hb) F → ∀ v, In F v a → ∀ pl Q E, Q (f, [v]) s → wpAny (model prog w) A (getMethod v name pl) Q E s
theorem meth_str {x : Str} {name : Str} {id : String} (slot : Slot "str" name id) (ty : typeOf (.builtin id) = pure (.type "method_descriptor")) : MethOK prog w hb (.str x) name (.builtin id) := by
  rintro A s F S B _ ⟨⟩ pl Q E h
  exact getMethod_builtin (typeIs_str _ _ _) PySem.F.plainAttrs_str slot ty GM.noRef h

theorem EJ.meth0 {o : Expr} {name : Str} {apos pos : Pos} {id : String} {a d : D} (hx : EJ prog w hb n env ρ o a) (hm : MethOK prog w hb a name (.builtin id)) (hc : CallOK prog w hb n (.builtin id) [a] d)
    (he : ∀ env, ∃ pl, eval (.Call (.Attribute o name apos) [] [] pos) env = (do
      let ov ← eval o env
      standAt apos.atName
      let (f, first) ← holding [ov] (getMethod ov name pl)
      callWith pos f first (backTo pos (starEach [] env)) []) := by intro _; exact ⟨_, rfl⟩) :
    EJ prog w hb n env ρ (.Call (.Attribute o name apos) [] [] pos) d := by
  intro A hA s F S E
  obtain ⟨pl, he⟩ := he env
  refine MethodCall_ (pl := pl) (wpAny_mono (hx A hA s F S E) (fun v s₁ h₁ => ?_) fun _ _ e => e) he
  obtain ⟨F₁, x₁, i₁⟩ := h₁
  have S₁ := S.ext x₁
  refine hm A s₁ F₁ S₁.sub S₁.base v i₁ pl _ _ ?_
  refine PyProof.Rows.callWith_method0 (wpAny_mono (hc A hA s₁ F₁ S₁.sub S₁.base S₁.tok [v] (.cons i₁ .nil) E) (fun r s₂ h₂ => ?_) fun _ _ e => e)
  obtain ⟨F₂, x₂, i₂⟩ := h₂
  exact ⟨F₂, x₁.trans x₂, i₂⟩
theorem EJ.meth {o : Expr} {name : Str} {apos pos : Pos} {id : String} {a d : D} {e : Expr} {es : List Expr} {ds : List D} (hx : EJ prog w hb n env ρ o a) (hm : MethOK prog w hb a name (.builtin id)) (ha : AJ prog w hb n env ρ (e :: es) ds) (hc : CallOK prog w hb n (.builtin id) (a :: ds) d)
    (he : ∀ env, ∃ pl, eval (.Call (.Attribute o name apos) (e :: es) [] pos) env = (do
      let ov ← eval o env
      standAt apos.atName
      let (f, first) ← holding [ov] (getMethod ov name pl)
      callWith pos f first (backTo pos (starEach (e :: es) env)) []) := by intro _; exact ⟨_, rfl⟩)
    (hs : ∀ env, starEach (e :: es) env = (false, eval e env) :: starEach es env := by intro _; rfl) (hp : ∀ env, (backTo pos (starEach es env)).any (·.1) = false := by intro _; rfl) :
    EJ prog w hb n env ρ (.Call (.Attribute o name apos) (e :: es) [] pos) d := by
  intro A hA s F S E
  obtain ⟨pl, he⟩ := he env
  refine MethodCall_ (pl := pl) (wpAny_mono (hx A hA s F S E) (fun v s₁ h₁ => ?_) fun _ _ e => e) he
  obtain ⟨F₁, x₁, i₁⟩ := h₁
  have S₁ := S.ext x₁
  refine hm A s₁ F₁ S₁.sub S₁.base v i₁ pl _ _ ?_
  refine PyProof.Rows.callWith_method1 (wpAny_mono (ha pos A hA s₁ F₁ S₁ E) (fun vs s₂ h₂ => ?_) fun _ _ e => e) (hs env) (hp env)
  obtain ⟨F₂, x₂, i₂⟩ := h₂
  have S₂ := S₁.ext x₂
  refine wpAny_mono (hc A hA s₂ F₂ S₂.sub S₂.base S₂.tok (v :: vs) (.cons (i₁.mono x₂.le) i₂) E) (fun r s₃ h₃ => ?_) fun _ _ e => e
  obtain ⟨F₃, x₃, i₃⟩ := h₃
  exact ⟨F₃, (x₁.trans x₂).trans x₃, i₃⟩

-- the built-ins
theorem call_len {ds : List D} (h : (ds.length : Int) < 2 ^ 63) : CallOK prog w hb 0 (.builtin "len") [.list ds] (.int ds.length) := by
  rintro A hA s F S B T _ (_ | ⟨⟨⟩, ⟨⟩⟩) E
  rename_i a vs ha ia
  have e : (List.toArray vs).size = ds.length := by rw [List.size_toArray, ia.length]
  refine call_len_list (ha.isList S) (by rw [e]; exact h) ⟨F, Ext.tok S (by omega), ?_⟩
  rw [e]; exact .int _ _
theorem call_sum {ns : List Int} : CallOK prog w hb 0 (.builtin "sum") [.list (ns.map D.int)] (.int ns.sum) := by
  rintro A hA s F S B T _ (_ | ⟨⟨⟩, ⟨⟩⟩) E
  rename_i a vs ha ia
  have hi := intsAre_of ia
  have hl := ha.isList S
  obtain ⟨xs, e⟩ := hi.allInts.items
  have hns : ns = xs.toList.map (·.1) := by rw [← hi.numsOf, ← nums_intItems, ← e]
  rw [e] at hl
  refine wpAny_toksE (sum_intListG hA.hh hl fun h' tk t' hk ht => ⟨F, Ext.of_keeps S rfl hk ht, ?_⟩)
  rw [preSum_eq, List.take_of_length_le (by simp), ← hns]; exact .int _ _
theorem call_min {ns : List Int} {m : Int} (hm : m ∈ ns) (hl : ∀ a ∈ ns, m ≤ a) : CallOK prog w hb 0 (.builtin "min") [.list (ns.map D.int)] (.int m) := by
  rintro A hA s F S B T _ (_ | ⟨⟨⟩, ⟨⟩⟩) E
  rename_i a vs ha ia
  have hi := intsAre_of ia
  have hl' := ha.isList S
  obtain ⟨xs, e⟩ := hi.allInts.items
  have hns : ns = xs.toList.map (·.1) := by rw [← hi.numsOf, ← nums_intItems, ← e]
  have hsz : 0 < xs.size := by
    have h3 := List.length_pos_of_mem hm; rw [hns, List.length_map, Array.length_toList] at h3; exact h3
  rw [e] at hl'
  refine wpAny_toksE (min_intList hA.hh hl' hsz fun v h' tk hv hk ht => ?_)
  obtain ⟨t, rfl⟩ := intItems_at hv
  obtain ⟨h1, h2⟩ := argBest_lt (numAt xs) (xs.size - 1)
  refine ⟨F, Ext.of_keeps S rfl hk ht, ?_⟩
  have g1 : numAt xs (argBest (fun i j => decide (numAt xs i < numAt xs j)) (xs.size - 1)) ∈ ns := by
    rw [hns, numAt_eq]; exact getD_mem (by rw [List.length_map, Array.length_toList]; omega)
  have g2 : numAt xs (argBest (fun i j => decide (numAt xs i < numAt xs j)) (xs.size - 1)) ≤ m := by
    rw [hns] at hm
    obtain ⟨j, hj, e'⟩ := mem_getD hm
    rw [List.length_map, Array.length_toList] at hj
    rw [← e', ← numAt_eq]; exact h2 j (by omega)
  have g3 := hl _ g1
  have g4 : numAt xs (argBest (fun i j => decide (numAt xs i < numAt xs j)) (xs.size - 1)) = m := by omega
  rw [g4]; exact .int _ _
theorem call_max2 {a b : Int} : CallOK prog w hb 0 (.builtin "max") [.int a, .int b] (.int (max a b)) := by
  rintro A hA s F S B T _ (_ | ⟨⟨⟩, (_ | ⟨⟨⟩, ⟨⟩⟩)⟩) E
  refine wpAny_toksE (max_two_ints hA.hh fun h' tk hk ht => ⟨F, Ext.of_keeps S rfl hk ht, ?_⟩)
  by_cases hc : b > a
  · rw [if_pos hc, Int.max_eq_right (by omega)]; exact .int _ _
  · rw [if_neg hc, Int.max_eq_left (by omega)]; exact .int _ _
theorem call_lower {x : Str} (h : x.length ≤ 5592405) : CallOK prog w hb 0 (.builtin "str.lower") [.str x] (.str (Txt.lower x)) := by
  rintro A hA s F S B T _ (_ | ⟨⟨⟩, ⟨⟩⟩) E
  exact SCL.lower h fun _ => ⟨F, Ext.tok S (Nat.le_succ _), .str _ _⟩
theorem call_upper {x : Str} (h : x.length ≤ 5592405) : CallOK prog w hb 0 (.builtin "str.upper") [.str x] (.str (Txt.upper x)) := by
  rintro A hA s F S B T _ (_ | ⟨⟨⟩, ⟨⟩⟩) E
  exact SCL.upper h fun _ => ⟨F, Ext.tok S (Nat.le_succ _), .str _ _⟩
theorem call_find {x y : Str} : CallOK prog w hb 0 (.builtin "str.find") [.str x, .str y] (.int (Txt.find x y)) := by
  rintro A hA s F S B T _ (_ | ⟨⟨⟩, (_ | ⟨⟨⟩, ⟨⟩⟩)⟩) E
  exact SC.find ⟨F, Ext.tok S (Nat.le_succ _), .int _ _⟩
theorem call_startswith {x y : Str} : CallOK prog w hb 0 (.builtin "str.startswith") [.str x, .str y] (.bool (Txt.startswith x y)) := by
  rintro A hA s F S B T _ (_ | ⟨⟨⟩, (_ | ⟨⟨⟩, ⟨⟩⟩)⟩) E
  exact SC.startswith ⟨F, Ext.refl S, .bool _⟩
theorem call_endswith {x y : Str} : CallOK prog w hb 0 (.builtin "str.endswith") [.str x, .str y] (.bool (Txt.endswith x y)) := by
  rintro A hA s F S B T _ (_ | ⟨⟨⟩, (_ | ⟨⟨⟩, ⟨⟩⟩)⟩) E
  exact SC.endswith ⟨F, Ext.refl S, .bool _⟩
theorem strs_values {F : FMap} : ∀ {vs : List Value} {xs : List Str}, InAll F vs (xs.map D.str) → ∃ l : List (Str × Tok), vs = strValues l ∧ l.map (·.1) = xs
  | _, [], .nil => ⟨[], rfl, rfl⟩
  | _, x :: xs, .cons (.str _ t) r => by
    obtain ⟨l, e1, e2⟩ := strs_values r
    exact ⟨(x, t) :: l, by rw [e1]; rfl, by rw [List.map_cons, e2]⟩
theorem call_join {x : Str} {xs : List Str} (h : JoinOk x xs = true) : CallOK prog w hb 0 (.builtin "str.join") [.str x, .list (xs.map D.str)] (.str (Txt.join x xs)) := by
  rintro A hA s F S B T _ (_ | ⟨⟨⟩, (_ | ⟨⟨⟩, ⟨⟩⟩)⟩) E
  rename_i a vs ha ia
  obtain ⟨l, rfl, e⟩ := strs_values ia
  exact wpAny_toksE (SC.join (ha.isList S) e h fun t' k ht => ⟨F, Ext.tok S ht, .str _ _⟩)
end
end Mine
end
section
open PySem PySem.W PySem.Calls PyProof.Rows
set_option maxRecDepth 100000
namespace Mine

/-- where a name is stored -/
inductive VarAt (env : Env) (x : Str) (h : Heap) (T : Addr) : Prop
  | loc {m : Str → Option Value} (hk : env.kindOf x = some .local) (hT : T = env.locals) (hn : h.Ns T m)
  | cell {v : Option Value} (hk : env.kindOf x = some .cell) (hc : env.cells.lookup x = some T) (hv : h.IsCell T v)
theorem VarAt.keeps {env : Env} {h h' : Heap} {x : Str} {T : Addr} (V : VarAt env x h T) (hk : ∀ o, h.get? T = some o → h'.get? T = some o) : VarAt env x h' T := by
  cases V with
  | loc a b c => exact .loc a b (c.at' hk)
  | cell a b c => obtain ⟨o, ho, hd⟩ := c; exact .cell a b ⟨o, hk o ho, hd⟩
theorem VarAt.some {env : Env} {h : Heap} {x : Str} {T : Addr} (V : VarAt env x h T) : (h.get? T).isSome = true := by
  cases V with
  | loc a b c => obtain ⟨o, es, ep, ho, _⟩ := c; rw [ho]; rfl
  | cell a b c => obtain ⟨o, ho, hd⟩ := c; rw [ho]; rfl
theorem store_var {M : Model} {A : Around} {E : Value → Shared → Prop} {s : Shared} {env : Env} {x : Str} {T : Addr} {v : Value} {Q : Unit → Shared → Prop} (hkf : env.scope.kind = .function) (V : VarAt env x s.heap T)
    (h : ∀ h' tk, VarAt env x h' T → VarIn env h' x v → Heap.SameBut T s.heap h' → s.toks ≤ tk → Q () { s with heap := h', toks := tk }) : wpAny M A (storeName env x v) Q E s := by
  cases V with
  | loc hk hT hn =>
    subst hT
    exact wpAny_storeName_local hk hn (fun h' hn' hs' => h h' _ (.loc hk rfl hn') (.loc hk hn' (by simp)) hs' (Nat.le_succ _)) (by rw [hkf]; rfl)
  | cell hk hc hv =>
    exact wpAny_storeName_cell hkf hk hc hv (fun h' hv' hs' => h h' _ (.cell hk hc hv') (.cell (.inl hk) hc hv') hs' (Nat.le_refl _))

section
variable {prog : Program} {w : World} {hb : Heap} {n : Nat} {env : Env} {ρ : Rho}

/-- an iterator's object: none that owns its tuple -/
def IterObj (h : Heap) (b : Addr) : Prop := ∃ o T vs, h.get? b = some o ∧ o.cls = .type T ∧ (["enumerate", "zip", "dict_itemiterator", "dict_reverseitemiterator", "odict_iterator", "itertools.zip_longest", "itertools.pairwise"] : List String).contains T = false ∧ o.data = .fields vs
theorem IterObj.some {h : Heap} {b : Addr} (x : IterObj h b) : (h.get? b).isSome = true := by obtain ⟨o, T, vs, e, _⟩ := x; rw [e]; rfl
/-- a source of items -/
def SrcJ (prog : Program) (w : World) (hb : Heap) (n : Nat) (env : Env) (ρ : Rho) (iter : Expr) (ds : List D) : Prop :=
  ∀ A, Amb n A → ∀ s F, St hb env s F ρ → ∀ E, wpAny (model prog w) A (eval iter env) (fun xv s₁ => wpAny (model prog w) A (pyIter xv) (fun it s₂ =>
    ∃ F₂ I fp wr P SS, it = .ref I ∧ Ext s F s₂ F₂ ∧ Walks prog w A I fp wr ds.length P SS ∧ SS 0 s₂.heap ∧ (∀ (i : Nat) v d, P i v → ds[i]? = some d → In F₂ v d) ∧
      (∀ b ∈ wr, F₂ b = none ∧ (s₂.heap.get? b).isSome = true ∧ s.heap.get? b = none) ∧ (∀ b ∈ fp, (b ∈ wr ∨ (F₂ b).isSome = true) ∧ b < s₂.heap.objs.size) ∧ (∀ (i : Nat) h, SS i h → ∀ b ∈ wr, IterObj h b) ∧ I ∈ wr) E s₁) E s
theorem SrcJ.list {e : Expr} {ds : List D} (h : EJ prog w hb n env ρ e (.list ds)) : SrcJ prog w hb n env ρ e ds := by
  intro A hA s F S E
  refine wpAny_mono (h A hA s F S E) (fun v s₁ h₁ => ?_) fun _ _ e => e
  obtain ⟨F₁, x₁, i₁⟩ := h₁
  cases i₁ with
  | list ha ia =>
    rename_i a vs
    have hl := ha.isList x₁.sub
    obtain ⟨oa, hoa, _⟩ := id hl
    have hne : a ≠ s₁.heap.objs.size := Nat.ne_of_lt (Heap.lt_size hoa)
    refine wpAny_pyIter_list hl ?_
    have W := Walks.list (prog := prog) (w := w) hA.hh s₁.heap.objs.size a hne vs.toArray
    have hlen : vs.toArray.size = ds.length := by rw [List.size_toArray, ia.length]
    rw [hlen] at W
    have x₂ := Ext.pushOff x₁.sub ({ cls := .type "list_iterator", data := .fields #[.ref a, .int 0 0] } : Obj)
    refine ⟨F₁, _, _, _, _, _, rfl, x₁.trans x₂, W, ⟨⟨_, Heap.get?_push_size _ rfl, rfl, rfl⟩, hl.at fun o e => Heap.get?_push_of_some _ e⟩, ?_, ?_, ?_, ?_, List.mem_singleton.mpr rfl⟩
    · intro i v d hv hd
      obtain ⟨v', hv', iv⟩ := ia.get hd
      have : v = v' := by simpa [hv'] using hv.symm
      exact this ▸ iv
    · intro b hb
      rw [List.mem_singleton.mp hb]
      refine ⟨x₁.sub.none_of (get?_size _), ?_, ?_⟩
      · rw [Heap.get?_push_size _ rfl]; rfl
      · cases q : s.heap.get? s₁.heap.objs.size with
        | none => rfl
        | some o => have := x₁.keep _ _ q; rw [get?_size] at this; cases this
    · intro b hb
      rcases List.mem_cons.mp hb with rfl | hb
      · exact ⟨.inl (List.mem_singleton.mpr rfl), by simp [Heap.size_push]⟩
      · rw [List.mem_singleton.mp hb]
        obtain ⟨o, ho, _⟩ := ha
        exact ⟨.inr (by rw [ho]; rfl), by rw [Heap.size_push]; exact Nat.lt_succ_of_lt (Heap.lt_size hoa)⟩
    · rintro i h ⟨⟨o, ho, hc, hd⟩, _⟩ b hb
      rw [List.mem_singleton.mp hb]
      exact ⟨o, _, _, ho, hc, by decide, hd⟩
def intD (k : Nat) : List D := (List.range k).map fun (i : Nat) => D.int (i : Int)
theorem SrcJ.range {x : Str} {np pos : Pos} {e : Expr} {k : Nat} {mg mb : Str → Option Value} (W₀ : Wd hb mg mb) (ok : EnvOk env) (hx : env.kindOf x = some .globalImplicit) (hv : GV hb mg mb x (.type "range"))
    (he : EJ prog w hb n env ρ e (.int k)) (hk : k < 2 ^ 40) (hdb : (x == ("__debug__" : Str)) = false := by decide) (hs : ∀ env, starEach [e] env = [(false, eval e env)] := by intro _; rfl) :
    SrcJ prog w hb n env ρ (.Call (.Name x np) [e] [] pos) (intD k) := by
  intro A hA s F S E
  refine Call_ (eval_global W₀ ok S.keep hx hv ?_ hdb)
  refine PyProof.Rows.callWith_type1 (args_cons (wpAny_mono (he A hA s F S E) (fun u s₁ h₁ => ?_) fun _ _ e => e) (hs env)) (hs env) rfl
  obtain ⟨F₁, x₁, ⟨⟩⟩ := h₁
  rename_i t
  refine args_nil ?_
  refine call_range_1 ?_
  refine wpAny_pyIter_range (IsRange.new ..) (small_one (by omega) (by omega) (by omega) (by omega)) ?_
  have x₂ := Ext.pushOff x₁.sub ({ cls := .type "range", data := .fields #[.int 0 s₁.toks, .int k t, .int 1 (s₁.toks + 1)] } : Obj)
  have x₃ := x₂.trans (Ext.tok x₂.sub (tk := s₁.toks + 1 + 1) (Nat.le_add_right s₁.toks 2))
  have x₄ := x₃.trans (Ext.pushOff x₃.sub ({ cls := .type "range_iterator", data := .fields #[rawInt 0, rawInt (Builtin.Range.rangeSize 0 k 1), rawInt 1] } : Obj))
  have hlen : (intD k).length = k := by simp [intD]
  have W := Walks.range (prog := prog) (w := w) hA.hh (s₁.heap.push { cls := .type "range", data := .fields #[.int 0 s₁.toks, .int k t, .int 1 (s₁.toks + 1)] }).objs.size 0 1 (intD k).length
  refine ⟨F₁, _, _, _, _, _, rfl, x₁.trans x₄, W, ?_, ?_, ?_, ?_, ?_, List.mem_singleton.mpr rfl⟩
  · show IsRangeIter _ _ _ _ _
    rw [hlen, rangeSize_nat]
    show Heap.get? (Heap.push _ _) _ = _
    rw [Heap.get?_push_size _ (by rfl)]
    simp
  · rintro i v d ⟨tk, rfl⟩ hd
    have hi : i < k := by have := (List.getElem?_eq_some_iff.mp hd).1; rwa [hlen] at this
    have : d = .int i := by simpa [intD, hi] using hd.symm
    subst this
    have e : (0 : Int) + (i : Int) * 1 = i := by omega
    rw [e]; exact .int _ _
  · intro b hb
    rw [List.mem_singleton.mp hb]
    refine ⟨?_, ?_, ?_⟩
    · exact x₃.sub.none_of (get?_size _)
    · rw [Heap.get?_push_size _ rfl]; rfl
    · cases q : s.heap.get? (s₁.heap.push { cls := .type "range", data := .fields #[.int 0 s₁.toks, .int k t, .int 1 (s₁.toks + 1)] }).objs.size with
      | none => rfl
      | some o => have := (x₁.trans x₃).keep _ _ q; rw [get?_size] at this; cases this
  · intro b hb
    rw [List.mem_singleton.mp hb]
    exact ⟨.inl (List.mem_singleton.mpr rfl), by show _ < (Heap.push _ _).objs.size; rw [Heap.size_push _ ({ cls := .type "range_iterator", data := _ } : Obj)]; exact Nat.lt_succ_self _⟩
  · intro i h hi b hb
    rw [List.mem_singleton.mp hb]
    exact ⟨_, _, _, hi, rfl, by decide, rfl⟩

/-- the tests of a comprehension -/
def TJ (prog : Program) (w : World) (hb : Heap) (n : Nat) (env : Env) (ρ : Rho) (ifs : List Expr) (b : Bool) : Prop :=
  ∀ A, Amb n A → ∀ s F, St hb env s F ρ → ∀ E, wpAny (model prog w) A (forIn ifs true fun c r => if r = true then do let ok ← isTrue c env (eval c env); pure (ForInStep.yield ok) else pure (ForInStep.yield r)) (fun ok s' => ok = b ∧ ∃ F', Ext s F s' F') E s
theorem TJ.none : TJ prog w hb n env ρ [] true := fun A hA s F S E => wpAny_tests_nil ⟨rfl, F, Ext.refl S.sub⟩
theorem TJ.one {c : Expr} {b : Bool} (h : BJ prog w hb n env ρ c b) : TJ prog w hb n env ρ [c] b := fun A hA s F S E => wpAny_tests_one (h A hA s F S E)

/-- the comprehension's loop -/
theorem comp_loop {A : Around} {R : Result → Shared → Prop} {s : Shared} {F : FMap} {elt iter : Expr} {x : Str} {px : Pos} {ifs : List Expr} {scope : Scope} {pos : Pos} {I DD T : Addr} {fp wr : List Addr} {P : Nat → Value → Prop} {SS : Nat → Heap → Prop} {cenv : Env} {ρf : Rho} {h₀ : Heap}
    {α : Type} (xs : List α) (φ : α → D) (p : α → Bool) (ψ : α → D) (hA : Amb n A) (hsz : xs.length ≤ sizeLine)
    (W : Walks prog w A I fp wr xs.length P SS) (hP : ∀ (i : Nat) v a, P i v → xs[i]? = some a → In F v (φ a))
    (ok : EnvOk cenv) (V : VarAt cenv x s.heap T) (hF : Sub F s.heap) (hB : LeF (FMap.of hb) F) (hst : SS 0 s.heap) (hacc : s.heap.PlainList DD #[]) (htk : 0 < s.toks)
    (hob : ∀ (i : Nat) h, SS i h → ∀ b ∈ wr, IterObj h b) (hTF : F T = none) (hDF : F DD = none) (hwF : ∀ b ∈ wr, F b = none ∧ (s.heap.get? b).isSome = true) (hTD : T ≠ DD) (hTf : T ∉ fp) (hDf : DD ∉ fp)
    (keep₀ : ∀ b o, h₀.get? b = some o → s.heap.get? b = some o ∧ b ≠ T ∧ b ≠ DD ∧ b ∉ wr) (hρ : ∀ q ∈ ρf, ∃ v, VarIn cenv h₀ q.1 v ∧ In F v q.2)
    (htest : ∀ a ∈ xs, TJ prog w hb n cenv ((x, φ a) :: ρf) ifs (p a)) (helt : ∀ a ∈ xs, p a = true → EJ prog w hb n cenv ((x, φ a) :: ρf) elt (ψ a))
    (hR : ∀ h' tk F' ys, h'.PlainList DD (List.toArray ys) → InAll F' ys ((xs.filter p).map ψ) → VarAt cenv x h' T → LeF F F' → Sub F' h' → (∀ a, F a = none → (s.heap.get? a).isSome = true → F' a = none) →
      (∀ b o, b ≠ T → b ≠ DD → b ∉ wr → s.heap.get? b = some o → h'.get? b = some o) → s.toks ≤ tk → R (.ok .next) { s with heap := h', toks := tk }) :
    codeAny (model prog w) A (.compLoop (.ListComp elt [⟨.Name x px, iter, ifs, 0⟩] scope pos) 0 (.ref I) (.ref DD) cenv) R s := by
  refine codeAny_compLoop_tests
    (fun k s' => ∃ h' tk F' ys i, s' = { s with heap := h', toks := tk } ∧ i ≤ xs.length ∧ k = xs.length + 1 - i ∧ SS i h' ∧ h'.PlainList DD (List.toArray ys) ∧ InAll F' ys (((xs.take i).filter p).map ψ) ∧ VarAt cenv x h' T ∧ LeF F F' ∧ Sub F' h' ∧
      (∀ a, F a = none → (s.heap.get? a).isSome = true → F' a = none) ∧ (∀ b o, b ≠ T → b ≠ DD → b ∉ wr → s.heap.get? b = some o → h'.get? b = some o) ∧ s.toks ≤ tk) ?_ (xs.length + 1)
    ⟨s.heap, s.toks, F, [], 0, rfl, Nat.zero_le _, rfl, hst, hacc, by simpa using InAll.nil, V, LeF.refl F, hF, fun _ e _ => e, fun _ _ _ _ _ e => e, Nat.le_refl _⟩
  rintro k s' ⟨H, tk, F₁, ys, i, rfl, hi, rfl, hst', hacc', hys, V', hle, hS', hap, hk, htk'⟩
  have hTsome : (s.heap.get? T).isSome = true := V.some
  have hDsome : (s.heap.get? DD).isSome = true := by obtain ⟨n, e⟩ := hacc; rw [e]; rfl
  have hTw : T ∉ wr := fun h => hTf (W.sub _ h)
  have hDw : DD ∉ wr := fun h => hDf (W.sub _ h)
  have T1 := hap T hTF hTsome
  have D1 := hap DD hDF hDsome
  by_cases hlt : i < xs.length
  · have hxi : xs[i]? = some (xs[i]'hlt) := List.getElem?_eq_getElem hlt
    refine wpAny_toksE (W.item i _ _ _ hlt hst' fun v h₁ tk₁ hPv hst₁ hk₁ htk₁ => ?_)
    have htk₁ : tk ≤ tk₁ := htk₁
    have V₁ : VarAt cenv x h₁ T := V'.keeps fun o e => hk₁ _ o hTw e
    refine wpAny_assign_Name (store_var ok.kind V₁ fun h₂ tk₂ V₂ I₂ hs₂ htk₂ => ?_)
    have htk₂ : tk₁ ≤ tk₂ := htk₂
    have hst₂ : SS (i + 1) h₂ := W.frame _ _ _ hst₁ fun b hb o e => hs₂.extBut b o (fun h => hTf (h ▸ hb)) e
    have up₂ : ∀ b o, b ≠ T → b ∉ wr → H.get? b = some o → h₂.get? b = some o := fun b o hb hbw e => hs₂.extBut b o hb (hk₁ b o hbw e)
    have F1w : ∀ b ∈ wr, F₁ b = none := fun b hb => hap b (hwF b hb).1 (hwF b hb).2
    have S₂ : Sub F₁ h₂ := fun b o e => up₂ b o (fun h => by rw [h, T1] at e; cases e) (fun h => by rw [F1w b h] at e; cases e) (hS' b o e)
    have acc₂ : h₂.PlainList DD (List.toArray ys) := hacc'.at fun o e => up₂ _ o (Ne.symm hTD) hDw e
    have SX : St hb cenv { s with heap := h₂, toks := tk₂ } F₁ ((x, φ xs[i]) :: ρf) := by
      refine ⟨S₂, hB.trans hle, ?_, by show 0 < tk₂; omega⟩
      intro q hq
      rcases List.mem_cons.mp hq with rfl | hq
      · exact ⟨v, I₂, (hP i v _ hPv hxi).mono hle⟩
      · obtain ⟨u, hu, iu⟩ := hρ q hq
        exact ⟨u, hu.keeps fun b o e => by
          obtain ⟨e1, n1, n2, n3⟩ := keep₀ b o e
          exact up₂ b o n1 n3 (hk b o n1 n2 n3 e1), iu.mono hle⟩
    have hmem : xs[i] ∈ xs := List.getElem_mem hlt
    refine wpAny_mono (htest _ hmem A hA _ F₁ SX _) (fun ok s₃ h₃ => ?_) fun _ _ e => e
    obtain ⟨rfl, F₃, x₃⟩ := h₃
    obtain ⟨⟨h₃, tk₃, rfl⟩, k₃, l₃, s₃', a₃, t₃⟩ := x₃
    have t₃ : tk₂ ≤ tk₃ := t₃
    have D3 : F₃ DD = none := a₃ DD D1 (by obtain ⟨n, e⟩ := acc₂; show (h₂.get? DD).isSome = true; rw [e]; rfl)
    have T3 : F₃ T = none := a₃ T T1 V₂.some
    have ap₃ : ∀ a, F a = none → (s.heap.get? a).isSome = true → F₃ a = none := fun a e1 e2 => by
      refine a₃ a (hap a e1 e2) ?_
      show (h₂.get? a).isSome = true
      by_cases haT : a = T
      · rw [haT]; exact V₂.some
      · by_cases haD : a = DD
        · rw [haD]; obtain ⟨n, e⟩ := acc₂; rw [e]; rfl
        · by_cases haw : a ∈ wr
          · exact (hob _ _ hst₂ a haw).some
          · obtain ⟨o, ho⟩ := Option.isSome_iff_exists.mp e2
            rw [up₂ a o haT haw (hk a o haT haD haw ho)]; rfl
    have l₃ : LeF F₁ F₃ := l₃
    have up₃ : ∀ b o, b ≠ T → b ≠ DD → b ∉ wr → s.heap.get? b = some o → h₃.get? b = some o := fun b o n1 n2 n3 e => k₃ b o (up₂ b o n1 n3 (hk b o n1 n2 n3 e))
    have hst₃ : SS (i + 1) h₃ := W.frame _ _ _ hst₂ fun b _ o e => k₃ b o e
    have acc₃ : h₃.PlainList DD (List.toArray ys) := acc₂.at fun o e => k₃ _ o e
    have V₃ : VarAt cenv x h₃ T := V₂.keeps fun o e => k₃ _ o e
    cases hpv : p xs[i] with
    | false =>
      simp only [Bool.false_eq_true, if_false]
      refine ⟨xs.length + 1 - (i + 1), by omega, h₃, tk₃, F₃, ys, i + 1, rfl, hlt, rfl, hst₃, acc₃, ?_, V₃, hle.trans l₃, s₃', ap₃, up₃, by show s.toks ≤ tk₃; omega⟩
      rw [take_succ_filter p xs i _ hxi, hpv]
      simpa using hys.mono l₃
    | true =>
      simp only [if_true]
      have SY : St hb cenv { s with heap := h₃, toks := tk₃ } F₃ ((x, φ xs[i]) :: ρf) := SX.ext ⟨⟨h₃, tk₃, rfl⟩, k₃, l₃, s₃', a₃, t₃⟩
      refine wpAny_mono (helt _ hmem hpv A hA _ F₃ SY _) (fun y s₄ h₄ => ?_) fun _ _ e => e
      obtain ⟨F₄, ⟨⟨h₄, tk₄, rfl⟩, k₄, l₄, s₄', a₄, t₄⟩, iy⟩ := h₄
      have t₄ : tk₃ ≤ tk₄ := t₄
      have D4 : F₄ DD = none := a₄ DD D3 (by obtain ⟨n, e⟩ := acc₃; show (h₃.get? DD).isSome = true; rw [e]; rfl)
      have hlen : ys.length ≤ sizeLine := by
        have e1 := hys.length
        have e2 : ((xs.take i).filter p).length ≤ (xs.take i).length := List.length_filter_le _ _
        rw [List.length_map] at e1
        rw [List.length_take] at e2
        omega
      refine wpAny_list_append_plain (hsz := by rw [List.size_toArray]; exact hlen) (acc₃.at fun o e => k₄ _ o e) fun h₅ hl₅ hs₅ => ?_
      have ext5 := hs₅.extBut
      have lle : LeF F₁ F₄ := l₃.trans l₄
      refine ⟨xs.length + 1 - (i + 1), by omega, h₅, tk₄, F₄, ys ++ [y], i + 1, rfl, hlt, rfl, ?_, by simpa using hl₅, ?_, V₃.keeps (fun o e => ext5 _ o hTD (k₄ _ o e)), hle.trans lle, ?_, ?_, ?_, by show s.toks ≤ tk₄; omega⟩
      · exact W.frame _ _ _ hst₃ fun b hb o e => ext5 b o (fun h => hDf (h ▸ hb)) (k₄ b o e)
      · rw [take_succ_filter p xs i _ hxi, hpv]
        simpa using (hys.mono lle).append (.cons iy .nil)
      · exact fun b o e => ext5 b o (fun h => by rw [h, D4] at e; cases e) (s₄' b o e)
      · intro a e1 e2
        refine a₄ a (ap₃ a e1 e2) ?_
        show (h₃.get? a).isSome = true
        by_cases haT : a = T
        · rw [haT]; exact V₃.some
        · by_cases haD : a = DD
          · rw [haD]; obtain ⟨n, e⟩ := acc₃; rw [e]; rfl
          · by_cases haw : a ∈ wr
            · exact (hob _ _ hst₃ a haw).some
            · obtain ⟨o, ho⟩ := Option.isSome_iff_exists.mp e2
              rw [up₃ a o haT haD haw ho]; rfl
      · exact fun b o n1 n2 n3 e => ext5 b o n2 (k₄ b o (up₃ b o n1 n2 n3 e))
  · have hin : i = xs.length := by omega
    subst hin
    refine wpAny_toksE (W.done _ _ _ hst' fun h₁ tk₁ hk₁ htk₁ => ?_)
    have htk₁ : tk ≤ tk₁ := htk₁
    rw [List.take_length] at hys
    have F1w : ∀ b ∈ wr, F₁ b = none := fun b hb => hap b (hwF b hb).1 (hwF b hb).2
    exact hR h₁ tk₁ F₁ ys (hacc'.at fun o e => hk₁ _ o hDw e) hys (V'.keeps fun o e => hk₁ _ o hTw e) hle (fun b o e => hk₁ b o (fun h => by rw [F1w b h] at e; cases e) (hS' b o e)) hap
      (fun b o n1 n2 n3 e => hk₁ b o n3 (hk b o n1 n2 n3 e)) (by omega)
end
end Mine
end
section
open PySem PySem.W PySem.Calls PyProof.Rows
set_option maxRecDepth 100000
namespace Mine
section
variable {prog : Program} {w : World} {hb : Heap} {n : Nat} {env : Env} {ρ : Rho}

theorem newCompEnv {M : Model} {A : Around} {E : Value → Shared → Prop} {s : Shared} {scope : Scope} {cl : List (Str × Addr)} {env : Env} {Q : Env → Shared → Prop}
    (h : Q { scope, locals := s.heap.objs.size, globals := env.globals, cells := cellsFrom (s.heap.objs.size + 1) scope.names cl, qual := env.qual, func := none, code := env.code, frame := env.frame, builtins := env.builtins }
      { s with heap := pushCells (s.heap.push { cls := .type "dict", data := .dict #[] }) scope.names }) :
    wpAny M A (newFunctionEnv scope env.globals cl [] env.qual none .none (some env)) Q E s := by
  simp only [newFunctionEnv, Option.isSome_some, if_true]
  refine wpAny_bind (wpAny_alloc ?_)
  refine wpAny_bind (wpAny_layCells _ (fun name kind cells => by cases hkc : kind == NameKind.cell <;> simp) _ _ _ _ ?_)
  rw [show ({ s with heap := s.heap.push { cls := .type "dict", data := .dict #[] } } : Shared).heap.objs.size = s.heap.objs.size + 1 from Heap.size_push ..]
  refine wpAny_bind ?_
  rw [List.forIn_nil]
  exact wpAny_pure (wpAny_pure h)

/-- the turning name of a comprehension: a local, or the block's one cell -/
inductive CompVar (names : List (Str × NameKind)) (x : Str) : Prop
  | loc (h : names.lookup x = some .local) (hc : ∀ N cl, cellsFrom N names cl = cl) (hp : ∀ h : Heap, pushCells h names = h)
  | cell (h : names.lookup x = some .cell) (hc : ∀ N cl, cellsFrom N names cl = (x, N) :: cl) (hp : ∀ h : Heap, pushCells h names = h.push { cls := .type "cell", data := .cell none })

/-- a name that the block takes from around it -/
structure FreeOK (env : Env) (scope : Scope) (cl : List (Str × Addr)) (y : Str) : Prop where
  k : env.kindOf y = some .cell ∨ env.kindOf y = some .free
  c : ∀ N, (cellsFrom N scope.names cl).lookup y = env.cells.lookup y
  k' : (relabel scope env).names.lookup y = some .cell ∨ (relabel scope env).names.lookup y = some .free
/-- the names that the block sees -/
inductive Frees (env : Env) (scope : Scope) (cl : List (Str × Addr)) (ρ : Rho) : Rho → Prop
  | nil : Frees env scope cl ρ []
  | cons {y : Str} {d : D} {r : Rho} (hm : (y, d) ∈ ρ) (h : FreeOK env scope cl y) (t : Frees env scope cl ρ r) : Frees env scope cl ρ ((y, d) :: r)
theorem Frees.all {scope : Scope} {cl : List (Str × Addr)} {ρf : Rho} (h : Frees env scope cl ρ ρf) : ∀ q ∈ ρf, q ∈ ρ ∧ FreeOK env scope cl q.1 := by
  induction h with
  | nil => intro q hq; cases hq
  | cons hm h t ih =>
    intro q hq
    rcases List.mem_cons.mp hq with rfl | hq
    · exact ⟨hm, h⟩
    · exact ih q hq
theorem lookup_relabel_cell {env : Env} : ∀ {names : List (Str × NameKind)} {x : Str}, names.lookup x = some .cell →
    (names.map fun (n, k) => if (k == NameKind.free && env.scope.kind == .function && env.kindOf n == some .cell) then (n, NameKind.cell) else (n, k)).lookup x = some .cell
  | [], _, h => by simp at h
  | (n, k) :: r, x, h => by
    have ih := @lookup_relabel_cell env r x
    show List.lookup x ((if (k == NameKind.free && env.scope.kind == .function && env.kindOf n == some .cell) = true then (n, NameKind.cell) else (n, k)) :: _) = _
    cases hx : x == n with
    | true =>
      simp only [List.lookup_cons, hx] at h
      cases h
      simp [List.lookup_cons, hx]
    | false =>
      simp only [List.lookup_cons, hx] at h
      by_cases hc : (k == NameKind.free && env.scope.kind == .function && env.kindOf n == some .cell) = true
      · rw [if_pos hc]; simp only [List.lookup_cons, hx]; exact ih h
      · rw [if_neg hc]; simp only [List.lookup_cons, hx]; exact ih h

theorem comp_core {elt iter : Expr} {x : Str} {px : Pos} {ifs : List Expr} {scope : Scope} {cl : List (Str × Addr)} {pos cpos : Pos} {ρf : Rho} {α : Type} (xs : List α) (φ : α → D) (p : α → Bool) (ψ : α → D)
    (ok : EnvOk env) (hclos : closureFor scope env = pure cl) (hkind : scope.kind = .function) (hnames : ∀ y ∈ scope.names, y.2 = .local → scope.names.lookup y.1 = some .local) (hx : CompVar scope.names x)
    (hf : Frees env scope cl ρ ρf) (hsz : xs.length ≤ sizeLine) (hsrc : SrcJ prog w hb n env ρ iter (xs.map φ))
    (htest : ∀ C cs, cs = cellsFrom (C + 1) scope.names cl → ∀ a ∈ xs, TJ prog w hb n (compEnvC scope cs C env) ((x, φ a) :: ρf) ifs (p a))
    (helt : ∀ C cs, cs = cellsFrom (C + 1) scope.names cl → ∀ a ∈ xs, p a = true → EJ prog w hb n (compEnvC scope cs C env) ((x, φ a) :: ρf) elt (ψ a))
    (hs : ∀ x, foldedSetIterable iter env x = pure x) {use : Option (Value → Sem Unit)} {Q : Value → Shared → Prop} {E : Value → Shared → Prop} {A : Around} {s : Shared} {F : FMap} (hA : Amb n A) (S : St hb env s F ρ)
    (hQ : ∀ C DD s' F' ys m, Ext s F s' F' → F' DD = none → s.heap.get? DD = none → s'.heap.PlainList DD (List.toArray ys) → InAll F' ys ((xs.filter p).map ψ) → F' C = none → s.heap.get? C = none → C ≠ DD → s'.heap.Ns C m →
      compPost (model prog w) A E use Q (.ref DD) C (.ok .next) s') :
    wpAny (model prog w) A (comprehension (.ListComp elt [⟨.Name x px, iter, ifs, 0⟩] scope pos) scope env cpos (newList []) false (eval iter env) use) Q E s := by
  refine wpAny_comprehension_free rfl hs hclos hkind hnames (wpAny_mono (hsrc A hA s F S E) (fun xv s₁ h₁ => wpAny_mono h₁ (fun it s₂ h₂ => ?_) fun _ _ e => e) fun _ _ e => e)
  obtain ⟨F₂, I, fp, wr, P, SS, rfl, x₂, W, hst, hP, hwr, hfp, hob, hI⟩ := h₂
  refine wpAny_newObj_type (newCompEnv ?_)
  simp only [List.length_map] at W
  -- the new objects
  have hszp : (s₂.heap.push { cls := .type "list", data := .seq ([] : List Value).toArray }).objs.size = s₂.heap.objs.size + 1 := Heap.size_push ..
  dsimp only
  rw [hszp]
  generalize hH : pushCells ((s₂.heap.push { cls := .type "list", data := .seq ([] : List Value).toArray }).push { cls := .type "dict", data := .dict #[] }) scope.names = H3
  have hkeep : ∀ b o, ((s₂.heap.push { cls := .type "list", data := .seq ([] : List Value).toArray }).push { cls := .type "dict", data := .dict #[] }).get? b = some o → H3.get? b = some o := fun b o e => hH ▸ pushCells_keeps _ _ b o e
  have hold : ∀ b o, s₂.heap.get? b = some o → H3.get? b = some o := fun b o e => hkeep b o (Heap.get?_push_of_some _ (Heap.get?_push_of_some _ e))
  have hD3 : H3.PlainList s₂.heap.objs.size #[] := ⟨0, hkeep _ _ (Heap.get?_push_of_some _ (Heap.get?_push_size _ rfl))⟩
  have hC3 : H3.Ns (s₂.heap.objs.size + 1) (fun _ => none) := by
    have := Heap.Ns.new (s₂.heap.push { cls := .type "list", data := .seq ([] : List Value).toArray }) (.type "dict")
    rw [hszp] at this
    exact this.keeps hkeep
  have fresh : ∀ a, s₂.heap.objs.size ≤ a → s₂.heap.get? a = none := fun a ha => Heap.get?_none_of_le ha
  have hF₂ : ∀ a, s₂.heap.objs.size ≤ a → F₂ a = none := fun a ha => x₂.sub.none_of (fresh a ha)
  have hs0 : ∀ a, s₂.heap.objs.size ≤ a → s.heap.get? a = none := fun a ha => by
    cases q : s.heap.get? a with
    | none => rfl
    | some o => have := x₂.keep _ _ q; rw [fresh a ha] at this; cases this
  -- where the turning name lies
  obtain ⟨T, hT, hV⟩ : ∃ T, s₂.heap.objs.size + 1 ≤ T ∧ VarAt (compEnvC scope (cellsFrom (s₂.heap.objs.size + 1 + 1) scope.names cl) (s₂.heap.objs.size + 1) env) x H3 T := by
    cases hx with
    | loc h hc hp => exact ⟨_, Nat.le_refl _, .loc (lookup_relabel_local h) rfl hC3⟩
    | cell h hc hp =>
      refine ⟨s₂.heap.objs.size + 1 + 1, Nat.le_succ _, .cell (lookup_relabel_cell h) (v := none) ?_ ?_⟩
      · show (cellsFrom (s₂.heap.objs.size + 1 + 1) scope.names cl).lookup x = _
        rw [hc]; simp
      · refine ⟨{ cls := .type "cell", data := .cell none }, ?_, rfl⟩
        rw [← hH, hp]
        have e := Heap.get?_push_size ((s₂.heap.push { cls := .type "list", data := .seq ([] : List Value).toArray }).push { cls := .type "dict", data := .dict #[] }) (o := { cls := .type "cell", data := .cell none }) rfl
        rwa [Heap.size_push, hszp] at e
  have hwlt : ∀ b ∈ wr, b < s₂.heap.objs.size := fun b hb => (hfp b (W.sub b hb)).2
  have keep₀ : ∀ b o, s.heap.get? b = some o → H3.get? b = some o ∧ b ≠ T ∧ b ≠ s₂.heap.objs.size ∧ b ∉ wr := fun b o e => by
    have e2 := x₂.keep b o e
    have lt := Heap.lt_size e2
    refine ⟨hold b o e2, Nat.ne_of_lt (Nat.lt_of_lt_of_le lt (Nat.le_trans (Nat.le_succ _) hT)), Nat.ne_of_lt lt, fun hb => ?_⟩
    rw [(hwr b hb).2.2] at e; cases e
  have loop : codeAny (model prog w) A (.compLoop (.ListComp elt [⟨.Name x px, iter, ifs, 0⟩] scope pos) 0 (.ref I) (.ref s₂.heap.objs.size) (compEnvC scope (cellsFrom (s₂.heap.objs.size + 1 + 1) scope.names cl) (s₂.heap.objs.size + 1) env))
      (compPost (model prog w) A E use Q (.ref s₂.heap.objs.size) (s₂.heap.objs.size + 1)) { s₂ with heap := H3 } := by
    refine comp_loop (h₀ := s.heap) (F := F₂) (T := T) (ρf := ρf) (s := { s₂ with heap := H3 }) xs φ p ψ hA hsz W (fun i v a hi ha => hP i v _ hi (by simp [ha])) ⟨hkind, ok.glob, ok.blt⟩ hV (fun b o e => hold b o (x₂.sub b o e)) (S.base.trans x₂.le)
      (W.frame _ _ _ hst fun b _ o e => hold b o e) hD3 (Nat.lt_of_lt_of_le S.tok x₂.toks) hob (hF₂ T (Nat.le_trans (Nat.le_succ _) hT)) (hF₂ _ (Nat.le_refl _))
      (fun b hb => ⟨(hwr b hb).1, by obtain ⟨o, ho⟩ := Option.isSome_iff_exists.mp (hwr b hb).2.1; show (H3.get? b).isSome = true; rw [hold b o ho]; rfl⟩)
      (Nat.ne_of_gt hT) (fun hm => Nat.lt_irrefl _ (Nat.lt_of_lt_of_le (hfp _ hm).2 (Nat.le_trans (Nat.le_succ _) hT))) (fun hm => Nat.lt_irrefl _ (hfp _ hm).2) keep₀ ?_ (htest _ _ rfl) (helt _ _ rfl) ?_
    · intro q hq
      obtain ⟨hm, fo⟩ := hf.all q hq
      obtain ⟨v, hv, iv⟩ := S.vars q hm
      refine ⟨v, ?_, iv.mono x₂.le⟩
      cases hv with
      | loc hk _ _ => rcases fo.k with h | h <;> rw [h] at hk <;> cases hk
      | cell hk hc hvv => exact .cell fo.k' ((fo.c _).trans hc) hvv
    · intro h' tk F' ys hl hys V' hle hsub hap hk htk
      have hk' : ∀ b o, s.heap.get? b = some o → h'.get? b = some o := fun b o e => by
        obtain ⟨e1, n1, n2, n3⟩ := keep₀ b o e
        exact hk b o n1 n2 n3 e1
      have D' : F' s₂.heap.objs.size = none := hap _ (hF₂ _ (Nat.le_refl _)) (by obtain ⟨k, e⟩ := hD3; show (H3.get? _).isSome = true; rw [e]; rfl)
      have C' : F' (s₂.heap.objs.size + 1) = none := hap _ (hF₂ _ (Nat.le_succ _)) (by obtain ⟨o, es, ep, e, _⟩ := hC3; show (H3.get? _).isSome = true; rw [e]; rfl)
      have Cns : ∃ m, h'.Ns (s₂.heap.objs.size + 1) m := by
        by_cases hTC : T = s₂.heap.objs.size + 1
        · cases V' with
          | loc a b c => exact ⟨_, hTC ▸ c⟩
          | cell a b c =>
            cases hV with
            | loc a' b' c' => rw [a'] at a; cases a
            | cell a' b' c' =>
              exfalso
              obtain ⟨o, ho, hd⟩ := c'
              obtain ⟨o', es, ep, ho', hd', _⟩ := hC3
              rw [hTC, ho'] at ho
              cases ho
              rw [hd'] at hd; cases hd
        · exact ⟨_, hC3.at' fun o e => hk _ o (Ne.symm hTC) (Nat.succ_ne_self _) (fun hb => Nat.lt_irrefl _ (Nat.lt_of_succ_lt (hwlt _ hb))) e⟩
      obtain ⟨m, Cns⟩ := Cns
      obtain ⟨⟨h2, t2, e2⟩, k2, l2, s2, a2, tk2⟩ := x₂
      subst e2
      exact hQ _ _ _ F' ys m ⟨⟨h', tk, rfl⟩, hk', l2.trans hle, hsub, fun a e1 e2 => hap a (a2 a e1 e2) (by
          obtain ⟨o, ho⟩ := Option.isSome_iff_exists.mp e2
          show (H3.get? a).isSome = true
          rw [(keep₀ a o ho).1]; rfl), Nat.le_trans tk2 htk⟩ D' (hs0 _ (Nat.le_refl _)) hl hys C' (hs0 _ (Nat.le_succ _)) (Nat.succ_ne_self _) Cns
  exact codeAny_compStart_list loop (W.self 0 _ _ _ (W.frame _ _ _ hst fun b _ o e => hold b o e) loop)

/-- freezing a list that is new -/
theorem Grow.freeze {G : FMap} {s s' : Shared} {F F' : FMap} {a : Addr} {o : Obj} (x : Grow G s F s' F') (hF : F' a = none) (hG : G a = none) (ho : s'.heap.get? a = some o) : Grow G s F s' (F'.add a o) := by
  refine ⟨x.same, x.keep, x.le.trans (FMap.le_add o hF), fun b o' e => ?_, fun b e1 e2 => ?_, x.toks⟩
  · by_cases hb : b = a
    · subst hb; rw [FMap.add_self] at e; cases e; exact ho
    · rw [FMap.add_ne F' o hb] at e; exact x.sub b o' e
  · by_cases hb : b = a
    · subst hb; rw [hG] at e2; cases e2
    · rw [FMap.add_ne F' o hb]; exact x.apart b e1 e2

/-- an expression that makes a new list, its own -/
def NJ (prog : Program) (w : World) (hb : Heap) (n : Nat) (env : Env) (ρ : Rho) (e : Expr) (ds : List D) : Prop :=
  ∀ A, Amb n A → ∀ s F, St hb env s F ρ → ∀ E, wpAny (model prog w) A (eval e env) (fun v s' => ∃ F' a vs, v = .ref a ∧ Ext s F s' F' ∧ F' a = none ∧ s.heap.get? a = none ∧ s'.heap.PlainList a (List.toArray vs) ∧ InAll F' vs ds) E s
theorem NJ.ej {e : Expr} {ds : List D} (h : NJ prog w hb n env ρ e ds) : EJ prog w hb n env ρ e (.list ds) := by
  intro A hA s F S E
  refine wpAny_mono (h A hA s F S E) (fun v s₁ h₁ => ?_) fun _ _ e => e
  obtain ⟨F₁, a, vs, rfl, x₁, f1, g1, ⟨k, hl⟩, i₁⟩ := h₁
  have x₂ := x₁.freeze f1 g1 hl
  exact ⟨_, x₂, .list ⟨_, FMap.add_self _ _ _, rfl, k, rfl⟩ (i₁.mono (FMap.le_add _ f1))⟩
theorem NJ.list {es : List Expr} {pos : Pos} {ds : List D} (h : AJ prog w hb n env ρ es ds) (hs : ds.length ≤ sizeLine) : NJ prog w hb n env ρ (.List es pos) ds := by
  intro A hA s F S E
  refine List_ (wpAny_mono (h pos A hA s F S E) (fun vs s₁ h₁ => ?_) fun _ _ e => e)
  obtain ⟨F₁, x₁, i₁⟩ := h₁
  refine wpAny_newObj_type ?_ (by show vs.toArray.size ≤ sizeLine; rw [List.size_toArray, i₁.length]; exact hs)
  refine ⟨F₁, _, vs, rfl, x₁.trans (Ext.pushOff x₁.sub _), x₁.sub.none_of (get?_size _), ?_, ⟨0, Heap.get?_push_size _ rfl⟩, i₁⟩
  cases q : s.heap.get? s₁.heap.objs.size with
  | none => rfl
  | some o => have := x₁.keep _ _ q; rw [get?_size] at this; cases this

theorem NJ.comp {elt iter : Expr} {x : Str} {px : Pos} {ifs : List Expr} {scope : Scope} {cl : List (Str × Addr)} {pos : Pos} {ρf : Rho} {α : Type} (xs : List α) (φ : α → D) (p : α → Bool) (ψ : α → D)
    (ok : EnvOk env) (hclos : closureFor scope env = pure cl) (hkind : scope.kind = .function) (hnames : ∀ y ∈ scope.names, y.2 = .local → scope.names.lookup y.1 = some .local) (hx : CompVar scope.names x)
    (hf : Frees env scope cl ρ ρf) (hsz : xs.length ≤ sizeLine) (hsrc : SrcJ prog w hb n env ρ iter (xs.map φ))
    (htest : ∀ C cs, cs = cellsFrom (C + 1) scope.names cl → ∀ a ∈ xs, TJ prog w hb n (compEnvC scope cs C env) ((x, φ a) :: ρf) ifs (p a))
    (helt : ∀ C cs, cs = cellsFrom (C + 1) scope.names cl → ∀ a ∈ xs, p a = true → EJ prog w hb n (compEnvC scope cs C env) ((x, φ a) :: ρf) elt (ψ a))
    (hs : ∀ env x, foldedSetIterable iter env x = pure x := by intro _ _; rfl) : NJ prog w hb n env ρ (.ListComp elt [⟨.Name x px, iter, ifs, 0⟩] scope pos) ((xs.filter p).map ψ) := by
  intro A hA s F S E
  rw [eval_ListComp]
  refine comp_core xs φ p ψ ok hclos hkind hnames hx hf hsz hsrc htest helt (hs env) (use := none) hA S ?_
  intro C DD s' F' ys m x D1 D2 hl i C1 C2 hCD hn
  refine ⟨m, hn, fun h' hs' => ⟨F', DD, ys, rfl, ?_, D1, D2, hl.extBut hs'.extBut (Ne.symm hCD), i⟩⟩
  obtain ⟨⟨h1, t1, rfl⟩, k1, l1, s1, a1, tk1⟩ := x
  refine ⟨⟨h', t1, rfl⟩, fun b o e => hs'.extBut b o (fun q => by rw [q] at e; rw [show FMap.of s.heap C = s.heap.get? C from rfl, C2] at e; cases e) (k1 b o e), l1, fun b o e => hs'.extBut b o (fun q => by rw [q, C1] at e; cases e) (s1 b o e), a1, tk1⟩
/-- no test: a map -/
theorem NJ.map {elt iter : Expr} {x : Str} {px : Pos} {scope : Scope} {cl : List (Str × Addr)} {pos : Pos} {ρf : Rho} {α : Type} (xs : List α) (φ : α → D) (ψ : α → D)
    (ok : EnvOk env) (hclos : closureFor scope env = pure cl) (hkind : scope.kind = .function) (hnames : ∀ y ∈ scope.names, y.2 = .local → scope.names.lookup y.1 = some .local) (hx : CompVar scope.names x)
    (hf : Frees env scope cl ρ ρf) (hsz : xs.length ≤ sizeLine) (hsrc : SrcJ prog w hb n env ρ iter (xs.map φ))
    (helt : ∀ C cs, cs = cellsFrom (C + 1) scope.names cl → ∀ a ∈ xs, EJ prog w hb n (compEnvC scope cs C env) ((x, φ a) :: ρf) elt (ψ a))
    (hs : ∀ env x, foldedSetIterable iter env x = pure x := by intro _ _; rfl) : NJ prog w hb n env ρ (.ListComp elt [⟨.Name x px, iter, [], 0⟩] scope pos) (xs.map ψ) := by
  have h := NJ.comp (prog := prog) (w := w) (hb := hb) (n := n) (env := env) (ρ := ρ) (pos := pos) (px := px) (ifs := []) xs φ (fun _ => true) ψ ok hclos hkind hnames hx hf hsz hsrc (fun C cs e a ha => TJ.none) (fun C cs e a ha _ => helt C cs e a ha) hs
  rwa [List.filter_eq_self.mpr (fun _ _ => rfl)] at h
end
end Mine
end
section
open PySem PySem.W PySem.Calls PyProof.Rows
set_option maxRecDepth 100000
namespace Mine
theorem Ns.unique {h : Heap} {a : Addr} {m m' : Str → Option Value} (x : h.Ns a m) (y : h.Ns a m') : m = m' := by
  obtain ⟨o, es, ep, ho, hd, _, hm⟩ := x
  obtain ⟨o', es', ep', ho', hd', _, hm'⟩ := y
  rw [ho] at ho'; cases ho'
  rw [hd] at hd'; cases hd'
  funext n; rw [← hm n, hm' n]

/-- storing a name: the other names stay -/
theorem store_names {M : Model} {A : Around} {E : Value → Shared → Prop} {s : Shared} {env : Env} {x : Str} {T : Addr} {v : Value} {Q : Unit → Shared → Prop} (hkf : env.scope.kind = .function) (V : VarAt env x s.heap T)
    (hcell : ∀ y c, y ≠ x → env.cells.lookup y = some c → env.cells.lookup x = some c → (env.kindOf y = some .cell ∨ env.kindOf y = some .free) → env.kindOf x = some .cell → False)
    (h : ∀ h' tk, VarAt env x h' T → VarIn env h' x v → (∀ y u, y ≠ x → VarIn env s.heap y u → VarIn env h' y u) → Heap.SameBut T s.heap h' → s.toks ≤ tk → Q () { s with heap := h', toks := tk }) : wpAny M A (storeName env x v) Q E s := by
  cases V with
  | loc hk hT hn =>
    subst hT
    refine wpAny_storeName_local hk hn (fun h' hn' hs' => h h' _ (.loc hk rfl hn') (.loc hk hn' (by simp)) (fun y u hy hu => ?_) hs' (Nat.le_succ _)) (by rw [hkf]; rfl)
    cases hu with
    | loc a b c =>
      have := Ns.unique b hn
      subst this
      exact .loc a hn' (by simp [hy, c])
    | cell a b c =>
      refine .cell a b (c.sameBut hs' fun e => ?_)
      obtain ⟨o, ho, hd⟩ := c
      obtain ⟨o', es, ep, ho', hd', _⟩ := hn
      rw [e, ho'] at ho; cases ho
      rw [hd'] at hd; cases hd
  | cell hk hc hv =>
    refine wpAny_storeName_cell hkf hk hc hv (fun h' hv' hs' => h h' _ (.cell hk hc hv') (.cell (.inl hk) hc hv') (fun y u hy hu => ?_) hs' (Nat.le_refl _))
    cases hu with
    | loc a b c =>
      refine .loc a (b.sameBut hs' fun e => ?_) c
      obtain ⟨o, ho, hd⟩ := hv
      obtain ⟨o', es, ep, ho', hd', _⟩ := b
      rw [← e, ho'] at ho; cases ho
      rw [hd'] at hd; cases hd
    | cell a b c => exact .cell a b (c.sameBut hs' fun e => hcell y _ hy (e ▸ b) hc a hk)

/-- a list of one's own, at its address -/
def OwnAt (h : Heap) (pl : Bool) (a : Addr) (vs : List Value) : Prop := if pl = true then h.PlainList a (List.toArray vs) else h.IsList a (List.toArray vs)
theorem OwnAt.isList {h : Heap} {pl : Bool} {a : Addr} {vs : List Value} (x : OwnAt h pl a vs) : h.IsList a (List.toArray vs) := by
  unfold OwnAt at x; split at x
  · exact x.isList
  · exact x
theorem OwnAt.at {h h' : Heap} {pl : Bool} {a : Addr} {vs : List Value} (x : OwnAt h pl a vs) (hk : ∀ o, h.get? a = some o → h'.get? a = some o) : OwnAt h' pl a vs := by
  unfold OwnAt at x ⊢; split
  · rename_i e; rw [if_pos e] at x; exact x.at hk
  · rename_i e; rw [if_neg e] at x; exact x.at hk
theorem OwnAt.some {h : Heap} {pl : Bool} {a : Addr} {vs : List Value} (x : OwnAt h pl a vs) : (h.get? a).isSome = true := by
  obtain ⟨o, e, _⟩ := x.isList; rw [e]; rfl
theorem OwnAt.loose {h : Heap} {pl : Bool} {a : Addr} {vs : List Value} (x : OwnAt h pl a vs) : OwnAt h false a vs := x.isList

/-- name, whether it may be appended to, items -/
abbrev Owns := List (Str × Bool × List D)
structure OwnOK (env : Env) (G F : FMap) (h : Heap) (adr : Str → Addr) (q : Str × Bool × List D) : Prop where
  var : VarIn env h q.1 (.ref (adr q.1))
  offF : F (adr q.1) = none
  offG : G (adr q.1) = none
  it : ∃ vs, OwnAt h q.2.1 (adr q.1) vs ∧ InAll F vs q.2.2

/-- a frame: what it keeps (G), what is frozen (F), its names' data (ρ), its own lists (Ω) -/
structure Fm (hb : Heap) (G : FMap) (env : Env) (s : Shared) (F : FMap) (ρ : Rho) (Ω : Owns) : Prop where
  st : St hb env s F ρ
  gk : Sub G s.heap
  loc : ∃ m, s.heap.Ns env.locals m
  locF : F env.locals = none
  locG : G env.locals = none
  cell : ∀ x c, env.kindOf x = some .cell → env.cells.lookup x = some c → (∃ v, s.heap.IsCell c v) ∧ F c = none ∧ G c = none
  apart : ∀ x y c, y ≠ x → env.cells.lookup y = some c → env.cells.lookup x = some c → (env.kindOf y = some .cell ∨ env.kindOf y = some .free) → env.kindOf x = some .cell → False
  owns : ∃ adr : Str → Addr, (∀ q ∈ Ω, OwnOK env G F s.heap adr q) ∧ ∀ p ∈ Ω, ∀ q ∈ Ω, p.1 ≠ q.1 → adr p.1 ≠ adr q.1

theorem isSome_of {h : Heap} {a : Addr} {o : Obj} (e : h.get? a = some o) : ((FMap.of h) a).isSome = true := by show (h.get? a).isSome = true; rw [e]; rfl
theorem Ns.some {h : Heap} {a : Addr} {m} (x : h.Ns a m) : (h.get? a).isSome = true := by obtain ⟨o, es, ep, e, _⟩ := x; rw [e]; rfl
theorem IsCell.some {h : Heap} {a : Addr} {v} (x : h.IsCell a v) : (h.get? a).isSome = true := by obtain ⟨o, e, _⟩ := x; rw [e]; rfl

/-- an expression goes by -/
theorem Fm.ext {hb G env s F ρ Ω s' F'} (x : Fm hb G env s F ρ Ω) (e : Ext s F s' F') : Fm hb G env s' F' ρ Ω where
  st := x.st.ext e
  gk := fun a o h => e.keep a o (x.gk a o h)
  loc := let ⟨m, h⟩ := x.loc; ⟨m, h.keeps e.keep⟩
  locF := e.apart _ x.locF (by obtain ⟨m, h⟩ := x.loc; exact Ns.some h)
  locG := x.locG
  cell := fun y c hk hc => by
    obtain ⟨⟨v, hv⟩, h2, h3⟩ := x.cell y c hk hc
    exact ⟨⟨v, hv.keeps e.keep⟩, e.apart _ h2 (IsCell.some hv), h3⟩
  apart := x.apart
  owns := by
    obtain ⟨adr, h1, h2⟩ := x.owns
    refine ⟨adr, fun q hq => ?_, h2⟩
    obtain ⟨a, b, c, vs, d, i⟩ := h1 q hq
    exact ⟨a.keeps e.keep, e.apart _ b d.some, c, vs, d.at fun o h => e.keep _ o h, i.mono e.le⟩
theorem Fm.grow {hb G env s F ρ Ω s' F'} (x : Fm hb G env s F ρ Ω) (e : Ext s F s' F') : Grow G s F s' F' :=
  ⟨e.same, fun a o h => e.keep a o (x.gk a o h), e.le, e.sub, fun a e1 e2 => e.apart a e1 (by obtain ⟨o, ho⟩ := Option.isSome_iff_exists.mp e2; exact isSome_of (x.gk a o ho)), e.toks⟩
theorem Fm.weaken {hb G env s F ρ Ω ρ' Ω'} (x : Fm hb G env s F ρ Ω) (h1 : ∀ p ∈ ρ', p ∈ ρ) (h2 : ∀ q ∈ Ω', q ∈ Ω) : Fm hb G env s F ρ' Ω' := by
  obtain ⟨adr, a, b⟩ := x.owns
  exact ⟨x.st.weaken h1, x.gk, x.loc, x.locF, x.locG, x.cell, x.apart, adr, fun q hq => a q (h2 q hq), fun p hp q hq => b p (h2 p hp) q (h2 q hq)⟩

/-- where a frame's name lies -/
def StoreOK (env : Env) (x : Str) : Prop := env.kindOf x = some .local ∨ (env.kindOf x = some .cell ∧ ∃ c, env.cells.lookup x = some c)
theorem Fm.varAt {hb G env s F ρ Ω x} (f : Fm hb G env s F ρ Ω) (h : StoreOK env x) : ∃ T, VarAt env x s.heap T ∧ F T = none ∧ G T = none ∧ (∀ a vs, s.heap.IsList a vs → a ≠ T) := by
  rcases h with h | ⟨h, c, hc⟩
  · obtain ⟨m, hm⟩ := f.loc
    refine ⟨_, .loc h rfl hm, f.locF, f.locG, fun a vs hl e => ?_⟩
    obtain ⟨o, ho, _, n, hd⟩ := hl
    obtain ⟨o', es, ep, ho', hd', _⟩ := hm
    rw [e, ho'] at ho; cases ho; rw [hd'] at hd; cases hd
  · obtain ⟨⟨v, hv⟩, h2, h3⟩ := f.cell x c h hc
    refine ⟨_, .cell h hc hv, h2, h3, fun a vs hl e => ?_⟩
    obtain ⟨o, ho, _, n, hd⟩ := hl
    obtain ⟨o', ho', hd'⟩ := hv
    rw [e, ho'] at ho; cases ho; rw [hd'] at hd; cases hd

/-- the frame behind a store -/
theorem Fm.store {M : Model} {A : Around} {E : Value → Shared → Prop} {hb : Heap} {G : FMap} {env : Env} {s : Shared} {F : FMap} {ρ ρ' : Rho} {Ω Ω' : Owns} {x : Str} {v : Value} {Q : Unit → Shared → Prop} (f : Fm hb G env s F ρ Ω) (ok : EnvOk env) (hx : StoreOK env x)
    (h1 : ∀ p ∈ ρ', p ∈ ρ ∧ p.1 ≠ x) (h2 : ∀ q ∈ Ω', q ∈ Ω ∧ q.1 ≠ x)
    (h : ∀ h' tk, Fm hb G env { s with heap := h', toks := tk } F ρ' Ω' → VarIn env h' x v → Grow G s F { s with heap := h', toks := tk } F → (∀ a vs, s.heap.IsList a vs → h'.get? a = s.heap.get? a) →
      (∀ adr : Str → Addr, (∀ q ∈ Ω, OwnOK env G F s.heap adr q) → ∀ q ∈ Ω', OwnOK env G F h' adr q) → (∃ T, VarAt env x s.heap T ∧ Heap.SameBut T s.heap h') → Q () { s with heap := h', toks := tk }) :
    wpAny M A (storeName env x v) Q E s := by
  obtain ⟨T, V, hTF, hTG, hTL⟩ := f.varAt hx
  refine store_names ok.kind V (fun y c hy a b d e => f.apart x y c hy a b d e) fun h' tk V' hv hall hs htk => ?_
  have hsub : Sub F h' := fun a o e => hs.extBut a o (fun q => by rw [q, hTF] at e; cases e) (f.st.sub a o e)
  have hgk : Sub G h' := fun a o e => hs.extBut a o (fun q => by rw [q, hTG] at e; cases e) (f.gk a o e)
  have hown : ∀ adr : Str → Addr, (∀ q ∈ Ω, OwnOK env G F s.heap adr q) → ∀ q ∈ Ω', OwnOK env G F h' adr q := fun adr a q hq => by
    obtain ⟨hq1, hq2⟩ := h2 q hq
    obtain ⟨k1, k2, k3, vs, k4, k5⟩ := a q hq1
    exact ⟨hall _ _ hq2 k1, k2, k3, vs, k4.at fun o e => hs.extBut _ o (hTL _ _ k4.isList) e, k5⟩
  refine h h' tk ⟨⟨hsub, f.st.base, fun p hp => ?_, by have := f.st.tok; show 0 < tk; omega⟩, hgk, ?_, f.locF, f.locG, ?_, f.apart, ?_⟩ hv ⟨⟨h', tk, rfl⟩, hgk, LeF.refl F, hsub, fun _ e _ => e, htk⟩ (fun a vs hl => hs.2 a (hTL a vs hl)) hown ⟨T, V, hs⟩
  · obtain ⟨hp1, hp2⟩ := h1 p hp
    obtain ⟨u, hu, iu⟩ := f.st.vars p hp1
    exact ⟨u, hall _ _ hp2 hu, iu⟩
  · obtain ⟨m, hm⟩ := f.loc
    by_cases e : env.locals = T
    · cases V' with
      | loc a b c => exact ⟨_, e ▸ c⟩
      | cell a b c =>
        cases V with
        | loc a' _ _ => rw [a'] at a; cases a
        | cell a' b' c' =>
          exfalso
          obtain ⟨o, ho, hd⟩ := c'
          obtain ⟨o', es, ep, ho', hd', _⟩ := hm
          rw [e, ho] at ho'; cases ho'; rw [hd] at hd'; cases hd'
    · exact ⟨m, hm.sameBut hs e⟩
  · intro y c hk hc
    obtain ⟨⟨u, hu⟩, b, d⟩ := f.cell y c hk hc
    refine ⟨?_, b, d⟩
    by_cases e : c = T
    · subst e
      cases V' with
      | loc a b' c' =>
        cases V with
        | loc a2 b2 c2 =>
          exfalso
          obtain ⟨o, ho, hd⟩ := hu
          obtain ⟨o', es, ep, ho', hd', _⟩ := c2
          rw [ho'] at ho; cases ho; rw [hd'] at hd; cases hd
        | cell a2 b2 c2 => rw [a2] at a; cases a
      | cell a b' c' => exact ⟨_, c'⟩
    · exact ⟨u, hu.sameBut hs e⟩
  · obtain ⟨adr, a, b⟩ := f.owns
    exact ⟨adr, hown adr a, fun p hp q hq => b p (h2 p hp).1 q (h2 q hq).1⟩

/-- freezing an own list -/
theorem Fm.freeze {hb G env s F ρ Ω} {x : Str} {pl : Bool} {ds : List D} {Ω' : Owns} (f : Fm hb G env s F ρ Ω) (hx : (x, pl, ds) ∈ Ω) (h2 : ∀ q ∈ Ω', q ∈ Ω ∧ q.1 ≠ x) :
    ∃ F', Grow G s F s F' ∧ Fm hb G env s F' ((x, .list ds) :: ρ) Ω' := by
  obtain ⟨adr, a, b⟩ := f.owns
  obtain ⟨k1, k2, k3, vs, k4, k5⟩ := a _ hx
  obtain ⟨o, ho, hc, n, hd⟩ := k4.isList
  have gr := (Grow.refl f.gk f.st.sub).freeze k2 k3 ho
  have le := FMap.le_add o k2
  have loc' : env.locals ≠ adr x := fun e => by
    obtain ⟨m, o', es, ep, ho', hd', _⟩ := f.loc
    rw [e, ho] at ho'; cases ho'; rw [hd] at hd'; cases hd'
  refine ⟨_, gr, ⟨gr.sub, f.st.base.trans le, fun p hp => ?_, f.st.tok⟩, f.gk, f.loc, ?_, f.locG, fun y c hk hc' => ?_, f.apart, adr, fun q hq => ?_, fun p hp q hq => b p (h2 p hp).1 q (h2 q hq).1⟩
  · rcases List.mem_cons.mp hp with rfl | hp
    · exact ⟨_, k1, .list ⟨o, FMap.add_self _ _ _, hc, n, hd⟩ (k5.mono le)⟩
    · obtain ⟨u, hu, iu⟩ := f.st.vars p hp
      exact ⟨u, hu, iu.mono le⟩
  · rw [FMap.add_ne F o loc']; exact f.locF
  · obtain ⟨⟨v, hv⟩, c2, c3⟩ := f.cell y c hk hc'
    refine ⟨⟨v, hv⟩, ?_, c3⟩
    rw [FMap.add_ne F o (fun e => ?_)]; exact c2
    obtain ⟨o', ho', hd'⟩ := hv
    rw [e, ho] at ho'; cases ho'; rw [hd] at hd'; cases hd'
  · obtain ⟨hq1, hq2⟩ := h2 q hq
    obtain ⟨j1, j2, j3, vs', j4, j5⟩ := a q hq1
    refine ⟨j1, ?_, j3, vs', j4, j5.mono le⟩
    rw [FMap.add_ne F o (b q hq1 _ hx hq2)]; exact j2
/-- a scratch namespace turns -/
theorem Fm.scratch {hb G env s F ρ Ω} {C : Addr} {m : Str → Option Value} {h' : Heap} (f : Fm hb G env s F ρ Ω) (hF : F C = none) (hG : G C = none) (hC : s.heap.Ns C m) (hL : env.locals ≠ C) (hs : Heap.SameBut C s.heap h') :
    Fm hb G env { s with heap := h' } F ρ Ω ∧ Grow G s F { s with heap := h' } F := by
  have hsub : Sub F h' := fun a o e => hs.extBut a o (fun q => by rw [q, hF] at e; cases e) (f.st.sub a o e)
  have hgk : Sub G h' := fun a o e => hs.extBut a o (fun q => by rw [q, hG] at e; cases e) (f.gk a o e)
  have cellNe : ∀ c v, s.heap.IsCell c v → c ≠ C := fun c v hv e => by
    obtain ⟨o, ho, hd⟩ := hv
    obtain ⟨o', es, ep, ho', hd', _⟩ := hC
    rw [e, ho'] at ho; cases ho; rw [hd'] at hd; cases hd
  have var : ∀ y u, VarIn env s.heap y u → VarIn env h' y u := fun y u hu => by
    cases hu with
    | loc a b c => exact .loc a (b.sameBut hs hL) c
    | cell a b c => exact .cell a b (c.sameBut hs (cellNe _ _ c))
  obtain ⟨adr, a, b⟩ := f.owns
  refine ⟨⟨⟨hsub, f.st.base, fun p hp => ?_, f.st.tok⟩, hgk, ?_, f.locF, f.locG, fun y c hk hc => ?_, f.apart, adr, fun q hq => ?_, b⟩, ⟨_, _, rfl⟩, hgk, LeF.refl F, hsub, fun _ e _ => e, Nat.le_refl _⟩
  · obtain ⟨u, hu, iu⟩ := f.st.vars p hp
    exact ⟨u, var _ _ hu, iu⟩
  · obtain ⟨m', hm⟩ := f.loc
    exact ⟨m', hm.sameBut hs hL⟩
  · obtain ⟨⟨v, hv⟩, h2, h3⟩ := f.cell y c hk hc
    exact ⟨⟨v, hv.sameBut hs (cellNe _ _ hv)⟩, h2, h3⟩
  · obtain ⟨k1, k2, k3, vs, k4, k5⟩ := a q hq
    refine ⟨var _ _ k1, k2, k3, vs, k4.at fun o e => hs.extBut _ o (fun e2 => ?_) e, k5⟩
    obtain ⟨o1, ho, _, n, hd⟩ := k4.isList
    obtain ⟨o', es, ep, ho', hd', _⟩ := hC
    rw [e2, ho'] at ho; cases ho; rw [hd'] at hd; cases hd
end Mine
end
section
open PySem PySem.W PySem.Calls PyProof.Rows
set_option maxRecDepth 100000
namespace Mine

def owned (Ω : Owns) : Rho := Ω.map fun q => (q.1, .list q.2.2)
def scalar : D → Bool
  | .none | .bool _ | .int _ | .str _ => true
  | _ => false
theorem In.scalar {F F' : FMap} {v : Value} {d : D} (i : In F v d) (h : scalar d = true) : In F' v d := by
  cases i with
  | none => exact .none
  | bool b => exact .bool b
  | int i t => exact .int i t
  | str x t => exact .str x t
  | list _ _ => cases h
  | tup _ _ => cases h
  | mgr _ => cases h

open Classical in
/-- the own lists lent for a look -/
theorem Fm.lend {hb G env s F ρ Ω} (f : Fm hb G env s F ρ Ω) : ∃ Fp, St hb env s Fp (ρ ++ owned Ω) ∧ ∀ F'' s', Ext s Fp s' F'' → ∃ F', Ext s F s' F' := by
  obtain ⟨adr, a, b⟩ := f.owns
  have le : LeF F (fun c => if ∃ q ∈ Ω, adr q.1 = c then s.heap.get? c else F c) := fun c o e => by
    show (if _ then _ else _) = _
    rw [if_neg (fun ⟨q, hq, hc⟩ => by rw [← hc, (a q hq).offF] at e; cases e)]; exact e
  refine ⟨fun c => if ∃ q ∈ Ω, adr q.1 = c then s.heap.get? c else F c, ⟨?_, f.st.base.trans le, ?_, f.st.tok⟩, ?_⟩
  · intro c o e
    by_cases h : ∃ q ∈ Ω, adr q.1 = c
    · simpa only [if_pos h] using e
    · exact f.st.sub c o (by simpa only [if_neg h] using e)
  · intro p hp
    rcases List.mem_append.mp hp with hp | hp
    · obtain ⟨u, hu, iu⟩ := f.st.vars p hp
      exact ⟨u, hu, iu.mono le⟩
    · obtain ⟨q, hq, rfl⟩ := List.mem_map.mp hp
      obtain ⟨k1, k2, k3, vs, k4, k5⟩ := a q hq
      obtain ⟨o, ho, hc, n, hd⟩ := k4.isList
      exact ⟨_, k1, .list ⟨o, by show (if _ then _ else _) = _; rw [if_pos ⟨q, hq, rfl⟩]; exact ho, hc, n, hd⟩ (k5.mono le)⟩
  · intro F'' s' x
    refine ⟨fun c => if ∃ q ∈ Ω, adr q.1 = c then none else F'' c, x.same, x.keep, fun c o e => ?_, fun c o e => ?_, fun c e1 e2 => ?_, x.toks⟩
    · have h : ¬ ∃ q ∈ Ω, adr q.1 = c := fun ⟨q, hq, hc⟩ => by rw [← hc, (a q hq).offF] at e; cases e
      show (if _ then _ else _) = _
      rw [if_neg h]; exact x.le c o (le c o e)
    · by_cases h : ∃ q ∈ Ω, adr q.1 = c
      · simp only [if_pos h] at e; cases e
      · exact x.sub c o (by simpa only [if_neg h] using e)
    · by_cases h : ∃ q ∈ Ω, adr q.1 = c
      · exact if_pos h
      · show (if _ then _ else _) = _
        rw [if_neg h]
        exact x.apart c (by show (if _ then _ else _) = _; rw [if_neg h]; exact e1) e2

/-- where a run of statements comes to -/
inductive Out
  | next (ρ : Rho) (Ω : Owns)
  | ret (d : D)
def Post (hb : Heap) (G : FMap) (env : Env) (s : Shared) (F : FMap) (o : Out) (fl : Flow) (s' : Shared) : Prop :=
  ∃ F', Grow G s F s' F' ∧ match o with
    | .next ρ Ω => fl = .next ∧ Fm hb G env s' F' ρ Ω
    | .ret d => ∃ v, fl = .ret v ∧ In F' v d

section
variable (prog : Program) (w : World) (hb : Heap) (n : Nat) (env : Env)
def XJ (ρ : Rho) (Ω : Owns) (ss : List Stmt) (o : Out) : Prop :=
  ∀ A, Amb n A → ∀ G s F, Fm hb G env s F ρ Ω → ∀ E, wpAny (model prog w) A (execs ss env) (Post hb G env s F o) E s
def SJ (ρ : Rho) (Ω : Owns) (st : Stmt) (o : Out) : Prop :=
  ∀ A, Amb n A → ∀ G s F, Fm hb G env s F ρ Ω → ∀ E, wpAny (model prog w) A (exec st env) (Post hb G env s F o) E s
/-- a value within a frame -/
def VJ (ρ : Rho) (Ω : Owns) (e : Expr) (d : D) : Prop :=
  ∀ A, Amb n A → ∀ G s F, Fm hb G env s F ρ Ω → ∀ E, wpAny (model prog w) A (eval e env) (fun v s' => ∃ F', Ext s F s' F' ∧ In F' v d) E s
def CJ (ρ : Rho) (Ω : Owns) (e : Expr) (b : Bool) : Prop :=
  ∀ A, Amb n A → ∀ G s F, Fm hb G env s F ρ Ω → ∀ E, wpAny (model prog w) A (isTrue e env (eval e env)) (fun r s' => r = b ∧ ∃ F', Ext s F s' F') E s
/-- a target takes a datum -/
def AsJ (ρ : Rho) (Ω : Owns) (t : Expr) (d : D) (ρ' : Rho) (Ω' : Owns) : Prop :=
  ∀ A, Amb n A → ∀ G s F, Fm hb G env s F ρ Ω → ∀ v, In F v d → ∀ E, wpAny (model prog w) A (assign t env v) (fun _ s' => ∃ F', Grow G s F s' F' ∧ Fm hb G env s' F' ρ' Ω') E s
end

section
variable {prog : Program} {w : World} {hb : Heap} {n : Nat} {env : Env} {ρ ρ' : Rho} {Ω Ω' : Owns}
theorem VJ.of {e : Expr} {d : D} (h : EJ prog w hb n env ρ e d) : VJ prog w hb n env ρ Ω e d := fun A hA G s F f E => h A hA s F f.st E
theorem VJ.lend {e : Expr} {d : D} (h : EJ prog w hb n env (ρ ++ owned Ω) e d) (hs : scalar d = true) : VJ prog w hb n env ρ Ω e d := by
  intro A hA G s F f E
  obtain ⟨Fp, S, back⟩ := f.lend
  refine wpAny_mono (h A hA s Fp S E) (fun v s₁ h₁ => ?_) fun _ _ e => e
  obtain ⟨F₁, x₁, i₁⟩ := h₁
  obtain ⟨F', x'⟩ := back F₁ s₁ x₁
  exact ⟨F', x', i₁.scalar hs⟩
theorem CJ.of {e : Expr} {b : Bool} (h : BJ prog w hb n env ρ e b) : CJ prog w hb n env ρ Ω e b := fun A hA G s F f E => h A hA s F f.st E
theorem CJ.lend {e : Expr} {b : Bool} (h : BJ prog w hb n env (ρ ++ owned Ω) e b) : CJ prog w hb n env ρ Ω e b := by
  intro A hA G s F f E
  obtain ⟨Fp, S, back⟩ := f.lend
  refine wpAny_mono (h A hA s Fp S E) (fun v s₁ h₁ => ?_) fun _ _ e => e
  obtain ⟨e, F₁, x₁⟩ := h₁
  exact ⟨e, back F₁ s₁ x₁⟩

theorem Grow.trans' {G : FMap} {s s' s'' : Shared} {F F' F'' : FMap} (x : Grow G s F s' F') (y : Grow G s' F' s'' F'') : Grow G s F s'' F'' := x.trans y (LeF.refl G)
theorem Post.after {G : FMap} {s s₁ s' : Shared} {F F₁ : FMap} {o : Out} {fl : Flow} (x : Grow G s F s₁ F₁) (h : Post hb G env s₁ F₁ o fl s') : Post hb G env s F o fl s' := by
  obtain ⟨F', y, z⟩ := h
  exact ⟨F', x.trans' y, z⟩

theorem XJ.nil : XJ prog w hb n env ρ Ω [] (.next ρ Ω) := fun A hA G s F f E => wpAny_execs_nil ⟨F, Grow.refl f.gk f.st.sub, rfl, f⟩
theorem XJ.cons {st : Stmt} {ss : List Stmt} {o : Out} (h : SJ prog w hb n env ρ Ω st (.next ρ' Ω')) (hr : XJ prog w hb n env ρ' Ω' ss o) : XJ prog w hb n env ρ Ω (st :: ss) o := by
  intro A hA G s F f E
  refine wpAny_execs_cons (wpAny_mono (h A hA G s F f E) (fun fl s₁ h₁ => ?_) fun _ _ e => e)
  obtain ⟨F₁, x₁, rfl, f₁⟩ := h₁
  exact wpAny_mono (hr A hA G s₁ F₁ f₁ E) (fun fl s₂ h₂ => h₂.after x₁) fun _ _ e => e
theorem XJ.ret {st : Stmt} {ss : List Stmt} {d : D} (h : SJ prog w hb n env ρ Ω st (.ret d)) : XJ prog w hb n env ρ Ω (st :: ss) (.ret d) := by
  intro A hA G s F f E
  refine wpAny_execs_cons (wpAny_mono (h A hA G s F f E) (fun fl s₁ h₁ => ?_) fun _ _ e => e)
  obtain ⟨F₁, x₁, v, rfl, i⟩ := h₁
  exact ⟨F₁, x₁, v, rfl, i⟩
theorem XJ.weaken {ss : List Stmt} {ρ₁ : Rho} {Ω₁ : Owns} (h : XJ prog w hb n env ρ Ω ss (.next ρ₁ Ω₁)) (h1 : ∀ p ∈ ρ', p ∈ ρ₁) (h2 : ∀ q ∈ Ω', q ∈ Ω₁) : XJ prog w hb n env ρ Ω ss (.next ρ' Ω') := by
  intro A hA G s F f E
  refine wpAny_mono (h A hA G s F f E) (fun fl s₁ h₁ => ?_) fun _ _ e => e
  obtain ⟨F₁, x₁, rfl, f₁⟩ := h₁
  exact ⟨F₁, x₁, rfl, f₁.weaken h1 h2⟩
theorem XJ.pre {ss : List Stmt} {o : Out} (h : XJ prog w hb n env ρ' Ω' ss o) (h1 : ∀ p ∈ ρ', p ∈ ρ) (h2 : ∀ q ∈ Ω', q ∈ Ω) : XJ prog w hb n env ρ Ω ss o :=
  fun A hA G s F f E => h A hA G s F (f.weaken h1 h2) E
/-- an own list is frozen -/
theorem XJ.freeze {ss : List Stmt} {o : Out} {x : Str} {pl : Bool} {ds : List D} (hx : (x, pl, ds) ∈ Ω) (h2 : ∀ q ∈ Ω', q ∈ Ω ∧ q.1 ≠ x) (h : XJ prog w hb n env ((x, .list ds) :: ρ) Ω' ss o) : XJ prog w hb n env ρ Ω ss o := by
  intro A hA G s F f E
  obtain ⟨F', x', f'⟩ := f.freeze hx h2
  exact wpAny_mono (h A hA G s F' f' E) (fun fl s₂ h₂ => h₂.after x') fun _ _ e => e

theorem Fm.storeVal {M : Model} {A : Around} {E : Value → Shared → Prop} {G : FMap} {s : Shared} {F : FMap} {x : Str} {v : Value} {d : D} (f : Fm hb G env s F ρ Ω) (ok : EnvOk env) (hx : StoreOK env x)
    (h1 : ∀ p ∈ ρ', p ∈ ρ ∧ p.1 ≠ x) (h2 : ∀ q ∈ Ω', q ∈ Ω ∧ q.1 ≠ x) (iv : In F v d) : wpAny M A (storeName env x v) (fun _ s' => Grow G s F s' F ∧ Fm hb G env s' F ((x, d) :: ρ') Ω') E s := by
  refine f.store ok hx h1 h2 fun h' tk f' hv gr _ _ _ => ⟨gr, ⟨f'.st.sub, f'.st.base, fun p hp => ?_, f'.st.tok⟩, f'.gk, f'.loc, f'.locF, f'.locG, f'.cell, f'.apart, f'.owns⟩
  rcases List.mem_cons.mp hp with rfl | hp
  · exact ⟨v, hv, iv⟩
  · exact f'.st.vars p hp
theorem AsJ.name {x : Str} {pos : Pos} {d : D} (ok : EnvOk env) (hx : StoreOK env x) (h1 : ∀ p ∈ ρ', p ∈ ρ ∧ p.1 ≠ x) (h2 : ∀ q ∈ Ω', q ∈ Ω ∧ q.1 ≠ x) : AsJ prog w hb n env ρ Ω (.Name x pos) d ((x, d) :: ρ') Ω' :=
  fun A hA G s F f v iv E => wpAny_assign_Name (wpAny_mono (f.storeVal ok hx h1 h2 iv) (fun _ s' h => ⟨F, h⟩) fun _ _ e => e)
theorem AsJ.pair {x y : Str} {px py : Pos} {k : Nat} {pos : Pos} {d e : D} {ρ₁ ρ₂ : Rho} {Ω₁ Ω₂ : Owns} (hx : AsJ prog w hb n env ρ Ω (.Name x px) d ρ₁ Ω₁) (hy : AsJ prog w hb n env ρ₁ Ω₁ (.Name y py) e ρ₂ Ω₂) :
    AsJ prog w hb n env ρ Ω (.Tuple [.Name x px, .Name y py] k pos) (.tup [d, e]) ρ₂ Ω₂ := by
  intro A hA G s F f v iv E
  cases iv with
  | tup ht ia =>
    cases ia with
    | cons i1 ia =>
      cases ia with
      | cons i2 ia =>
        cases ia
        rename_i a vd ve
        have ht' := ht.isTup f.st.sub
        refine assign_Tuple_tuple hA.hh ht' rfl rfl fun h' he => ?_
        have x₁ : Ext s F { s with heap := h' } F := Ext.of_keeps f.st.sub rfl (fun b o e => he b o (Nat.ne_of_lt (Heap.lt_size e)) e) (Nat.le_refl _)
        have f₁ := f.ext x₁
        refine wpAny_assignInOrder_more (t := assign (.Name x px) env) (wpAny_mono (hx A hA G _ F f₁ vd i1 E) (fun _ s₂ h₂ => ?_) fun _ _ e => e)
        obtain ⟨F₂, g₂, f₂⟩ := h₂
        refine wpAny_assignInOrder_more (t := assign (.Name y py) env) (wpAny_mono (hy A hA G _ F₂ f₂ ve (i2.mono g₂.le) E) (fun _ s₃ h₃ => ?_) fun _ _ e => e)
        obtain ⟨F₃, g₃, f₃⟩ := h₃
        exact wpAny_assignInOrder_none ⟨F₃, ((f.grow x₁).trans' g₂).trans' g₃, f₃⟩

theorem SJ.assign {x : Str} {px pos : Pos} {e : Expr} {d : D} (he : VJ prog w hb n env ρ Ω e d) (ok : EnvOk env) (hx : StoreOK env x) (h1 : ∀ p ∈ ρ', p ∈ ρ ∧ p.1 ≠ x) (h2 : ∀ q ∈ Ω', q ∈ Ω ∧ q.1 ≠ x)
    (hs : ∀ env, swapsWith e (some (Expr.Name x px)) pos.line env = pure false := by intro _; rfl) : SJ prog w hb n env ρ Ω (.Assign [.Name x px] e pos) (.next ((x, d) :: ρ') Ω') := by
  intro A hA G s F f E
  refine wpAny_Assign_Name (wpAny_mono (he A hA G s F f E) (fun v s₁ h₁ => ?_) fun _ _ e => e) (hs env)
  obtain ⟨F₁, x₁, i₁⟩ := h₁
  refine wpAny_mono ((f.ext x₁).storeVal ok hx h1 h2 i₁) (fun _ s₂ h₂ => ⟨F₁, (f.grow x₁).trans' h₂.1, rfl, h₂.2⟩) fun _ _ e => e
/-- a value is taken apart into two names -/
theorem SJ.assignT {t : List Expr} {k : Nat} {tpos pos : Pos} {e : Expr} {d : D} (he : VJ prog w hb n env ρ Ω e d) (ha : AsJ prog w hb n env ρ Ω (.Tuple t k tpos) d ρ' Ω')
    (hs : ∀ env, swapsWithSole [Expr.Tuple t k tpos] e pos.line env = pure false := by intro _; rfl) (hw : ∀ env, swappedStores [Expr.Tuple t k tpos] e env = pure none := by intro _; rfl) :
    SJ prog w hb n env ρ Ω (.Assign [.Tuple t k tpos] e pos) (.next ρ' Ω') := by
  intro A hA G s F f E
  refine Assign_Tuple (wpAny_mono (he A hA G s F f E) (fun v s₁ h₁ => ?_) fun _ _ e => e) (hs env) (hw env)
  obtain ⟨F₁, x₁, i₁⟩ := h₁
  refine wpAny_mono (ha A hA G s₁ F₁ (f.ext x₁) v i₁ E) (fun _ s₂ h₂ => ?_) fun _ _ e => e
  obtain ⟨F₂, g₂, f₂⟩ := h₂
  exact ⟨F₂, (f.grow x₁).trans' g₂, rfl, f₂⟩

/-- a new list under a name, one's own -/
theorem Fm.storeOwn {M : Model} {A : Around} {E : Value → Shared → Prop} {G : FMap} {s s₁ : Shared} {F F₁ : FMap} {x : Str} {a : Addr} {vs : List Value} {ds : List D} (f : Fm hb G env s F ρ Ω) (ok : EnvOk env) (hx : StoreOK env x)
    (h1 : ∀ p ∈ ρ', p ∈ ρ ∧ p.1 ≠ x) (h2 : ∀ q ∈ Ω', q ∈ Ω ∧ q.1 ≠ x) (x₁ : Ext s F s₁ F₁) (ha : s₁.heap.PlainList a (List.toArray vs)) (iv : InAll F₁ vs ds) (aF : F₁ a = none) (aN : s.heap.get? a = none) :
    wpAny M A (storeName env x (.ref a)) (fun _ s' => Grow G s F s' F₁ ∧ Fm hb G env s' F₁ ρ' ((x, true, ds) :: Ω') ∧ ∃ T, VarAt env x s₁.heap T ∧ Heap.SameBut T s₁.heap s'.heap) E s₁ := by
  obtain ⟨adr, b, c⟩ := f.owns
  have f₁ := f.ext x₁
  have b₁ : ∀ q ∈ Ω, OwnOK env G F₁ s₁.heap adr q := fun q hq => by
    obtain ⟨k1, k2, k3, vs, k4, k5⟩ := b q hq
    exact ⟨k1.keeps x₁.keep, x₁.apart _ k2 k4.some, k3, vs, k4.at fun o h => x₁.keep _ o h, k5.mono x₁.le⟩
  have ne : ∀ q ∈ Ω, adr q.1 ≠ a := fun q hq e => by
    obtain ⟨k1, k2, k3, vs, k4, k5⟩ := b q hq
    have := k4.some
    rw [e, aN] at this; cases this
  refine f₁.store ok hx h1 h2 fun h' tk f' hv gr hl hown hT => ⟨(f.grow x₁).trans' gr, ⟨f'.st, f'.gk, f'.loc, f'.locF, f'.locG, f'.cell, f'.apart, fun y => if y = x then a else adr y, fun q hq => ?_, fun p hp q hq hpq => ?_⟩, hT⟩
  · rcases List.mem_cons.mp hq with rfl | hq
    · refine ⟨by simpa using hv, by simpa using aF, ?_, vs, ?_, iv⟩
      · show G (if x = x then a else adr x) = none
        rw [if_pos rfl]
        cases q : G a with
        | none => rfl
        | some o => rw [f.gk a o q] at aN; cases aN
      · unfold OwnAt
        rw [if_pos rfl]
        show h'.PlainList (if x = x then a else adr x) _
        rw [if_pos rfl]
        exact ha.at fun o e => by rw [hl a _ ha.isList]; exact e
    · have o := hown adr b₁ q hq
      have e : (if q.1 = x then a else adr q.1) = adr q.1 := if_neg (h2 q hq).2
      obtain ⟨k1, k2, k3, vs, k4, k5⟩ := o
      exact ⟨by show VarIn env h' q.1 (.ref (if q.1 = x then a else adr q.1)); rw [e]; exact k1, by show F₁ (if q.1 = x then a else adr q.1) = none; rw [e]; exact k2, by show G (if q.1 = x then a else adr q.1) = none; rw [e]; exact k3, vs, by show OwnAt h' q.2.1 (if q.1 = x then a else adr q.1) vs; rw [e]; exact k4, k5⟩
  · rcases List.mem_cons.mp hp with rfl | hp
    · rcases List.mem_cons.mp hq with rfl | hq
      · exact absurd rfl hpq
      · show (if x = x then a else adr x) ≠ (if q.1 = x then a else adr q.1)
        rw [if_pos rfl, if_neg (h2 q hq).2]
        exact (ne q (h2 q hq).1).symm
    · rcases List.mem_cons.mp hq with rfl | hq
      · show (if p.1 = x then a else adr p.1) ≠ (if x = x then a else adr x)
        rw [if_pos rfl, if_neg (h2 p hp).2]
        exact ne p (h2 p hp).1
      · show (if p.1 = x then a else adr p.1) ≠ (if q.1 = x then a else adr q.1)
        rw [if_neg (h2 p hp).2, if_neg (h2 q hq).2]
        exact c p (h2 p hp).1 q (h2 q hq).1 hpq
/-- x = a new list -/
theorem SJ.assignNew {x : Str} {px pos : Pos} {e : Expr} {ds : List D} (he : NJ prog w hb n env ρ e ds) (ok : EnvOk env) (hx : StoreOK env x) (h1 : ∀ p ∈ ρ', p ∈ ρ ∧ p.1 ≠ x) (h2 : ∀ q ∈ Ω', q ∈ Ω ∧ q.1 ≠ x)
    (hs : ∀ env, swapsWith e (some (Expr.Name x px)) pos.line env = pure false := by intro _; rfl) : SJ prog w hb n env ρ Ω (.Assign [.Name x px] e pos) (.next ρ' ((x, true, ds) :: Ω')) := by
  intro A hA G s F f E
  refine wpAny_Assign_Name (wpAny_mono (he A hA s F f.st E) (fun v s₁ h₁ => ?_) fun _ _ e => e) (hs env)
  obtain ⟨F₁, a, vs, rfl, x₁, aF, aN, hl, i₁⟩ := h₁
  exact wpAny_mono (f.storeOwn ok hx h1 h2 x₁ hl i₁ aF aN) (fun _ s₂ h₂ => ⟨F₁, h₂.1, rfl, h₂.2.1⟩) fun _ _ e => e
/-- x = [.. for ..], the stores exchanged -/
theorem SJ.assignComp {elt iter : Expr} {x y : Str} {px py : Pos} {ifs : List Expr} {scope : Scope} {cl : List (Str × Addr)} {pos spos : Pos} {ρf : Rho} {α : Type} (xs : List α) (φ : α → D) (p : α → Bool) (ψ : α → D)
    (ok : EnvOk env) (hy : StoreOK env y) (h1 : ∀ p ∈ ρ', p ∈ ρ ∧ p.1 ≠ y) (h2 : ∀ q ∈ Ω', q ∈ Ω ∧ q.1 ≠ y)
    (hclos : closureFor scope env = pure cl) (hkind : scope.kind = .function) (hnames : ∀ y ∈ scope.names, y.2 = .local → scope.names.lookup y.1 = some .local) (hx : CompVar scope.names x)
    (hf : Frees env scope cl ρ ρf) (hsz : xs.length ≤ sizeLine) (hsrc : SrcJ prog w hb n env ρ iter (xs.map φ))
    (htest : ∀ C cs, cs = cellsFrom (C + 1) scope.names cl → ∀ a ∈ xs, TJ prog w hb n (compEnvC scope cs C env) ((x, φ a) :: ρf) ifs (p a))
    (helt : ∀ C cs, cs = cellsFrom (C + 1) scope.names cl → ∀ a ∈ xs, p a = true → EJ prog w hb n (compEnvC scope cs C env) ((x, φ a) :: ρf) elt (ψ a))
    (hsw : swapsWith (.ListComp elt [⟨.Name x px, iter, ifs, 0⟩] scope pos) (some (Expr.Name y py)) spos.line env = pure true)
    (hs : ∀ env x, foldedSetIterable iter env x = pure x := by intro _ _; rfl) :
    SJ prog w hb n env ρ Ω (.Assign [.Name y py] (.ListComp elt [⟨.Name x px, iter, ifs, 0⟩] scope pos) spos) (.next ρ' ((y, true, (xs.filter p).map ψ) :: Ω')) := by
  intro A hA G s F f E
  rw [exec_Assign_Name_used _ _ _ _ hsw]
  refine wpAny_bind (wpAny_standAt (wpAny_bind ?_))
  show wpAny _ A (do let _ ← comprehension (.ListComp elt [⟨.Name x px, iter, ifs, 0⟩] scope pos) scope env _ (newList []) false (eval iter env) (some (PySem.assign (Expr.Name y py) env))) _ _ s
  have core := comp_core (pos := pos) (cpos := firstIterPos [⟨.Name x px, iter, ifs, 0⟩] pos) (px := px) (ifs := ifs) xs φ p ψ ok hclos hkind hnames hx hf hsz hsrc htest helt (hs env) (use := some (PySem.assign (Expr.Name y py) env)) (Q := fun _ s' => Post hb G env s F (.next ρ' ((y, true, (xs.filter p).map ψ) :: Ω')) .next s') (E := E) hA f.st ?_
  · exact wpAny_bind (wpAny_mono core (fun _ s' hq => wpAny_pure (wpAny_pure hq)) fun _ _ e => e)
  · intro C DD s' F' ys m x D1 D2 hl i C1 C2 hCD hn
    show wpAny _ A (PySem.assign (Expr.Name y py) env (.ref DD)) _ _ _
    refine wpAny_assign_Name (wpAny_mono (f.storeOwn ok hy h1 h2 x hl i D1 D2) (fun _ s₂ h₂ => ?_) fun _ _ e => e)
    obtain ⟨gr, f₂, T, V, hs₂⟩ := h₂
    have hGC : G C = none := by
      cases q : G C with
      | none => rfl
      | some o => rw [f.gk C o q] at C2; cases C2
    have hLC : env.locals ≠ C := fun e => by
      obtain ⟨m', hm⟩ := f.loc
      have := Ns.some hm
      rw [e] at this
      rw [C2] at this; cases this
    have hTC : C ≠ T := fun e => by
      cases V with
      | loc a b c => exact hLC (b.symm.trans e.symm)
      | cell a b c =>
        obtain ⟨o, ho, hd⟩ := c
        obtain ⟨o', es, ep, ho', hd', _⟩ := hn
        rw [← e, ho'] at ho; cases ho; rw [hd'] at hd; cases hd
    have hn₂ := hn.sameBut hs₂ hTC
    refine ⟨_, hn₂, fun h' hs' => ?_⟩
    obtain ⟨f₃, g₃⟩ := f₂.scratch C1 hGC hn₂ hLC hs'
    exact ⟨F', gr.trans' g₃, rfl, f₃⟩
end
end Mine
end
section
open PySem PySem.W PySem.Calls PyProof.Rows
set_option maxRecDepth 100000
namespace Mine
section
variable {prog : Program} {w : World} {hb : Heap} {n : Nat} {env : Env} {ρ ρ' : Rho} {Ω Ω' : Owns}

theorem InAll.set {F : FMap} {v : Value} {d : D} (i : In F v d) : ∀ {vs : List Value} {ds : List D}, InAll F vs ds → ∀ k, InAll F (vs.set k v) (ds.set k d)
  | _, _, .nil, _ => .nil
  | _, _, .cons _ r, 0 => .cons i r
  | _, _, .cons h r, k + 1 => .cons h (InAll.set i r k)
/-- an own list turns -/
theorem Fm.turn {G : FMap} {s : Shared} {F : FMap} {adr : Str → Addr} {x : Str} {pl pl' : Bool} {ds ds' : List D} {vs' : List Value} {h' : Heap} (f : Fm hb G env s F ρ Ω) (h1 : ∀ q ∈ Ω, OwnOK env G F s.heap adr q) (h2 : ∀ p ∈ Ω, ∀ q ∈ Ω, p.1 ≠ q.1 → adr p.1 ≠ adr q.1)
    (hx : (x, pl, ds) ∈ Ω) (hΩ : ∀ q ∈ Ω', q ∈ Ω ∧ q.1 ≠ x) (hs : Heap.SameBut (adr x) s.heap h') (hv : OwnAt h' pl' (adr x) vs') (iv : InAll F vs' ds') :
    Fm hb G env { s with heap := h' } F ρ ((x, pl', ds') :: Ω') ∧ Grow G s F { s with heap := h' } F := by
  obtain ⟨k1, k2, k3, vs, k4, k5⟩ := h1 _ hx
  obtain ⟨ol, hol, hcl, nl, hdl⟩ := k4.isList
  have hsub : Sub F h' := fun a o e => hs.extBut a o (fun q => by rw [q, k2] at e; cases e) (f.st.sub a o e)
  have hgk : Sub G h' := fun a o e => hs.extBut a o (fun q => by rw [q, k3] at e; cases e) (f.gk a o e)
  have cellNe : ∀ c v, s.heap.IsCell c v → c ≠ adr x := fun c v hv e => by
    obtain ⟨o, ho, hd⟩ := hv
    rw [e, hol] at ho; cases ho; rw [hdl] at hd; cases hd
  have locNe : ∀ a m, s.heap.Ns a m → a ≠ adr x := fun a m hm e => by
    obtain ⟨o', es, ep, ho', hd', _⟩ := hm
    rw [e, hol] at ho'; cases ho'; rw [hdl] at hd'; cases hd'
  have var : ∀ y u, VarIn env s.heap y u → VarIn env h' y u := fun y u hu => by
    cases hu with
    | loc a b c => exact .loc a (b.sameBut hs (locNe _ _ b)) c
    | cell a b c => exact .cell a b (c.sameBut hs (cellNe _ _ c))
  refine ⟨⟨⟨hsub, f.st.base, fun p hp => ?_, f.st.tok⟩, hgk, ?_, f.locF, f.locG, fun y c hk hc => ?_, f.apart, adr, fun q hq => ?_, fun p hp q hq hpq => ?_⟩, ⟨_, _, rfl⟩, hgk, LeF.refl F, hsub, fun _ e _ => e, Nat.le_refl _⟩
  · obtain ⟨u, hu, iu⟩ := f.st.vars p hp
    exact ⟨u, var _ _ hu, iu⟩
  · obtain ⟨m', hm⟩ := f.loc
    exact ⟨m', hm.sameBut hs (locNe _ _ hm)⟩
  · obtain ⟨⟨v, hv⟩, h2, h3⟩ := f.cell y c hk hc
    exact ⟨⟨v, hv.sameBut hs (cellNe _ _ hv)⟩, h2, h3⟩
  · rcases List.mem_cons.mp hq with rfl | hq
    · exact ⟨var _ _ k1, k2, k3, vs', hv, iv⟩
    · obtain ⟨hq1, hq2⟩ := hΩ q hq
      obtain ⟨j1, j2, j3, vs, j4, j5⟩ := h1 q hq1
      exact ⟨var _ _ j1, j2, j3, vs, j4.at fun o e => hs.extBut _ o (h2 q hq1 _ hx hq2) e, j5⟩
  · rcases List.mem_cons.mp hp with rfl | hp
    · rcases List.mem_cons.mp hq with rfl | hq
      · exact absurd rfl hpq
      · exact h2 (x, pl, ds) hx q (hΩ q hq).1 hpq
    · rcases List.mem_cons.mp hq with rfl | hq
      · exact h2 p (hΩ p hp).1 (x, pl, ds) hx hpq
      · exact h2 p (hΩ p hp).1 q (hΩ q hq).1 hpq

theorem OwnOK.ext {G : FMap} {s s' : Shared} {F F' : FMap} {adr : Str → Addr} (x : Ext s F s' F') {q : Str × Bool × List D} (o : OwnOK env G F s.heap adr q) : OwnOK env G F' s'.heap adr q := by
  obtain ⟨k1, k2, k3, vs, k4, k5⟩ := o
  exact ⟨k1.keeps x.keep, x.apart _ k2 k4.some, k3, vs, k4.at fun o h => x.keep _ o h, k5.mono x.le⟩
theorem eval_var {M : Model} {A : Around} {E : Value → Shared → Prop} {s : Shared} {x : Str} {pos : Pos} {v : Value} {Q : Value → Shared → Prop} (ok : EnvOk env) (V : VarIn env s.heap x v) (h : Q v s)
    (hd : (x == ("__debug__" : Str)) = false := by decide) (hc : (x == ("__classdict__" : Str)) = false := by decide) : wpAny M A (eval (.Name x pos) env) Q E s := by
  cases V with
  | loc hk hn hm' => exact wpAny_Name (wpAny_loadName_local ok.kind hk hn hm' h) hd
  | cell hk hcl hv' =>
    rcases hk with hk | hk
    · exact wpAny_Name (wpAny_loadName_cell ok.kind hk hcl hv' h) hd
    · exact wpAny_Name (wpAny_loadName_free ok.kind hk hcl hv' h hc) hd

/-- x.append(e) -/
theorem SJ.append {x : Str} {np apos cpos pos : Pos} {e : Expr} {d : D} {ds : List D} (ok : EnvOk env) (hx : (x, true, ds) ∈ Ω) (hΩ : ∀ q ∈ Ω', q ∈ Ω ∧ q.1 ≠ x) (he : VJ prog w hb n env ρ Ω e d) (hsz : ds.length ≤ sizeLine)
    (hbase : ∀ env, attributeBase (.Name x np) "append" env (eval (.Name x np) env) = eval (.Name x np) env := by intro _; rfl)
    (hfew : ∀ env, ((backTo cpos (starEach [e] env)).all (fun x => !x.1) && (backToKw cpos (keywordEach [] env)).all (fun x => x.1.isSome) && decide (([e] : List Expr).length + ([] : List Keyword).length + (if ([] : List Keyword).isEmpty then 0 else 1) < 30)) = true := by intro _; rfl)
    (hline : (apos.endLine == cpos.line) = true := by rfl) (htrees : ∀ env, backTo cpos (starEach [e] env) = [(false, eval e env)] := by intro _; rfl)
    (hi : interactive env = false) (hs : ∀ env, swapsWith (.Call (.Attribute (.Name x np) "append" apos) [e] [] cpos) none pos.line env = pure false := by intro _; rfl)
    (hd : (x == ("__debug__" : Str)) = false := by decide) (hc : (x == ("__classdict__" : Str)) = false := by decide) :
    SJ prog w hb n env ρ Ω (.Expr (.Call (.Attribute (.Name x np) "append" apos) [e] [] cpos) pos) (.next ρ ((x, true, ds ++ [d]) :: Ω')) := by
  intro A hA G s F f E
  obtain ⟨adr, h1, h2⟩ := f.owns
  obtain ⟨k1, k2, k3, vs, k4, k5⟩ := h1 _ hx
  have k4' : s.heap.PlainList (adr x) (List.toArray vs) := by unfold OwnAt at k4; simpa using k4
  obtain ⟨nn, k4o⟩ := id k4'
  refine wpAny_Expr (wpAny_Call_append (hbase env) (hfew env) hline (htrees env) (eval_var ok k1 ⟨adr x, List.toArray vs, rfl, ⟨_, nn, k4o, rfl, rfl, rfl⟩, ?_⟩ hd hc)) hi (hs env)
  refine wpAny_mono (he A hA G s F f E) (fun v s₁ h₁ => ?_) fun _ _ e => e
  obtain ⟨F₁, x₁, i₁⟩ := h₁
  have f₁ := f.ext x₁
  refine wpAny_list_append_plain (hsz := by rw [List.size_toArray, k5.length]; exact hsz) (k4'.at fun o e => x₁.keep _ o e) fun h' hl' hs' => ?_
  obtain ⟨f₂, g₂⟩ := f₁.turn (fun q hq => (h1 q hq).ext x₁) h2 hx hΩ hs' (pl' := true) (vs' := vs ++ [v]) (ds' := ds ++ [d]) (by unfold OwnAt; simpa using hl') ((k5.mono x₁.le).append (.cons i₁ .nil))
  exact ⟨F₁, (f.grow x₁).trans' g₂, rfl, f₂⟩

/-- x[i] += e, of ints -/
theorem SJ.augItem {x : Str} {np tpos pos : Pos} {i e : Expr} {pl : Bool} {ns : List Int} {k : Nat} {a : Int} (ok : EnvOk env) (hx : (x, pl, ns.map D.int) ∈ Ω) (hΩ : ∀ q ∈ Ω', q ∈ Ω ∧ q.1 ≠ x) (hi : VJ prog w hb n env ρ Ω i (.int k)) (he : VJ prog w hb n env ρ Ω e (.int a)) (hk : k < ns.length) (hk' : k < 2 ^ 40)
    (hst : ∀ ov iv new, augStore i ov iv new = (do holding [new, ov, iv] (setItem ov iv new); release [new, ov, iv] []; pure .next) := by intros; rfl)
    (hd : (x == ("__debug__" : Str)) = false := by decide) (hc : (x == ("__classdict__" : Str)) = false := by decide) :
    SJ prog w hb n env ρ Ω (.AugAssign (.Subscript (.Name x np) i tpos) .Add e pos) (.next ρ ((x, false, (ns.set k (ns[k] + a)).map D.int) :: Ω')) := by
  intro A hA G s F f E
  obtain ⟨adr, h1, h2⟩ := f.owns
  obtain ⟨k1, k2, k3, vs, k4, k5⟩ := h1 _ hx
  refine wpAny_AugAssign_SubscriptAny (eval_var ok k1 ?_ hd hc) hst
  refine wpAny_mono (hi A hA G s F f E) (fun iv s₁ h₁ => ?_) fun _ _ e => e
  obtain ⟨F₁, x₁, ⟨⟩⟩ := h₁
  rename_i t
  have f₁ := f.ext x₁
  have l₁ := k4.isList.at fun o e => x₁.keep _ o e
  have g1 : (ns.map D.int)[k]? = some (.int ns[k]) := by simp [hk]
  obtain ⟨v, hv, iv⟩ := (k5.mono x₁.le).get g1
  refine wpAny_getItem_list l₁ (by omega) (by omega) (x := v) (by simpa using hv) ?_
  refine wpAny_mono (he A hA G s₁ F₁ f₁ E) (fun ev s₂ h₂ => ?_) fun _ _ e => e
  obtain ⟨F₂, x₂, ⟨⟩⟩ := h₂
  cases iv
  rename_i te tv
  have x₁₂ := x₁.trans x₂
  refine wpAny_iadd_int ?_
  have x₃ := x₁₂.trans (Ext.tok x₁₂.sub (tk := s₂.toks + 1) (Nat.le_succ _))
  have f₃ := f.ext x₃
  have l₃ : ({ s₂ with toks := s₂.toks + 1 } : Shared).heap.IsList (adr x) (List.toArray vs) := l₁.at fun o e => x₂.keep _ o e
  have len : (List.toArray vs).size = ns.length := by rw [List.size_toArray, k5.length, List.length_map]
  refine wpAny_setItem_list (s := { s₂ with toks := s₂.toks + 1 }) l₃ (by omega) (by omega) (by rw [len]; omega) fun h' hl' hs' => ?_
  have e1 : (List.toArray vs).setIfInBounds (Int.toNat (k : Int)) (.int (ns[k] + a) s₂.toks) = List.toArray (vs.set k (.int (ns[k] + a) s₂.toks)) := by simp
  rw [e1] at hl'
  have e2 : InAll F₂ (vs.set k (.int (ns[k] + a) s₂.toks)) ((ns.set k (ns[k] + a)).map D.int) := by
    rw [List.map_set]
    exact InAll.set (.int _ _) (k5.mono x₃.le) k
  obtain ⟨f₄, g₄⟩ := f₃.turn (fun q hq => (h1 q hq).ext x₃) h2 hx hΩ hs' (pl' := false) (by unfold OwnAt; simpa using hl') e2
  exact ⟨F₂, (f.grow x₃).trans' g₄, rfl, f₄⟩

/-- x op= e -/
def AugOK (prog : Program) (w : World) (op : Operator) (a b d : D) : Prop := ∀ A, ∀ s F, Sub F s.heap → ∀ u v, In F u a → In F v b → ∀ E, wpAny (model prog w) A (inplaceOp op u v) (fun r s' => ∃ F', Ext s F s' F' ∧ In F' r d) E s
theorem aug_add_int {a b : Int} : AugOK prog w .Add (.int a) (.int b) (.int (a + b)) := by
  rintro A s F S _ _ ⟨⟩ ⟨⟩ E
  with_reducible refine PySem.wpAny_iadd_int ?_
  exact ⟨F, Ext.tok S (Nat.le_succ _), .int _ _⟩
theorem aug_floordiv_int {a b : Int} (hb : b ≠ 0) (hp : Builtin.divisionGoesByPylong a b = false) : AugOK prog w .FloorDiv (.int a) (.int b) (.int (a.fdiv b)) := by
  rintro A s F S _ _ ⟨⟩ ⟨⟩ E
  exact PyProof.Rows.ifloordiv_int hb ⟨F, Ext.tok S (Nat.le_succ _), .int _ _⟩ (.inl hp)
theorem aug_add_str {a b : Str} (h : a.length + b.length ≤ sizeLine) : AugOK prog w .Add (.str a) (.str b) (.str (a ++ b)) := by
  rintro A s F S _ _ ⟨⟩ ⟨⟩ E
  exact wpAny_toksE (PyProof.Rows.iadd_str (fun t' tk ht => ⟨F, Ext.tok S ht, .str _ _⟩) h)
theorem SJ.aug {x : Str} {px pos : Pos} {op : Operator} {e : Expr} {a b d : D} (ok : EnvOk env) (hm : (x, a) ∈ ρ) (he : VJ prog w hb n env ρ Ω e b) (ho : AugOK prog w op a b d) (hx : StoreOK env x) (h1 : ∀ p ∈ ρ', p ∈ ρ ∧ p.1 ≠ x) (h2 : ∀ q ∈ Ω', q ∈ Ω ∧ q.1 ≠ x)
    (hc : (x == ("__classdict__" : Str)) = false := by decide) : SJ prog w hb n env ρ Ω (.AugAssign (.Name x px) op e pos) (.next ((x, d) :: ρ') Ω') := by
  intro A hA G s F f E
  obtain ⟨v, V, iv⟩ := f.st.vars _ hm
  refine wpAny_AugAssign_Name ?_
  have go : wpAny (model prog w) A (eval e env) (fun u s₂ => wpAny (model prog w) A (inplaceOp op v u) (fun r s₃ => wpAny (model prog w) A (storeName env x r) (fun _ => Post hb G env s F (.next ((x, d) :: ρ') Ω') .next) E s₃) E s₂) E s := by
    refine wpAny_mono (he A hA G s F f E) (fun u s₁ h₁ => ?_) fun _ _ e => e
    obtain ⟨F₁, x₁, i₁⟩ := h₁
    refine wpAny_mono (ho A s₁ F₁ x₁.sub v u (iv.mono x₁.le) i₁ E) (fun r s₂ h₂ => ?_) fun _ _ e => e
    obtain ⟨F₂, x₂, i₂⟩ := h₂
    have x₁₂ := x₁.trans x₂
    exact wpAny_mono ((f.ext x₁₂).storeVal ok hx h1 h2 i₂) (fun _ s₃ h₃ => ⟨F₂, (f.grow x₁₂).trans' h₃.1, rfl, h₃.2⟩) fun _ _ e => e
  cases V with
  | loc hk hn hm' => exact wpAny_loadName_local ok.kind hk hn hm' go
  | cell hk hcl hv' =>
    rcases hk with hk | hk
    · exact wpAny_loadName_cell ok.kind hk hcl hv' go
    · exact wpAny_loadName_free ok.kind hk hcl hv' go hc

theorem SJ.ite {t : Expr} {body orelse : List Stmt} {pos : Pos} {b : Bool} {o : Out} (ht : CJ prog w hb n env ρ Ω t b) (h1 : b = true → XJ prog w hb n env ρ Ω body o) (h2 : b = false → XJ prog w hb n env ρ Ω orelse o) : SJ prog w hb n env ρ Ω (.If t body orelse pos) o := by
  intro A hA G s F f E
  refine wpAny_If (wpAny_mono (ht A hA G s F f E) (fun r s₁ h₁ => ?_) fun _ _ e => e)
  obtain ⟨rfl, F₁, x₁⟩ := h₁
  cases r with
  | true => exact wpAny_mono (h1 rfl A hA G s₁ F₁ (f.ext x₁) E) (fun fl s₂ h₂ => h₂.after (f.grow x₁)) fun _ _ e => e
  | false => exact wpAny_mono (h2 rfl A hA G s₁ F₁ (f.ext x₁) E) (fun fl s₂ h₂ => h₂.after (f.grow x₁)) fun _ _ e => e
theorem SJ.ret {e : Expr} {d : D} {pos : Pos} (he : VJ prog w hb n env ρ Ω e d) : SJ prog w hb n env ρ Ω (.Return (some e) pos) (.ret d) := by
  intro A hA G s F f E
  refine wpAny_Return_some (wpAny_mono (he A hA G s F f E) (fun v s₁ h₁ => ?_) fun _ _ e => e)
  obtain ⟨F₁, x₁, i₁⟩ := h₁
  exact ⟨F₁, f.grow x₁, v, rfl, i₁⟩

/-- G and the iterator's own -/
def plus (G : FMap) (h : Heap) (wr : List Addr) : FMap := fun b => if b ∈ wr then h.get? b else G b
theorem wpAny_letOwned {M : Model} {A : Around} {s : Shared} {E : Value → Shared → Prop} {t : Expr} {I : Addr} {v : Value} {Q : Unit → Shared → Prop} (hI : IterObj s.heap I) (h : Q () s) : wpAny M A (letOwnedTupleGo t (.ref I) v) Q E s := by
  obtain ⟨o, T, vs, ho, hc, hb, hd⟩ := hI
  unfold letOwnedTupleGo
  split
  · cases v with
    | ref a =>
      refine wpAny_bind (wpAny_load ho ?_)
      rw [hc, hd]
      dsimp only
      rw [hb]
      exact wpAny_pure h
    | _ => exact wpAny_pure h
  · cases v with
    | ref a =>
      refine wpAny_bind (wpAny_load ho ?_)
      rw [hc, hd]
      dsimp only
      rw [hb]
      exact wpAny_pure h
    | _ => exact wpAny_pure h
  · exact wpAny_pure h

/-- the iterator has turned -/
theorem Fm.iter {G : FMap} {s : Shared} {F : FMap} {wr : List Addr} {h₁ : Heap} {tk : Nat} (f : Fm hb (plus G s.heap wr) env s F ρ Ω) (h0 : ∀ b ∈ wr, IterObj s.heap b) (hF : ∀ b ∈ wr, F b = none)
    (hk : ∀ b o, b ∉ wr → s.heap.get? b = some o → h₁.get? b = some o) (ht : s.toks ≤ tk) : Fm hb (plus G h₁ wr) env { s with heap := h₁, toks := tk } F ρ Ω := by
  have notIn : ∀ b, plus G s.heap wr b = none → b ∉ wr := fun b e hb => by
    unfold plus at e
    rw [if_pos hb] at e
    have := (h0 b hb).some
    rw [e] at this; cases this
  have off : ∀ b, plus G s.heap wr b = none → plus G h₁ wr b = none := fun b e => by
    have hn := notIn b e
    unfold plus at e ⊢
    rw [if_neg hn] at e ⊢; exact e
  have nsNe : ∀ a m, s.heap.Ns a m → a ∉ wr := fun a m hm hb => by
    obtain ⟨o, T, vs, ho, _, _, hd⟩ := h0 a hb
    obtain ⟨o', es, ep, ho', hd', _⟩ := hm
    rw [ho] at ho'; cases ho'; rw [hd] at hd'; cases hd'
  have cellNe : ∀ c v, s.heap.IsCell c v → c ∉ wr := fun c v hv hb => by
    obtain ⟨o, T, vs, ho, _, _, hd⟩ := h0 c hb
    obtain ⟨o', ho', hd'⟩ := hv
    rw [ho] at ho'; cases ho'; rw [hd] at hd'; cases hd'
  have listNe : ∀ a vs, s.heap.IsList a vs → a ∉ wr := fun a vs hl hb => by
    obtain ⟨o, T, vs, ho, _, _, hd⟩ := h0 a hb
    obtain ⟨o', ho', _, n, hd'⟩ := hl
    rw [ho] at ho'; cases ho'; rw [hd] at hd'; cases hd'
  have nsUp : ∀ a m, s.heap.Ns a m → h₁.Ns a m := fun a m hm => hm.at' fun o e => hk a o (nsNe a m hm) e
  have cellUp : ∀ c v, s.heap.IsCell c v → h₁.IsCell c v := fun c v hv => let ⟨o, ho, hd⟩ := id hv; ⟨o, hk c o (cellNe c v hv) ho, hd⟩
  have var : ∀ y u, VarIn env s.heap y u → VarIn env h₁ y u := fun y u hu => by
    cases hu with
    | loc a b c => exact .loc a (nsUp _ _ b) c
    | cell a b c => exact .cell a b (cellUp _ _ c)
  obtain ⟨adr, a, b⟩ := f.owns
  refine ⟨⟨fun a o e => hk a o (fun hb => by rw [hF a hb] at e; cases e) (f.st.sub a o e), f.st.base, fun p hp => ?_, by have := f.st.tok; show 0 < tk; omega⟩, fun a o e => ?_, ?_, f.locF, off _ f.locG, fun y c hk hc => ?_, f.apart, adr, fun q hq => ?_, b⟩
  · obtain ⟨u, hu, iu⟩ := f.st.vars p hp
    exact ⟨u, var _ _ hu, iu⟩
  · unfold plus at e
    by_cases hb : a ∈ wr
    · rw [if_pos hb] at e; exact e
    · rw [if_neg hb] at e
      exact hk a o hb (f.gk a o (by unfold plus; rw [if_neg hb]; exact e))
  · obtain ⟨m', hm⟩ := f.loc
    exact ⟨m', nsUp _ _ hm⟩
  · obtain ⟨⟨v, hv⟩, h2, h3⟩ := f.cell y c hk hc
    exact ⟨⟨v, cellUp _ _ hv⟩, h2, off _ h3⟩
  · obtain ⟨k1, k2, k3, vs, k4, k5⟩ := a q hq
    exact ⟨var _ _ k1, k2, off _ k3, vs, k4.at fun o e => hk _ o (listNe _ _ k4.isList) e, k5⟩
/-- a smaller G -/
theorem Fm.less {G G' : FMap} {s : Shared} {F : FMap} (f : Fm hb G env s F ρ Ω) (h : LeF G' G) : Fm hb G' env s F ρ Ω := by
  have off : ∀ b, G b = none → G' b = none := fun b e => by
    cases q : G' b with
    | none => rfl
    | some o => rw [h b o q] at e; cases e
  obtain ⟨adr, a, b⟩ := f.owns
  exact ⟨f.st, fun a o e => f.gk a o (h a o e), f.loc, f.locF, off _ f.locG, fun y c hk hc => let ⟨h1, h2, h3⟩ := f.cell y c hk hc; ⟨h1, h2, off _ h3⟩, f.apart, adr, fun q hq => let o := a q hq; ⟨o.var, o.offF, off _ o.offG, o.it⟩, b⟩
theorem Grow.less {G G' : FMap} {s s' : Shared} {F F' : FMap} (x : Grow G s F s' F') (h : LeF G' G) : Grow G' s F s' F' :=
  ⟨x.same, fun a o e => x.keep a o (h a o e), x.le, x.sub, fun a e1 e2 => x.apart a e1 (by obtain ⟨o, ho⟩ := Option.isSome_iff_exists.mp e2; rw [h a o ho]; rfl), x.toks⟩

theorem SJ.for {t iter : Expr} {body : List Stmt} {pos : Pos} {ds : List D} (ρi : Nat → Rho) (Ωi : Nat → Owns) (hsrc : SrcJ prog w hb n env ρ iter ds)
    (h0 : ∀ p ∈ ρi 0, p ∈ ρ) (hΩ0 : ∀ q ∈ Ωi 0, q ∈ Ω) (ρt : Nat → Rho) (Ωt : Nat → Owns)
    (has : ∀ i d, ds[i]? = some d → AsJ prog w hb n env (ρi i) (Ωi i) t d (ρt i) (Ωt i))
    (hbody : ∀ i d, ds[i]? = some d → XJ prog w hb n env (ρt i) (Ωt i) body (.next (ρi (i + 1)) (Ωi (i + 1))))
    (hs : ∀ env x, foldedSetIterable iter env x = pure x := by intro _ _; rfl) :
    SJ prog w hb n env ρ Ω (.For t iter body [] pos) (.next (ρi ds.length) (Ωi ds.length)) := by
  intro A hA G s F f E
  refine wpAny_For (wpAny_mono (hsrc A hA s F f.st E) (fun xv s₁ h₁ => wpAny_mono h₁ (fun it s₂ h₂ => ?_) fun _ _ e => e) fun _ _ e => e) (hs env)
  obtain ⟨F₂, I, fp, wr, P, SS, rfl, x₂, W, hst, hP, hwr, hfp, hob, hI⟩ := h₂
  have f₂ := (f.ext x₂).weaken h0 hΩ0
  have newWr : ∀ b ∈ wr, G b = none := fun b hb => by
    cases q : G b with
    | none => rfl
    | some o => have := f.gk b o q; rw [(hwr b hb).2.2] at this; cases this
  have lep : ∀ h : Heap, LeF G (plus G h wr) := fun h b o e => by
    unfold plus; rw [if_neg (fun hb => by rw [newWr b hb] at e; cases e)]; exact e
  have i₂ : ∀ b ∈ wr, IterObj s₂.heap b := hob _ _ hst
  -- the frame with the iterator kept
  have f₂' : Fm hb (plus G s₂.heap wr) env s₂ F₂ (ρi 0) (Ωi 0) := by
    have nsNe : ∀ a m, s₂.heap.Ns a m → a ∉ wr := fun a m hm hb => by
      obtain ⟨o, T, vs, ho, _, _, hd⟩ := i₂ a hb
      obtain ⟨o', es, ep, ho', hd', _⟩ := hm
      rw [ho] at ho'; cases ho'; rw [hd] at hd'; cases hd'
    have off : ∀ b, b ∉ wr → G b = none → plus G s₂.heap wr b = none := fun b hb e => by unfold plus; rw [if_neg hb]; exact e
    obtain ⟨adr, a, b⟩ := f₂.owns
    refine ⟨f₂.st, fun a o e => ?_, f₂.loc, f₂.locF, ?_, fun y c hk hc => ?_, f₂.apart, adr, fun q hq => ?_, b⟩
    · unfold plus at e
      by_cases hb : a ∈ wr
      · rw [if_pos hb] at e; exact e
      · rw [if_neg hb] at e; exact f₂.gk a o e
    · obtain ⟨m, hm⟩ := f₂.loc
      exact off _ (nsNe _ _ hm) f₂.locG
    · obtain ⟨⟨v, hv⟩, h2, h3⟩ := f₂.cell y c hk hc
      refine ⟨⟨v, hv⟩, h2, off _ (fun hb => ?_) h3⟩
      obtain ⟨o, T, vs, ho, _, _, hd⟩ := i₂ c hb
      obtain ⟨o', ho', hd'⟩ := hv
      rw [ho] at ho'; cases ho'; rw [hd] at hd'; cases hd'
    · obtain ⟨k1, k2, k3, vs, k4, k5⟩ := a q hq
      refine ⟨k1, k2, off _ (fun hb => ?_) k3, vs, k4, k5⟩
      obtain ⟨o, T, vs', ho, _, _, hd⟩ := i₂ _ hb
      obtain ⟨o', ho', _, n', hd'⟩ := k4.isList
      rw [ho] at ho'; cases ho'; rw [hd] at hd'; cases hd'
  refine codeAny_forLoop_any (fun k s' => ∃ F' i, i ≤ ds.length ∧ k = ds.length + 1 - i ∧ SS i s'.heap ∧ Grow G s₂ F₂ s' F' ∧ (∀ b ∈ wr, F' b = none) ∧ Fm hb (plus G s'.heap wr) env s' F' (ρi i) (Ωi i)) ?_ (ds.length + 1)
    ⟨F₂, 0, Nat.zero_le _, rfl, hst, Grow.refl f₂.gk f₂.st.sub, fun b hb => (hwr b hb).1, f₂'⟩
  rintro k s' ⟨F', i, hi, rfl, hst', gr, hwF, f'⟩
  by_cases hlt : i < ds.length
  · have hdi : ds[i]? = some (ds[i]'hlt) := List.getElem?_eq_getElem hlt
    refine wpAny_toksE (W.item i _ _ _ hlt hst' fun v h₁ tk₁ hPv hst₁ hk₁ htk₁ => ?_)
    have htk₁ : s'.toks ≤ tk₁ := htk₁
    have it₀ := hob _ _ hst'
    have it₁ := hob _ _ hst₁
    have f₁ := f'.iter it₀ hwF hk₁ htk₁
    have gr₁ : Grow G s' F' { s' with heap := h₁, toks := tk₁ } F' := ⟨⟨h₁, tk₁, rfl⟩, fun a o e => f₁.gk a o (lep _ a o e), LeF.refl _, f₁.st.sub, fun _ e _ => e, htk₁⟩
    have iv : In F' v ds[i] := (hP i v _ hPv hdi).mono gr.le
    refine wpAny_letOwned (it₁ I hI) ?_
    refine wpAny_mono (has i _ hdi A hA _ _ F' f₁ v iv _) (fun _ s₃ h₃ => ?_) fun _ _ e => e
    obtain ⟨F₃, g₃, f₃⟩ := h₃
    refine wpAny_mono (hbody i _ hdi A hA _ s₃ F₃ f₃ _) (fun fl s₄ h₄ => ?_) fun _ _ e => e
    obtain ⟨F₄, g₄, rfl, f₄⟩ := h₄
    have g₃₄ := g₃.trans' g₄
    -- the iterator stands as the turn left it
    have stay : ∀ b ∈ wr, s₄.heap.get? b = h₁.get? b := fun b hb => by
      obtain ⟨o, ho⟩ := Option.isSome_iff_exists.mp (it₁ b hb).some
      rw [ho]
      exact g₃₄.keep b o (by unfold plus; rw [if_pos hb]; exact ho)
    have wF : ∀ b ∈ wr, F₄ b = none := fun b hb => g₃₄.apart b (hwF b hb) (by unfold plus; rw [if_pos hb]; exact (it₁ b hb).some)
    have eqp : plus G s₄.heap wr = plus G h₁ wr := by
      funext b; unfold plus
      by_cases hb : b ∈ wr
      · rw [if_pos hb, if_pos hb, stay b hb]
      · rw [if_neg hb, if_neg hb]
    refine ⟨ds.length + 1 - (i + 1), by omega, F₄, i + 1, hlt, rfl, ?_, (gr.trans' gr₁).trans' (g₃₄.less (lep _)), wF, by rw [eqp]; exact f₄⟩
    refine W.frame _ _ _ hst₁ fun b hb o e => ?_
    rcases (hfp b hb).1 with hw | hf
    · rw [stay b hw]; exact e
    · obtain ⟨o', ho'⟩ := Option.isSome_iff_exists.mp hf
      have e1 : h₁.get? b = some o' := f₁.st.sub b o' (gr.le b o' ho')
      rw [e1] at e; cases e
      exact g₃₄.sub b _ (g₃₄.le b _ (gr.le b _ ho'))
  · have hin : i = ds.length := by omega
    subst hin
    refine wpAny_toksE (W.done _ _ _ hst' fun h₁ tk₁ hk₁ htk₁ => ?_)
    have htk₁ : s'.toks ≤ tk₁ := htk₁
    have f₁ := (f'.iter (hob _ _ hst') hwF hk₁ htk₁).less (lep _)
    have gr₁ : Grow G s' F' { s' with heap := h₁, toks := tk₁ } F' := ⟨⟨h₁, tk₁, rfl⟩, f₁.gk, LeF.refl _, f₁.st.sub, fun _ e _ => e, htk₁⟩
    exact wpAny_execs_nil ⟨F', (f.grow x₂).trans' (gr.trans' gr₁), rfl, f₁⟩
end
end Mine
end
section
open PySem PySem.W PySem.Calls PyProof.Rows
set_option maxRecDepth 100000
namespace Mine

theorem bindL_old {kindOf : Str → Option NameKind} : ∀ {binds : List (Str × Value)} {m : Str → Option Value} {x : Str}, x ∉ binds.map (·.1) → bindL kindOf binds m x = m x
  | [], m, x, _ => rfl
  | (y, u) :: r, m, x, hx => by
    have h1 : x ≠ y := fun e => hx (by simp [e])
    have h2 : x ∉ r.map (·.1) := fun e => hx (by simp only [List.map_cons, List.mem_cons]; exact .inr e)
    unfold bindL
    rw [bindL_old h2]
    split
    · simp [h1]
    · rfl
theorem bindL_get {kindOf : Str → Option NameKind} : ∀ {binds : List (Str × Value)} {m : Str → Option Value} {x : Str} {v : Value}, (binds.map (·.1)).Nodup → (x, v) ∈ binds → kindOf x = some .local → bindL kindOf binds m x = some v
  | (y, u) :: r, m, x, v, hn, hx, hk => by
    obtain ⟨h1, h2⟩ := List.nodup_cons.mp hn
    unfold bindL
    rcases List.mem_cons.mp hx with e | hx
    · cases e
      rw [if_pos hk, bindL_old h1]; simp
    · exact bindL_get h2 hx hk
theorem bindC_old {kindOf : Str → Option NameKind} : ∀ {binds : List (Str × Value)} {m : Str → Option Value} {x : Str}, x ∉ binds.map (·.1) → bindC kindOf binds m x = m x
  | [], m, x, _ => rfl
  | (y, u) :: r, m, x, hx => by
    have h1 : x ≠ y := fun e => hx (by simp [e])
    have h2 : x ∉ r.map (·.1) := fun e => hx (by simp only [List.map_cons, List.mem_cons]; exact .inr e)
    unfold bindC
    rw [bindC_old h2]
    split
    · rfl
    · simp [h1]
theorem bindC_get {kindOf : Str → Option NameKind} : ∀ {binds : List (Str × Value)} {m : Str → Option Value} {x : Str} {v : Value}, (binds.map (·.1)).Nodup → (x, v) ∈ binds → kindOf x ≠ some .local → bindC kindOf binds m x = some v
  | (y, u) :: r, m, x, v, hn, hx, hk => by
    obtain ⟨h1, h2⟩ := List.nodup_cons.mp hn
    unfold bindC
    rcases List.mem_cons.mp hx with e | hx
    · cases e
      rw [if_neg hk, bindC_old h1]; simp
    · exact bindC_get h2 hx hk
theorem zip_in {F : FMap} : ∀ {ps : List Str} {vs : List Value} {ds : List D}, InAll F vs ds → ∀ p ∈ ps.zip ds, ∃ v, (p.1, v) ∈ ps.zip vs ∧ In F v p.2
  | [], _, _, _, p, hp => by simp at hp
  | y :: ps, _, _, .nil, p, hp => by simp at hp
  | y :: ps, v :: vs, d :: ds, .cons h r, p, hp => by
    rw [List.zip_cons_cons] at hp
    rcases List.mem_cons.mp hp with rfl | hp
    · exact ⟨v, by simp, h⟩
    · obtain ⟨u, hu, iu⟩ := zip_in r p hp
      exact ⟨u, by rw [List.zip_cons_cons]; exact List.mem_cons_of_mem _ hu, iu⟩
theorem zip_names {α : Type} : ∀ {ps : List Str} {vs : List α}, ps.Nodup → ((ps.zip vs).map (·.1)).Nodup
  | [], _, _ => by simp
  | y :: ps, [], _ => by simp
  | y :: ps, v :: vs, h => by
    obtain ⟨h1, h2⟩ := List.nodup_cons.mp h
    rw [List.zip_cons_cons, List.map_cons]
    refine List.nodup_cons.mpr ⟨fun hm => ?_, zip_names h2⟩
    obtain ⟨q, hq, e⟩ := List.mem_map.mp hm
    have := (List.of_mem_zip (a := q.1) (b := q.2) hq).1
    rw [show q.1 = y from e] at this
    exact h1 this

section
variable {prog : Program} {w : World} {hb : Heap} {mg mb : Str → Option Value} {n : Nat}

/-- the frame that a call opens -/
theorem Fm.enter {s s₁ : Shared} {F : FMap} {env : Env} {ps : List Str} {vs : List Value} {ds : List D} (S : Sub F s.heap) (B : LeF (FMap.of hb) F) (T : 0 < s.toks) (iv : InAll F vs ds) (hps : ps.Nodup)
    (hL : env.locals = s.heap.objs.size) (hlt : s.toks ≤ s₁.toks) (x : InCallC s env.locals (bindL env.kindOf (ps.zip vs) fun _ => none) env.cells (bindC env.kindOf (ps.zip vs) fun _ => none) s₁)
    (hk : ∀ y ∈ ps, env.kindOf y = some .local ∨ (env.kindOf y = some .cell ∧ (env.cells.lookup y).isSome = true)) :
    Fm hb (FMap.of s.heap) env s₁ F (ps.zip ds) [] ∧ Ext s F s₁ F := by
  obtain ⟨h₁, tk, e, keep⟩ := x.done
  have S₁ : Sub F s₁.heap := fun a o h => x.toInCall.keep a o (S a o h)
  have off : ∀ a, s.heap.objs.size ≤ a → s.heap.get? a = none := fun a ha => Heap.get?_none_of_le ha
  have abv : ∀ y c, env.cells.lookup y = some c → s.heap.objs.size ≤ c := fun y c hc => by
    have := x.above y c (mem_of_lookup hc)
    rw [hL] at this; exact Nat.le_of_lt this
  refine ⟨⟨⟨S₁, B, fun p hp => ?_, Nat.lt_of_lt_of_le T hlt⟩, x.toInCall.keep, ⟨_, x.toInCall.ns⟩, S.none_of (off _ (by rw [hL]; exact Nat.le_refl _)), off _ (by rw [hL]; exact Nat.le_refl _), fun y c hk hc => ⟨⟨_, x.cell y c hc⟩, S.none_of (off _ (abv y c hc)), off _ (abv y c hc)⟩, fun y z c hne h1 h2 _ _ => ?_, fun _ => 0, (fun q hq => nomatch hq), (fun q hq => nomatch hq)⟩, Ext.of_keeps S e keep (by rw [e] at hlt; exact hlt)⟩
  · obtain ⟨v, hv, iv'⟩ := zip_in iv p hp
    have hn := zip_names (vs := vs) hps
    have hmem : p.1 ∈ ps := (List.of_mem_zip (a := p.1) (b := v) hv).1
    refine ⟨v, ?_, iv'⟩
    rcases hk _ hmem with h | ⟨h, hc⟩
    · exact .loc h x.toInCall.ns (bindL_get hn hv h)
    · obtain ⟨c, hc⟩ := Option.isSome_iff_exists.mp hc
      refine .cell (.inl h) hc ?_
      have := x.cell _ c hc
      rwa [bindC_get hn hv (by rw [h]; decide)] at this
  · exact hne (name_of_addr x.apart (mem_of_lookup h1) (mem_of_lookup h2))

/-- a def's call, by its body -/
theorem CallOK.def {f : Addr} {o : Obj} {fd : FuncData} {body : List Stmt} {ps : List Str} {ds : List D} {d : D} (W : Wd hb mg mb) (ho : hb.get? f = some o) (hd : o.data = .func fd) (hcd : hb.CodeRec fd.code fd.qualname) (hbody : fd.body = .stmts body) (hclo : fd.closure = [])
    (hbind : ∀ vs : List Value, vs.length = ds.length → bindArgs fd ⟨vs, []⟩ = pure (ps.zip vs)) (hps : ps.Nodup)
    (hkind : ∀ y ∈ ps, fd.scope.names.lookup y = some .local ∨ (fd.scope.names.lookup y = some .cell ∧ ∀ N, ((cellsFrom N fd.scope.names []).lookup y).isSome = true))
    (hx : ∀ L, XJ prog w hb n (callEnvC fd L f) (ps.zip ds) [] body (.ret d))
    (hco : fd.scope.isCoroutine = false := by rfl) (hgen : fd.scope.isGenerator = false := by rfl) (hk : fd.scope.kind = .function := by rfl) : CallOK prog w hb (n + 1) (.ref f) ds d := by
  intro A hA s F S B T vs iv E
  have keep : ∀ b o, hb.get? b = some o → s.heap.get? b = some o := fun b o e => S b o (B b o e)
  have hmem : ∀ x ∈ ps.zip vs, x.1 ∈ ps := fun x hx => (List.of_mem_zip (a := x.1) (b := x.2) hx).1
  have room : A.depth < recursionLimit := by have := hA.depth; omega
  have hkd : ∀ x ∈ ps.zip vs, fd.scope.names.lookup x.1 = some .local ∨ (fd.scope.names.lookup x.1 = some .cell ∧ ((cellsFrom (s.heap.objs.size + 1) fd.scope.names []).lookup x.1).isSome = true) := fun x hx => by
    rcases hkind _ (hmem x hx) with h | ⟨h, hc⟩
    · exact .inl h
    · exact .inr ⟨h, hc _⟩
  refine wpAny_call (codeAny_call_function room (keep _ _ ho) hd hco hgen hbody (hcd.keeps keep) ?_)
  rw [hbind vs iv.length, hclo]
  refine wpAny_pure (wpAny_toksE (wpAny_newFunctionEnv_cells hk hkd fun env he s₁ x ht => ?_))
  subst he
  refine ⟨(W.nolimit.keeps keep).keeps x.toInCall.keep, codeAny_func ?_⟩
  have ent := Fm.enter (hb := hb) (env := callEnvC fd s.heap.objs.size f) S B T iv hps rfl ht x (fun y hy => by
    rcases hkind y hy with h | ⟨h, hc⟩
    · exact .inl h
    · exact .inr ⟨h, hc _⟩)
  refine wpAny_mono (hx s.heap.objs.size (A.deeper (callEnvC fd s.heap.objs.size f)) (hA.deeper _) _ s₁ F ent.1 _) (fun fl s' h' => ?_) fun _ _ e => e
  obtain ⟨F', gr, v, rfl, i⟩ := h'
  exact ⟨F', ent.2.trans' gr, i⟩
end
end Mine
end
section
open PySem PySem.W PySem.Calls PyProof.Rows
set_option maxRecDepth 100000
namespace Mine
def pst (i : Nat) : Stmt := (PySem.Challenge.pw_wn0071_01.main.body[i]?).getD default
def bodyOf : Stmt → List Stmt
  | .FunctionDef _ _ b _ _ _ _ _ _ _ => b
  | .ClassDef _ _ _ b _ _ _ _ _ _ _ => b
  | _ => []
def scopeOf : Stmt → Scope
  | .FunctionDef _ _ _ _ _ _ sc _ _ _ => sc
  | _ => default
def methSt (i j : Nat) : Stmt := ((bodyOf (pst i))[j]?).getD default
/-- a def's frame -/
def envS (st : Stmt) (q : Str) (c : Value) (L f : Addr) : Env := { scope := scopeOf st, locals := L, globals := mainGlobals, cells := cellsFrom (L + 1) (scopeOf st).names [], qual := q ++ ".<locals>.", func := some f, code := c, frame := some L, builtins := builtinsNs }

/-- the def st lies at a, its parameters ps -/
def FnAt (hb : Heap) (a : Addr) (st : Stmt) (ps : List Str) : Prop :=
  ∃ o fd, hb.get? a = some o ∧ o.data = .func fd ∧ hb.CodeRec fd.code fd.qualname ∧ fd.body = .stmts (bodyOf st) ∧ fd.closure = [] ∧ fd.scope = scopeOf st ∧ fd.globals = mainGlobals ∧ fd.builtins = builtinsNs ∧
    ∀ vs : List Value, vs.length = ps.length → bindArgs fd ⟨vs, []⟩ = pure (ps.zip vs)
section
variable {prog : Program} {w : World} {hb : Heap} {mg mb : Str → Option Value} {n : Nat} {env : Env} {ρ : Rho}
theorem CallOK.fn {a : Addr} {st : Stmt} {ps : List Str} {ds : List D} {d : D} (W : Wd hb mg mb) (h : FnAt hb a st ps) (hlen : ds.length = ps.length) (hps : ps.Nodup)
    (hkind : ∀ y ∈ ps, (scopeOf st).names.lookup y = some .local ∨ ((scopeOf st).names.lookup y = some .cell ∧ ∀ N, ((cellsFrom N (scopeOf st).names []).lookup y).isSome = true))
    (hx : ∀ q c L, XJ prog w hb n (envS st q c L a) (ps.zip ds) [] (bodyOf st) (.ret d))
    (hco : (scopeOf st).isCoroutine = false := by rfl) (hgen : (scopeOf st).isGenerator = false := by rfl) (hk : (scopeOf st).kind = .function := by rfl) : CallOK prog w hb (n + 1) (.ref a) ds d := by
  obtain ⟨o, fd, ho, hd, hcd, hbody, hclo, hsc, hg, hbt, hbind⟩ := h
  refine CallOK.def W ho hd hcd hbody hclo (fun vs hv => hbind vs (hv.trans hlen)) hps (by rw [hsc]; exact hkind) (fun L => ?_) (by rw [hsc]; exact hco) (by rw [hsc]; exact hgen) (by rw [hsc]; exact hk)
  have e : callEnvC fd L a = envS st fd.qualname fd.code L a := by
    unfold callEnvC newEnv envS
    rw [hsc, hg, hbt]
  rw [e]
  exact hx _ _ _
theorem EJ.callF {x : Str} {np pos : Pos} {f : Addr} {st : Stmt} {ps : List Str} {e : Expr} {es : List Expr} {ds : List D} {d : D} (W : Wd hb mg mb) (ok : EnvOk env) (hx : env.kindOf x = some .globalImplicit) (hv : mg x = some (.ref f))
    (hf : FnAt hb f st ps) (ha : AJ prog w hb n env ρ (e :: es) ds) (hc : CallOK prog w hb n (.ref f) ds d)
    (he : ∀ env, starEach (e :: es) env = (false, eval e env) :: starEach es env := by intro _; rfl) (hdb : (x == ("__debug__" : Str)) = false := by decide) :
    EJ prog w hb n env ρ (.Call (.Name x np) (e :: es) [] pos) d := by
  obtain ⟨o, fd, ho, hd, _⟩ := hf
  exact EJ.callFn W ok hx (.inl hv) ho hd ha hc he hdb

/-- a fresh name is bound -/
theorem SJ.set {ρ : Rho} {Ω : Owns} {x : Str} {px pos : Pos} {e : Expr} {d : D} (ok : EnvOk env) (he : VJ prog w hb n env ρ Ω e d) (hx : StoreOK env x := by exact .inl rfl) (h1 : (ρ.all fun p => p.1 != x) = true := by rfl) (h2 : (Ω.all fun p => p.1 != x) = true := by rfl)
    (hs : ∀ env, swapsWith e (some (Expr.Name x px)) pos.line env = pure false := by intro _; rfl) : SJ prog w hb n env ρ Ω (.Assign [.Name x px] e pos) (.next ((x, d) :: ρ) Ω) :=
  SJ.assign he ok hx (fun p hp => ⟨hp, by simpa using List.all_eq_true.mp h1 p hp⟩) (fun q hq => ⟨hq, by simpa using List.all_eq_true.mp h2 q hq⟩) hs
theorem SJ.setNew {ρ : Rho} {Ω : Owns} {x : Str} {px pos : Pos} {e : Expr} {ds : List D} (ok : EnvOk env) (he : NJ prog w hb n env ρ e ds) (hx : StoreOK env x := by exact .inl rfl) (h1 : (ρ.all fun p => p.1 != x) = true := by rfl) (h2 : (Ω.all fun p => p.1 != x) = true := by rfl)
    (hs : ∀ env, swapsWith e (some (Expr.Name x px)) pos.line env = pure false := by intro _; rfl) : SJ prog w hb n env ρ Ω (.Assign [.Name x px] e pos) (.next ρ ((x, true, ds) :: Ω)) :=
  SJ.assignNew he ok hx (fun p hp => ⟨hp, by simpa using List.all_eq_true.mp h1 p hp⟩) (fun q hq => ⟨hq, by simpa using List.all_eq_true.mp h2 q hq⟩) hs
theorem AsJ.set {ρ : Rho} {Ω : Owns} {x : Str} {pos : Pos} {d : D} (ok : EnvOk env) (hx : StoreOK env x := by exact .inl rfl) (h1 : (ρ.all fun p => p.1 != x) = true := by rfl) (h2 : (Ω.all fun p => p.1 != x) = true := by rfl) : AsJ prog w hb n env ρ Ω (.Name x pos) d ((x, d) :: ρ) Ω :=
  AsJ.name ok hx (fun p hp => ⟨hp, by simpa using List.all_eq_true.mp h1 p hp⟩) (fun q hq => ⟨hq, by simpa using List.all_eq_true.mp h2 q hq⟩)

/-- if t: return ..; rest -/
theorem XJ.ifRet {ρ : Rho} {Ω : Owns} {t : Expr} {body rest : List Stmt} {pos : Pos} {b : Bool} {d : D} (ht : CJ prog w hb n env ρ Ω t b) (h1 : b = true → XJ prog w hb n env ρ Ω body (.ret d)) (h2 : b = false → XJ prog w hb n env ρ Ω rest (.ret d)) :
    XJ prog w hb n env ρ Ω (.If t body [] pos :: rest) (.ret d) := by
  cases b with
  | true => exact XJ.ret (SJ.ite ht h1 (fun h => nomatch h))
  | false => exact XJ.cons (SJ.ite ht (fun h => nomatch h) (fun _ => XJ.nil)) (h2 rfl)
theorem CallOK.fnL {a : Addr} {st : Stmt} {ps : List Str} {ds : List D} {d : D} (ρ : Rho) (W : Wd hb mg mb) (h : FnAt hb a st ps) (hx : ∀ q c L, XJ prog w hb n (envS st q c L a) ρ [] (bodyOf st) (.ret d)) (hρ : ps.zip ds = ρ := by rfl) (hlen : ds.length = ps.length := by rfl) (hps : ps.Nodup := by decide)
    (hkind : (ps.all fun y => (scopeOf st).names.lookup y == some NameKind.local) = true := by rfl)
    (hco : (scopeOf st).isCoroutine = false := by rfl) (hgen : (scopeOf st).isGenerator = false := by rfl) (hk : (scopeOf st).kind = .function := by rfl) : CallOK prog w hb (n + 1) (.ref a) ds d :=
  CallOK.fn W h hlen hps (fun y hy => .inl (by simpa using List.all_eq_true.mp hkind y hy)) (hρ ▸ hx) hco hgen hk
theorem okEnvS {st : Stmt} {q : Str} {c : Value} {L f : Addr} (h : (scopeOf st).kind = .function := by rfl) : EnvOk (envS st q c L f) := ⟨h, rfl, rfl⟩

/-- t[i], i written -/
theorem EJ.tupAt {x : Expr} {ds : List D} {i : Int} {j k : Nat} {p pos : Pos} {d : D} (hx : EJ prog w hb n env ρ x (.tup ds)) (hlo : -(2 ^ 63) ≤ i := by decide) (hhi : i < 2 ^ 63 := by decide) (hj : seqIndex? i ds.length = some j := by rfl) (hd : ds[j]? = some d := by rfl) :
    EJ prog w hb n env ρ (.Subscript x (.Constant (.int i) k p) pos) d := EJ.sub hx EJ.cint (get_tup hlo hhi hj hd)
theorem EJ.listAt {x : Expr} {ds : List D} {i : Int} {k : Nat} {p pos : Pos} {d : D} (hx : EJ prog w hb n env ρ x (.list ds)) (hd : ds[i.toNat]? = some d) (hlo : 0 ≤ i := by decide) (hhi : i < 2 ^ 63 := by decide) :
    EJ prog w hb n env ρ (.Subscript x (.Constant (.int i) k p) pos) d := EJ.sub hx EJ.cint (get_list hlo hhi hd)

/-- lists of texts -/
abbrev strD (xs : List Str) : D := .list (xs.map D.str)
theorem strD_inj {xs ys : List Str} : strD xs = strD ys ↔ xs = ys := by
  constructor
  · intro h
    have h2 : xs.map D.str = ys.map D.str := by injection h
    exact List.map_inj_right (fun a b e => by injection e) |>.mp h2
  · rintro rfl; rfl
def okS (xs : List Str) : Prop := ∀ x ∈ xs, PyData.strOk x = true
theorem okEs_strs {xs : List Str} (h : okS xs) (k : Nat) : okEs k (xs.map D.str) = true := by
  induction xs with
  | nil => rfl
  | cons x xs ih => simp only [List.map_cons, okEs, okE, Bool.and_eq_true]; exact ⟨by cases k <;> exact h x (.head _), ih fun y hy => h y (.tail _ hy)⟩
theorem okE_strD {xs : List Str} (h : okS xs) (k : Nat) : okE (k + 1) (strD xs) = true := by
  simp only [strD, okE]; exact okEs_strs h k
theorem cmp_eq_strs {xs ys : List Str} (hx : okS xs) (hy : okS ys) : CmpOK prog w .Eq (strD xs) (strD ys) (decide (xs = ys)) :=
  cmp_eq (okE_strD hx 7) (okE_strD hy 7) (by rw [decide_eq_true_iff, strD_inj])
theorem okS.drop {xs : List Str} (h : okS xs) (k : Nat) : okS (xs.drop k) := fun x hx => h x (List.mem_of_mem_drop hx)
theorem okS.take {xs : List Str} (h : okS xs) (k : Nat) : okS (xs.take k) := fun x hx => h x (List.mem_of_mem_take hx)

theorem pick_from (ds : List D) (k : Nat) : pick ds (some k) none = ds.drop k := by
  have e : sliceBounds (some (k : Int)) none none ds.length = (((min k ds.length : Nat) : Int), (ds.length : Int), 1) := by
    simp only [sliceBounds, Option.getD_none]
    have h1 : ¬ ((k : Int) < 0) := by omega
    simp only [h1, if_false, show (1 : Int) > 0 by decide, if_true]
    congr 1
    omega
  unfold pick
  rw [e]
  have := pick_run ds.toArray (min k ds.length) (ds.length - min k ds.length)
  simp only [sliceRange_one, List.getElem?_toArray] at this ⊢
  rw [this, List.take_of_length_le (by simp)]
  by_cases h : k ≤ ds.length
  · rw [Nat.min_eq_left h]
  · rw [Nat.min_eq_right (by omega), List.drop_length, List.drop_eq_nil_of_le (by omega)]
theorem pick_to (ds : List D) (k : Nat) : pick ds none (some k) = ds.take k := by
  have e : sliceBounds none (some (k : Int)) none ds.length = (((0 : Nat) : Int), ((min k ds.length : Nat) : Int), 1) := by
    simp only [sliceBounds, Option.getD_none]
    have h1 : ¬ ((k : Int) < 0) := by omega
    simp only [h1, if_false, show (1 : Int) > 0 by decide, if_true]
    congr 1
    congr 1
    omega
  unfold pick
  rw [e]
  have := pick_run ds.toArray 0 (min k ds.length - 0)
  simp only [sliceRange_one, List.getElem?_toArray] at this ⊢
  rw [this]
  simp only [List.drop_zero, Nat.sub_zero]
  by_cases h : k ≤ ds.length
  · rw [Nat.min_eq_left h]
  · rw [Nat.min_eq_right (by omega), List.take_length, List.take_of_length_le (by omega)]
theorem pick_both (ds : List D) (a b : Nat) : pick ds (some a) (some b) = (ds.drop a).take (b - a) := by
  have e : sliceBounds (some (a : Int)) (some (b : Int)) none ds.length = (((min a ds.length : Nat) : Int), ((min b ds.length : Nat) : Int), 1) := by
    simp only [sliceBounds, Option.getD_none]
    have h1 : ¬ ((a : Int) < 0) := by omega
    have h2 : ¬ ((b : Int) < 0) := by omega
    simp only [h1, h2, if_false, show (1 : Int) > 0 by decide, if_true]
    congr 1
    · omega
    · congr 1; omega
  unfold pick
  rw [e]
  have := pick_run ds.toArray (min a ds.length) (min b ds.length - min a ds.length)
  simp only [sliceRange_one, List.getElem?_toArray] at this ⊢
  rw [this]
  by_cases ha : a ≤ ds.length
  · rw [Nat.min_eq_left ha]
    by_cases hb : b ≤ ds.length
    · rw [Nat.min_eq_left hb]
    · rw [Nat.min_eq_right (by omega), List.take_of_length_le (by simp), List.take_of_length_le (by simp; omega)]
  · have ha' : min a ds.length = ds.length := by omega
    rw [ha', List.drop_length, List.drop_eq_nil_of_le (as := ds) (i := a) (by omega)]; simp
theorem pick_neg (ds : List D) (k : Nat) (h0 : 0 < k) (hk : k ≤ ds.length) : pick ds (some (-(k : Int))) none = ds.drop (ds.length - k) := by
  have e : sliceBounds (some (-(k : Int))) none none ds.length = (((ds.length - k : Nat) : Int), (ds.length : Int), 1) := by
    simp only [sliceBounds, Option.getD_none]
    have h1 : (-(k : Int) < 0) := by omega
    simp only [h1, if_true, show (1 : Int) > 0 by decide]
    congr 1
    omega
  unfold pick
  rw [e]
  have := pick_run ds.toArray (ds.length - k) (ds.length - (ds.length - k))
  simp only [sliceRange_one, List.getElem?_toArray] at this ⊢
  rw [this, List.take_of_length_le (by simp)]
end
end Mine
end
section
open PySem PySem.W PySem.Calls PyProof.Rows
set_option maxRecDepth 100000
namespace Mine
/-- a rule -/
structure R where
  host : List Str
  steps : List Str
  au : Str
abbrev ruleD (r : R) : D := .tup [strD r.host, strD r.steps, .str r.au]
structure R.Ok (r : R) : Prop where
  hs : okS r.host
  ss : okS r.steps
  aus : PyData.strOk r.au = true
  two : 2 ≤ r.host.length
  few : r.host.length ≤ 8
  fewS : r.steps.length ≤ 8
def S7 : Str := "7"
/-- the zone is the host alone -/
def bareB (h : List Str) : Bool := decide (h.getLastD "" = ("7" : Str)) || (decide (h.drop 1 = [("com" : Str)]) || (decide (h.drop 1 = [("org" : Str)]) || false))
def zoneK (h : List Str) : Str := if bareB h then "bare" else "dotted"
def zoneN (h : List Str) : List Str := if bareB h then h else h.drop 1
abbrev zoneD (h : List Str) : D := .tup [.str (zoneK h), strD (zoneN h)]


-- names: a member; an expression of names, literals, displays
local macro_rules | `(tactic| kqd_in) => `(tactic| first | (with_reducible exact List.mem_cons_self) | (refine List.mem_cons_of_mem _ ?_; kqd_in))
local macro_rules | `(tactic| kqd_all) => `(tactic| first
  | (with_reducible exact EJ.cint) | (with_reducible exact EJ.cstr) | (with_reducible exact EJ.cbool) | (with_reducible exact EJ.cnone)
  | ((with_reducible refine EJ.name ?_ ?_ ?_ ?_); exact okEnvS; kqd_in; decide; decide)
  | (with_reducible exact AJ.nil)
  | ((with_reducible refine AJ.cons ?_ ?_ ?_); kqd_all; kqd_all; (intro _; rfl))
  | ((with_reducible refine EJ.un ?_ ?_); kqd_all; exact un_neg)
  | ((with_reducible refine EJ.tup ?_ ?_); kqd_all; exact Nat.le_of_ble_eq_true rfl)
  | ((with_reducible refine EJ.list ?_ ?_); kqd_all; exact Nat.le_of_ble_eq_true rfl)
  | ((refine EJ.list ?_ ?_); kqd_all; exact Nat.le_of_ble_eq_true rfl)
  | ((refine AJ.cons ?_ ?_ ?_); kqd_all; kqd_all; (intro _; rfl))
  | ((refine EJ.tup ?_ ?_); kqd_all; exact Nat.le_of_ble_eq_true rfl)
  | exact AJ.nil | exact EJ.cstr | exact EJ.cint | exact EJ.cbool)
section
variable {prog : Program} {w : World} {hb : Heap} {mg mb : Str → Option Value} {n : Nat}
theorem okS_one {x : Str} (h : PyData.strOk x = true) : okS [x] := fun y hy => by rw [List.mem_singleton.mp hy]; exact h
theorem last_get {h : List Str} (h1 : 1 ≤ h.length) : (h.map D.str)[((-1 : Int) + ((h.map D.str).length : Int)).toNat]? = some (.str (h.getLastD "")) := by
  have e : ((-1 : Int) + ((h.map D.str).length : Int)).toNat = h.length - 1 := by rw [List.length_map]; omega
  rw [e, List.getElem?_map, List.getLastD_eq_getLast?, List.getLast?_eq_getElem?, List.getElem?_eq_getElem (by omega)]; rfl
theorem slice1 {ρ : Rho} {env : Env} {h : List Str} {e : Expr} {p1 p2 pos : Pos} (he : EJ prog w hb n env ρ e (strD h)) (hlen : h.length ≤ 8) :
    EJ prog w hb n env ρ (.Subscript e (.Slice (some (.Constant (.int 1) 0 p1)) none none p2) pos) (strD (h.drop 1)) := by
  have := EJ.sliceList (p := p2) (pos := pos) he (PJ.some (EJ.cint (i := 1) (k := 0) (pos := p1))) PJ.none (by rw [List.length_map, sizeLine_eq]; omega)
  rw [show pick (h.map D.str) (some 1) none = (h.drop 1).map D.str from by rw [List.map_drop]; exact pick_from _ 1] at this
  exact this
theorem zone_call (W : Wd hb mg mb) (hf : FnAt hb 133 (pst 12) ["rule"]) (r : R) (ok : r.Ok) : CallOK prog w hb 2 (.ref 133) [ruleD r] (zoneD r.host) := by
  refine CallOK.fnL [("rule", ruleD r)] W hf (fun q c L => ?_)
  refine XJ.cons (ρ' := [("host", strD r.host), ("rule", ruleD r)]) (Ω' := []) ?_ ?_
  · refine SJ.set okEnvS (VJ.of ?_)
    refine EJ.tupAt (ds := [strD r.host, strD r.steps, .str r.au]) ?_; kqd_all
  refine XJ.ifRet (b := bareB r.host) (CJ.of (BJ.bool ?t)) ?h1 ?h2
  case t =>
    refine AllB.or ?_ fun _ => AllB.or ?_ fun _ => AllB.or ?_ fun _ => AllB.or0
    · refine BJ.cmp ?_ EJ.cstr cmp_eq_str
      refine EJ.sub (a := strD r.host) ?_ (EJ.un EJ.cint un_neg) (get_list_neg (by decide) (by rw [List.length_map]; have := ok.two; omega) (by decide) (last_get (by have := ok.two; omega))); kqd_all
    · refine BJ.cmp ?_ ?_ (cmp_eq_strs (ys := ["com"]) (ok.hs.drop 1) (okS_one (by decide +kernel)))
      · refine slice1 ?_ ok.few; kqd_all
      · kqd_all
    · refine BJ.cmp ?_ ?_ (cmp_eq_strs (ys := ["org"]) (ok.hs.drop 1) (okS_one (by decide +kernel)))
      · refine slice1 ?_ ok.few; kqd_all
      · kqd_all
  case h1 =>
    intro e
    rw [show zoneD r.host = .tup [.str "bare", strD r.host] from by simp [zoneD, zoneK, zoneN, e]]
    refine XJ.ret (SJ.ret (VJ.of ?_)); kqd_all
  case h2 =>
    intro e
    rw [show zoneD r.host = .tup [.str "dotted", strD (r.host.drop 1)] from by simp [zoneD, zoneK, zoneN, e]]
    refine XJ.ret (SJ.ret (VJ.of ?_))
    refine EJ.tup (AJ.cons EJ.cstr (AJ.cons ?_ AJ.nil)) (Nat.le_of_ble_eq_true rfl)
    refine slice1 ?_ ok.few; kqd_all
end
end Mine
end
section
open PySem PySem.W PySem.Calls PyProof.Rows
set_option maxRecDepth 100000
namespace Mine
/-- where the program's functions lie -/
structure Bs (hb : Heap) (mg mb : Str → Option Value) : Prop where
  W : Wd hb mg mb
  none : ∀ x ∈ (["range", "len", "sum", "min", "max"] : List Str), mg x = none
  f1 : FnAt hb 50 (pst 4) ["text"]
  g1 : mg "is_HDN" = some (.ref 50)
  f2 : FnAt hb 57 (pst 5) ["text"]
  g2 : mg "liberal_is_HDN" = some (.ref 57)
  f3 : FnAt hb 64 (pst 6) ["A", "B"]
  g3 : mg "user_domain_match" = some (.ref 64)
  f4 : FnAt hb 71 (pst 7) ["h"]
  g4 : mg "reach" = some (.ref 71)
  f5 : FnAt hb 126 (pst 11) ["script"]
  g5 : mg "_law_rules" = some (.ref 126)
  f6 : FnAt hb 133 (pst 12) ["rule"]
  g6 : mg "_law_zone" = some (.ref 133)
  f7 : FnAt hb 140 (pst 13) ["rule", "other"]
  g7 : mg "_law_holds" = some (.ref 140)
  f8 : FnAt hb 145 (pst 14) ["rule", "other"]
  g8 : mg "_law_covers" = some (.ref 145)
  f9 : FnAt hb 152 (pst 15) ["rule", "other"]
  g9 : mg "_law_meet" = some (.ref 152)
  f10 : FnAt hb 157 (pst 16) ["answers"]
  g10 : mg "_law_mask" = some (.ref 157)
  g11 : mg "HTTPPasswordMgr" = some (.ref 117)
  g12 : mg "IPV4_RE" = some (.ref 43)
theorem Bs.bi {hb : Heap} {mg mb : Str → Option Value} (B : Bs hb mg mb) {x : Str} {v : Value} (hv : bootBuiltins x = some v) (h : x ∈ (["range", "len", "sum", "min", "max"] : List Str) := by decide) (hn : x ≠ "__name__" := by decide) : GV hb mg mb x v := .inr ⟨B.none x h, hv, hn⟩
def holdsB (h o : List Str) : Bool := decide (zoneK o = zoneK h ∧ zoneN o = zoneN h) || (decide (zoneK h = ("dotted" : Str)) && (decide ((zoneN h).length < (zoneN o).length) && decide ((zoneN o).drop ((zoneN o).length - (zoneN h).length) = zoneN h)))
theorem zoneD_inj {h o : List Str} : zoneD h = zoneD o ↔ zoneK h = zoneK o ∧ zoneN h = zoneN o := by
  unfold zoneD
  constructor
  · intro e
    injection e with e; injection e with e1 e2; injection e2 with e2 _
    injection e1 with e1
    exact ⟨e1, strD_inj.mp e2⟩
  · rintro ⟨e1, e2⟩; rw [e1, e2]
theorem R.Ok.zN {r : R} (ok : r.Ok) : okS (zoneN r.host) := by unfold zoneN; split; exact ok.hs; exact ok.hs.drop 1
theorem R.Ok.zL {r : R} (ok : r.Ok) : 1 ≤ (zoneN r.host).length ∧ (zoneN r.host).length ≤ 8 := by
  have := ok.two; have := ok.few
  unfold zoneN; split
  · omega
  · rw [List.length_drop]; omega
theorem zoneK_ok (h : List Str) : PyData.strOk (zoneK h) = true := by unfold zoneK; split <;> decide +kernel
theorem R.Ok.zE {r : R} (ok : r.Ok) : okE 8 (zoneD r.host) = true := by
  simp only [zoneD, okE, okEs, Bool.and_eq_true]; exact ⟨zoneK_ok _, okE_strD ok.zN 6, trivial⟩
local macro_rules | `(tactic| kqd_in) => `(tactic| first | (with_reducible exact List.mem_cons_self) | (refine List.mem_cons_of_mem _ ?_; kqd_in))
local macro_rules | `(tactic| kqd_all) => `(tactic| first
  | (with_reducible exact EJ.cint) | (with_reducible exact EJ.cstr) | (with_reducible exact EJ.cbool) | (with_reducible exact EJ.cnone)
  | ((with_reducible refine EJ.name ?_ ?_ ?_ ?_); exact okEnvS; kqd_in; decide; decide)
  | (with_reducible exact AJ.nil)
  | ((with_reducible refine AJ.cons ?_ ?_ ?_); kqd_all; kqd_all; (intro _; rfl))
  | ((with_reducible refine EJ.un ?_ ?_); kqd_all; exact un_neg)
  | ((with_reducible refine EJ.tup ?_ ?_); kqd_all; exact Nat.le_of_ble_eq_true rfl)
  | ((with_reducible refine EJ.list ?_ ?_); kqd_all; exact Nat.le_of_ble_eq_true rfl)
  | ((refine EJ.list ?_ ?_); kqd_all; exact Nat.le_of_ble_eq_true rfl)
  | ((refine AJ.cons ?_ ?_ ?_); kqd_all; kqd_all; (intro _; rfl))
  | ((refine EJ.tup ?_ ?_); kqd_all; exact Nat.le_of_ble_eq_true rfl)
  | exact AJ.nil | exact EJ.cstr | exact EJ.cint | exact EJ.cbool)
section
variable {prog : Program} {w : World} {hb : Heap} {mg mb : Str → Option Value} {n : Nat} {env : Env} {ρ : Rho}
theorem Bs.zone (B : Bs hb mg mb) {e : Expr} {np pos : Pos} {r : R} (ok : EnvOk env) (rok : r.Ok) (he : EJ prog w hb n env ρ e (ruleD r)) (hk : env.kindOf "_law_zone" = some .globalImplicit := by rfl) (hn : 2 ≤ n := by decide)
    (hs : ∀ env, starEach [e] env = (false, eval e env) :: starEach [] env := by intro _; rfl) : EJ prog w hb n env ρ (.Call (.Name "_law_zone" np) [e] [] pos) (zoneD r.host) :=
  EJ.callF B.W ok hk B.g6 B.f6 (AJ.cons he AJ.nil (he := hs)) ((zone_call B.W B.f6 r rok).mono hn) hs
theorem Bs.len (B : Bs hb mg mb) {e : Expr} {np pos : Pos} {ds : List D} (ok : EnvOk env) (he : EJ prog w hb n env ρ e (.list ds)) (hl : ds.length ≤ 1000) (hk : env.kindOf "len" = some .globalImplicit := by rfl)
    (hs : ∀ env, starEach [e] env = (false, eval e env) :: starEach [] env := by intro _; rfl) : EJ prog w hb n env ρ (.Call (.Name "len" np) [e] [] pos) (.int ds.length) :=
  EJ.callBi B.W ok hk (B.bi (v := .builtin "len") rfl) (AJ.cons he AJ.nil (he := hs)) ((call_len (by omega)).mono (Nat.zero_le _)) hs
theorem holds_call (B : Bs hb mg mb) (r o : R) (ok : r.Ok) (oko : o.Ok) : CallOK prog w hb 3 (.ref 140) [ruleD r, ruleD o] (.bool (holdsB r.host o.host)) := by
  refine CallOK.fnL [("rule", ruleD r), ("other", ruleD o)] B.W B.f7 (fun q c L => ?_)
  refine XJ.cons (ρ' := [("names", strD (zoneN r.host)), ("kind", .str (zoneK r.host)), ("rule", ruleD r), ("other", ruleD o)]) (Ω' := []) ?_ ?_
  · refine SJ.assignT (d := zoneD r.host) (VJ.of ?_) ?_
    · refine B.zone okEnvS ok ?_; kqd_all
    · exact AsJ.pair (AsJ.set okEnvS) (AsJ.set okEnvS)
  refine XJ.cons (ρ' := [("inner", zoneD o.host), ("names", strD (zoneN r.host)), ("kind", .str (zoneK r.host)), ("rule", ruleD r), ("other", ruleD o)]) (Ω' := []) ?_ ?_
  · refine SJ.set okEnvS (VJ.of ?_)
    refine B.zone okEnvS oko ?_; kqd_all
  refine XJ.ifRet (b := decide (zoneK o.host = zoneK r.host ∧ zoneN o.host = zoneN r.host)) (CJ.of ?_) ?_ ?_
  · refine BJ.cmp (b := zoneD r.host) ?_ ?_ (cmp_eq oko.zE ok.zE (decide_eq_true_iff.trans zoneD_inj.symm)) <;> kqd_all
  · intro e
    rw [show holdsB r.host o.host = true from by simp only [holdsB, e, Bool.true_or]]
    refine XJ.ret (SJ.ret (VJ.of ?_)); kqd_all
  · intro e
    rw [show holdsB r.host o.host = (decide (zoneK r.host = ("dotted" : Str)) && (decide ((zoneN r.host).length < (zoneN o.host).length) && decide ((zoneN o.host).drop ((zoneN o.host).length - (zoneN r.host).length) = zoneN r.host))) from by simp only [holdsB, e, Bool.false_or]]
    refine XJ.ret (SJ.ret (VJ.of (EJ.bool ?_)))
    have l1 := ok.zL; have l2 := oko.zL
    refine OpB.and ?_ fun h1 => OpB.and ?_ fun h2 => OpB.one ?_
    · refine EJ.cmp (a := .str (zoneK r.host)) (b := .str "dotted") ?_ ?_ cmp_eq_str <;> kqd_all
    · rw [show decide ((zoneN r.host).length < (zoneN o.host).length) = decide ((((zoneN r.host).map D.str).length : Int) < (((zoneN o.host).map D.str).length : Int)) from by simp]
      refine EJ.cmp ?_ ?_ cmp_gt_int
      · refine B.len okEnvS ?_ (by rw [List.length_map]; omega)
        refine EJ.tupAt (ds := [.str (zoneK o.host), strD (zoneN o.host)]) ?_; kqd_all
      · refine B.len okEnvS ?_ (by rw [List.length_map]; omega)
        kqd_all
    · refine EJ.cmp (a := strD ((zoneN o.host).drop ((zoneN o.host).length - (zoneN r.host).length))) (b := strD (zoneN r.host)) ?_ ?_ (cmp_eq_strs (oko.zN.drop _) ok.zN)
      · have h2' : (zoneN r.host).length < (zoneN o.host).length := by simpa using h2
        rw [show strD ((zoneN o.host).drop ((zoneN o.host).length - (zoneN r.host).length)) = .list (pick ((zoneN o.host).map D.str) (some (-(((zoneN r.host).map D.str).length : Int))) none) from by
          rw [pick_neg _ _ (by rw [List.length_map]; omega) (by rw [List.length_map, List.length_map]; omega), strD, List.map_drop, List.length_map, List.length_map]]
        refine EJ.sliceList ?_ (PJ.some ?_) PJ.none (by rw [List.length_map, sizeLine_eq]; omega)
        · refine EJ.tupAt (ds := [.str (zoneK o.host), strD (zoneN o.host)]) ?_; kqd_all
        · refine EJ.un ?_ un_neg
          refine B.len okEnvS ?_ (by rw [List.length_map]; omega)
          kqd_all
      · kqd_all
end
end Mine
end
section
open PySem PySem.W PySem.Calls PyProof.Rows
set_option maxRecDepth 100000
namespace Mine
local macro_rules | `(tactic| kqd_in) => `(tactic| first | (with_reducible exact List.mem_cons_self) | (refine List.mem_cons_of_mem _ ?_; kqd_in))
local macro_rules | `(tactic| kqd_all) => `(tactic| first
  | (with_reducible exact EJ.cint) | (with_reducible exact EJ.cstr) | (with_reducible exact EJ.cbool) | (with_reducible exact EJ.cnone)
  | ((with_reducible refine EJ.name ?_ ?_ ?_ ?_); exact okEnvS; kqd_in; decide; decide)
  | (with_reducible exact AJ.nil)
  | ((with_reducible refine AJ.cons ?_ ?_ ?_); kqd_all; kqd_all; (intro _; rfl))
  | ((with_reducible refine EJ.un ?_ ?_); kqd_all; exact un_neg)
  | ((with_reducible refine EJ.tup ?_ ?_); kqd_all; exact Nat.le_of_ble_eq_true rfl)
  | ((with_reducible refine EJ.list ?_ ?_); kqd_all; exact Nat.le_of_ble_eq_true rfl)
  | ((refine EJ.list ?_ ?_); kqd_all; exact Nat.le_of_ble_eq_true rfl)
  | ((refine AJ.cons ?_ ?_ ?_); kqd_all; kqd_all; (intro _; rfl))
  | ((refine EJ.tup ?_ ?_); kqd_all; exact Nat.le_of_ble_eq_true rfl)
  | exact AJ.nil | exact EJ.cstr | exact EJ.cint | exact EJ.cbool)
/-- the names of a block -/
def namesOk (scope : Scope) : Bool := scope.names.all fun y => y.2 != .local || scope.names.lookup y.1 == some .local
theorem namesOk_iff {scope : Scope} (h : namesOk scope = true) : ∀ y ∈ scope.names, y.2 = .local → scope.names.lookup y.1 = some .local := by
  intro y hy e
  have := List.all_eq_true.mp h y hy
  simpa [e] using this
section
variable {prog : Program} {w : World} {hb : Heap} {mg mb : Str → Option Value} {n : Nat} {env : Env} {ρ : Rho} {Ω : Owns}
theorem NJ.compL {elt iter : Expr} {x : Str} {px : Pos} {ifs : List Expr} {scope : Scope} {cl : List (Str × Addr)} {pos : Pos} {ρf : Rho} {α : Type} (xs : List α) (φ : α → D) (p : α → Bool) (ψ : α → D)
    (ok : EnvOk env) (hf : Frees env scope cl ρ ρf) (hsz : xs.length ≤ 1000) (hsrc : SrcJ prog w hb n env ρ iter (xs.map φ))
    (htest : ∀ C cs, cs = cellsFrom (C + 1) scope.names cl → ∀ a ∈ xs, TJ prog w hb n (compEnvC scope cs C env) ((x, φ a) :: ρf) ifs (p a))
    (helt : ∀ C cs, cs = cellsFrom (C + 1) scope.names cl → ∀ a ∈ xs, p a = true → EJ prog w hb n (compEnvC scope cs C env) ((x, φ a) :: ρf) elt (ψ a))
    (hx : CompVar scope.names x := by exact .loc rfl (fun _ _ => rfl) (fun _ => rfl)) (hclos : closureFor scope env = pure cl := by rfl) (hkind : scope.kind = .function := by rfl) (hnames : namesOk scope = true := by rfl)
    (hs : ∀ env x, foldedSetIterable iter env x = pure x := by intro _ _; rfl) : NJ prog w hb n env ρ (.ListComp elt [⟨.Name x px, iter, ifs, 0⟩] scope pos) ((xs.filter p).map ψ) :=
  NJ.comp xs φ p ψ ok hclos hkind (namesOk_iff hnames) hx hf (by rw [sizeLine_eq]; omega) hsrc htest helt hs
theorem NJ.mapL {elt iter : Expr} {x : Str} {px : Pos} {scope : Scope} {cl : List (Str × Addr)} {pos : Pos} {ρf : Rho} {α : Type} (xs : List α) (φ : α → D) (ψ : α → D)
    (ok : EnvOk env) (hf : Frees env scope cl ρ ρf) (hsz : xs.length ≤ 1000) (hsrc : SrcJ prog w hb n env ρ iter (xs.map φ))
    (helt : ∀ C cs, cs = cellsFrom (C + 1) scope.names cl → ∀ a ∈ xs, EJ prog w hb n (compEnvC scope cs C env) ((x, φ a) :: ρf) elt (ψ a))
    (hx : CompVar scope.names x := by exact .loc rfl (fun _ _ => rfl) (fun _ => rfl)) (hclos : closureFor scope env = pure cl := by rfl) (hkind : scope.kind = .function := by rfl) (hnames : namesOk scope = true := by rfl)
    (hs : ∀ env x, foldedSetIterable iter env x = pure x := by intro _ _; rfl) : NJ prog w hb n env ρ (.ListComp elt [⟨.Name x px, iter, [], 0⟩] scope pos) (xs.map ψ) :=
  NJ.map xs φ ψ ok hclos hkind (namesOk_iff hnames) hx hf (by rw [sizeLine_eq]; omega) hsrc helt hs
theorem SJ.setComp {elt iter : Expr} {x y : Str} {px py : Pos} {ifs : List Expr} {scope : Scope} {cl : List (Str × Addr)} {pos spos : Pos} {ρf : Rho} {α : Type} (xs : List α) (φ : α → D) (p : α → Bool) (ψ : α → D)
    (ok : EnvOk env) (hf : Frees env scope cl ρ ρf) (hsz : xs.length ≤ 1000) (hsrc : SrcJ prog w hb n env ρ iter (xs.map φ))
    (htest : ∀ C cs, cs = cellsFrom (C + 1) scope.names cl → ∀ a ∈ xs, TJ prog w hb n (compEnvC scope cs C env) ((x, φ a) :: ρf) ifs (p a))
    (helt : ∀ C cs, cs = cellsFrom (C + 1) scope.names cl → ∀ a ∈ xs, p a = true → EJ prog w hb n (compEnvC scope cs C env) ((x, φ a) :: ρf) elt (ψ a))
    (h1 : (ρ.all fun p => p.1 != y) = true := by rfl) (h2 : (Ω.all fun p => p.1 != y) = true := by rfl)
    (hy : StoreOK env y := by exact .inl rfl) (hx : CompVar scope.names x := by exact .loc rfl (fun _ _ => rfl) (fun _ => rfl)) (hclos : closureFor scope env = pure cl := by rfl) (hkind : scope.kind = .function := by rfl) (hnames : namesOk scope = true := by rfl)
    (hsw : swapsWith (.ListComp elt [⟨.Name x px, iter, ifs, 0⟩] scope pos) (some (Expr.Name y py)) spos.line env = pure true := by rfl)
    (hs : ∀ env x, foldedSetIterable iter env x = pure x := by intro _ _; rfl) :
    SJ prog w hb n env ρ Ω (.Assign [.Name y py] (.ListComp elt [⟨.Name x px, iter, ifs, 0⟩] scope pos) spos) (.next ρ ((y, true, (xs.filter p).map ψ) :: Ω)) :=
  SJ.assignComp xs φ p ψ ok hy (fun p hp => ⟨hp, by simpa using List.all_eq_true.mp h1 p hp⟩) (fun q hq => ⟨hq, by simpa using List.all_eq_true.mp h2 q hq⟩) hclos hkind (namesOk_iff hnames) hx hf (by rw [sizeLine_eq]; omega) hsrc htest helt hsw hs
/-- the newest own list comes to rest -/
theorem XJ.rest {ss : List Stmt} {o : Out} {x : Str} {pl : Bool} {ds : List D} (h : XJ prog w hb n env ((x, .list ds) :: ρ) Ω ss o) (h2 : (Ω.all fun p => p.1 != x) = true := by rfl) : XJ prog w hb n env ρ ((x, pl, ds) :: Ω) ss o :=
  XJ.freeze (Ω' := Ω) (.head _) (fun q hq => ⟨.tail _ hq, by simpa using List.all_eq_true.mp h2 q hq⟩) h
def pieces (ss : List Str) : List Str := ss.filter fun (x : Str) => x != ""
def coversB (s o : List Str) : Bool := decide (s = o) || (decide (o.take (pieces s).length = pieces s) && decide ((pieces s).length < o.length))
theorem okS.filter {xs : List Str} (h : okS xs) (p : Str → Bool) : okS (xs.filter p) := fun x hx => h x (List.mem_filter.mp hx).1
theorem okC {scope : Scope} {cs : List (Str × Addr)} {C : Addr} (ok : EnvOk env) (h : (relabel scope env).kind = .function := by rfl) : EnvOk (compEnvC scope cs C env) := ⟨h, ok.glob, ok.blt⟩
theorem covers_call (B : Bs hb mg mb) (r o : R) (ok : r.Ok) (oko : o.Ok) : CallOK prog w hb 3 (.ref 145) [ruleD r, ruleD o] (.bool (coversB r.steps o.steps)) := by
  refine CallOK.fnL [("rule", ruleD r), ("other", ruleD o)] B.W B.f8 (fun q c L => ?_)
  have l1 := ok.fewS; have l2 := oko.fewS
  have l3 : (pieces r.steps).length ≤ 8 := Nat.le_trans (List.length_filter_le _ _) l1
  refine XJ.cons (ρ' := [("rule", ruleD r), ("other", ruleD o)]) (Ω' := [("steps", true, (r.steps.filter fun (x : Str) => x != "").map D.str)]) ?_ (XJ.rest ?_)
  · refine SJ.setComp r.steps D.str (fun (x : Str) => x != "") D.str okEnvS .nil (by omega) (SrcJ.list ?_) ?_ ?_
    · refine EJ.tupAt (ds := [strD r.host, strD r.steps, .str r.au]) ?_; kqd_all
    · intro C cs hcs a ha
      refine TJ.one ?_
      refine BJ.cmp (a := .str a) (b := .str "") ?_ ?_ cmp_ne_str
      · exact EJ.name (okC okEnvS) (.head _)
      · kqd_all
    · intro C cs hcs a ha _
      exact EJ.name (okC okEnvS) (.head _)
  refine XJ.ret (SJ.ret (VJ.of (EJ.bool ?_)))
  refine OpB.or ?_ fun h1 => OpB.one (EJ.bool ?_)
  · refine EJ.cmp (a := strD r.steps) (b := strD o.steps) ?_ ?_ (cmp_eq_strs ok.ss oko.ss)
    · refine EJ.tupAt (ds := [strD r.host, strD r.steps, .str r.au]) ?_; kqd_all
    · refine EJ.tupAt (ds := [strD o.host, strD o.steps, .str o.au]) ?_; kqd_all
  · refine OpB.and ?_ fun h2 => OpB.one ?_
    · refine EJ.cmp (a := strD (o.steps.take (pieces r.steps).length)) (b := strD (pieces r.steps)) ?_ ?_ (cmp_eq_strs (oko.ss.take _) (ok.ss.filter _))
      · rw [show strD (o.steps.take (pieces r.steps).length) = .list (pick (o.steps.map D.str) none (some ((((pieces r.steps).map D.str).length : Nat) : Int))) from by rw [pick_to, strD, List.map_take, List.length_map]]
        refine EJ.sliceList ?_ PJ.none (PJ.some ?_) (by rw [List.length_map, sizeLine_eq]; omega)
        · refine EJ.tupAt (ds := [strD o.host, strD o.steps, .str o.au]) ?_; kqd_all
        · refine B.len okEnvS ?_ (by rw [List.length_map]; omega)
          exact EJ.name okEnvS (.head _)
      · exact EJ.name okEnvS (.head _)
    · rw [show decide ((pieces r.steps).length < o.steps.length) = decide ((((pieces r.steps).map D.str).length : Int) < ((o.steps.map D.str).length : Int)) from by simp]
      refine EJ.cmp ?_ ?_ cmp_gt_int
      · refine B.len okEnvS ?_ (by rw [List.length_map]; omega)
        refine EJ.tupAt (ds := [strD o.host, strD o.steps, .str o.au]) ?_; kqd_all
      · refine B.len okEnvS ?_ (by rw [List.length_map]; omega)
        exact EJ.name okEnvS (.head _)
end
end Mine
end
section
open PySem PySem.W PySem.Calls PyProof.Rows
set_option maxRecDepth 100000
namespace Mine
local macro_rules | `(tactic| kqd_in) => `(tactic| first | (with_reducible exact List.mem_cons_self) | (refine List.mem_cons_of_mem _ ?_; kqd_in))
local macro_rules | `(tactic| kqd_all) => `(tactic| first
  | (with_reducible exact EJ.cint) | (with_reducible exact EJ.cstr) | (with_reducible exact EJ.cbool) | (with_reducible exact EJ.cnone)
  | ((with_reducible refine EJ.name ?_ ?_ ?_ ?_); exact okEnvS; kqd_in; decide; decide)
  | (with_reducible exact AJ.nil)
  | ((with_reducible refine AJ.cons ?_ ?_ ?_); kqd_all; kqd_all; (intro _; rfl))
  | ((with_reducible refine EJ.un ?_ ?_); kqd_all; exact un_neg)
  | ((with_reducible refine EJ.tup ?_ ?_); kqd_all; exact Nat.le_of_ble_eq_true rfl)
  | ((with_reducible refine EJ.list ?_ ?_); kqd_all; exact Nat.le_of_ble_eq_true rfl)
  | ((refine EJ.list ?_ ?_); kqd_all; exact Nat.le_of_ble_eq_true rfl)
  | ((refine AJ.cons ?_ ?_ ?_); kqd_all; kqd_all; (intro _; rfl))
  | ((refine EJ.tup ?_ ?_); kqd_all; exact Nat.le_of_ble_eq_true rfl)
  | exact AJ.nil | exact EJ.cstr | exact EJ.cint | exact EJ.cbool)
def meetB (r o : R) : Bool := decide (r.au = o.au) && ((holdsB r.host o.host || holdsB o.host r.host) && (coversB r.steps o.steps || coversB o.steps r.steps))
def maskL (bs : List Bool) : List Nat := (List.range 6).filter fun i => bs.getD i false
def maskN (bs : List Bool) : Int := ((maskL bs).map fun i => (2 : Int) ^ i).sum
section
variable {prog : Program} {w : World} {hb : Heap} {mg mb : Str → Option Value} {n : Nat} {env : Env} {ρ : Rho} {Ω : Owns}
theorem BJ.cast {e : Expr} {b b' : Bool} (h : b = b') (x : BJ prog w hb n env ρ e b) : BJ prog w hb n env ρ e b' := h ▸ x
theorem Bs.holds (B : Bs hb mg mb) {e e' : Expr} {np pos : Pos} {r o : R} (ok : EnvOk env) (rok : r.Ok) (ook : o.Ok) (he : EJ prog w hb n env ρ e (ruleD r)) (he' : EJ prog w hb n env ρ e' (ruleD o)) (hk : env.kindOf "_law_holds" = some .globalImplicit := by rfl) (hn : 3 ≤ n := by decide)
    (hs : ∀ env, starEach [e, e'] env = (false, eval e env) :: starEach [e'] env := by intro _; rfl) (hs' : ∀ env, starEach [e'] env = (false, eval e' env) :: starEach [] env := by intro _; rfl) : EJ prog w hb n env ρ (.Call (.Name "_law_holds" np) [e, e'] [] pos) (.bool (holdsB r.host o.host)) :=
  EJ.callF B.W ok hk B.g7 B.f7 (AJ.cons he (AJ.cons he' AJ.nil (he := hs')) (he := hs)) ((holds_call B r o rok ook).mono hn) hs
theorem Bs.covers (B : Bs hb mg mb) {e e' : Expr} {np pos : Pos} {r o : R} (ok : EnvOk env) (rok : r.Ok) (ook : o.Ok) (he : EJ prog w hb n env ρ e (ruleD r)) (he' : EJ prog w hb n env ρ e' (ruleD o)) (hk : env.kindOf "_law_covers" = some .globalImplicit := by rfl) (hn : 3 ≤ n := by decide)
    (hs : ∀ env, starEach [e, e'] env = (false, eval e env) :: starEach [e'] env := by intro _; rfl) (hs' : ∀ env, starEach [e'] env = (false, eval e' env) :: starEach [] env := by intro _; rfl) : EJ prog w hb n env ρ (.Call (.Name "_law_covers" np) [e, e'] [] pos) (.bool (coversB r.steps o.steps)) :=
  EJ.callF B.W ok hk B.g8 B.f8 (AJ.cons he (AJ.cons he' AJ.nil (he := hs')) (he := hs)) ((covers_call B r o rok ook).mono hn) hs
theorem meet_call (B : Bs hb mg mb) (r o : R) (ok : r.Ok) (oko : o.Ok) : CallOK prog w hb 4 (.ref 152) [ruleD r, ruleD o] (.bool (meetB r o)) := by
  refine CallOK.fnL [("rule", ruleD r), ("other", ruleD o)] B.W B.f9 (fun q c L => ?_)
  refine XJ.ifRet (b := r.au != o.au) (CJ.of ?_) ?_ ?_
  · refine BJ.cmp (a := .str r.au) (b := .str o.au) ?_ ?_ cmp_ne_str
    · refine EJ.tupAt (ds := [strD r.host, strD r.steps, .str r.au]) ?_; kqd_all
    · refine EJ.tupAt (ds := [strD o.host, strD o.steps, .str o.au]) ?_; kqd_all
  · intro e
    rw [show meetB r o = false from by simp only [meetB, decide_eq_false (bne_iff_ne.mp e), Bool.false_and]]
    refine XJ.ret (SJ.ret (VJ.of ?_)); kqd_all
  intro e
  have e' : r.au = o.au := by simpa using e
  refine XJ.ifRet (b := !holdsB r.host o.host && (!holdsB o.host r.host && true)) (CJ.of (BJ.bool ?_)) ?_ ?_
  · refine AllB.and ?_ fun _ => AllB.and ?_ fun _ => AllB.and0
    · refine BJ.not (BJ.val ?_)
      refine B.holds okEnvS ok oko ?_ ?_ <;> kqd_all
    · refine BJ.not (BJ.val ?_)
      refine B.holds okEnvS oko ok ?_ ?_ <;> kqd_all
  · intro h
    rw [show meetB r o = false from by simp only [Bool.and_true, Bool.and_eq_true, Bool.not_eq_true'] at h; simp only [meetB, h.1, h.2, Bool.or_self, Bool.false_and, Bool.and_false]]
    refine XJ.ret (SJ.ret (VJ.of ?_)); kqd_all
  · intro h
    rw [show meetB r o = (coversB r.steps o.steps || coversB o.steps r.steps) from by
      have h2 : (holdsB r.host o.host || holdsB o.host r.host) = true := by
        cases h3 : holdsB r.host o.host <;> cases h4 : holdsB o.host r.host <;> rw [h3, h4] at h <;> first | rfl | cases h
      simp only [meetB, h2, e', decide_true, Bool.true_and]]
    refine XJ.ret (SJ.ret (VJ.of (EJ.bool ?_)))
    refine OpB.or ?_ fun _ => OpB.one ?_
    · refine B.covers okEnvS ok oko ?_ ?_ <;> kqd_all
    · refine B.covers okEnvS oko ok ?_ ?_ <;> kqd_all
theorem mask_call (B : Bs hb mg mb) (bs : List Bool) (hl : bs.length = 6) : CallOK prog w hb 3 (.ref 157) [.list (bs.map D.bool)] (.int (maskN bs)) := by
  refine CallOK.fn B.W B.f10 rfl (by decide) (fun y hy => .inr ?_) (fun q c L => ?_)
  · rw [List.mem_singleton.mp hy]; exact ⟨rfl, fun N => rfl⟩
  show XJ prog w hb 2 _ [("answers", .list (bs.map D.bool))] [] _ _
  have fr : ∀ {scope : Scope} {cl : List (Str × Addr)}, FreeOK (envS (pst 16) q c L 157) scope cl "answers" → Frees (envS (pst 16) q c L 157) scope cl [("answers", .list (bs.map D.bool))] [("answers", .list (bs.map D.bool))] := fun h => .cons (.head _) h .nil
  refine XJ.ifRet (b := false) (CJ.of ?_) (fun h => nomatch h) (fun _ => ?_)
  · refine BJ.cmp (a := .list []) (b := .list []) ?_ ?_ (cmp_ne (by rfl) (by rfl) (by simp))
    · refine NJ.ej ?_
      rw [show ([] : List D) = (bs.filter fun _ => false).map D.bool from by simp]
      refine NJ.compL bs D.bool (fun _ => false) D.bool okEnvS .nil (by omega) (SrcJ.list ?_) ?_ ?_
      · kqd_all
      · intro C cs hcs a ha
        refine TJ.one ?_
        refine BJ.cast (b := (a != true) && ((a != false) && true)) (by cases a <;> rfl) ?_
        refine BJ.bool (AllB.and ?_ fun _ => AllB.and ?_ fun _ => AllB.and0)
        · refine BJ.cmp (a := .bool a) (b := .bool true) (EJ.name (okC okEnvS) (.head _)) EJ.cbool cmp_isNot_bool
        · refine BJ.cmp (a := .bool a) (b := .bool false) (EJ.name (okC okEnvS) (.head _)) EJ.cbool cmp_isNot_bool
      · intro C cs hcs a ha h; cases h
    · kqd_all
  refine XJ.ret (SJ.ret (VJ.of ?_))
  refine EJ.callBi B.W okEnvS rfl (B.bi (v := .builtin "sum") rfl) (AJ.cons (d := .list (((maskL bs).map fun i => (2 : Int) ^ i).map D.int)) (NJ.ej ?_) AJ.nil) (call_sum.mono (Nat.zero_le _))
  rw [List.map_map]
  refine NJ.compL (List.range 6) (fun i => D.int (i : Int)) (fun i => bs.getD i false) (fun i => D.int ((2 : Int) ^ i)) okEnvS (fr ⟨.inl rfl, fun N => rfl, .inl rfl⟩) (by decide) (SrcJ.range (k := 6) B.W okEnvS rfl (B.bi rfl) EJ.cint (by decide)) ?_ ?_
  · intro C cs hcs i hi
    have hi' : i < 6 := List.mem_range.mp hi
    refine TJ.one (BJ.val ?_)
    refine EJ.sub (EJ.name (okC okEnvS) (.tail _ (.head _))) (EJ.name (okC okEnvS) (.head _)) (get_list (by omega) (by omega) ?_)
    rw [Int.toNat_natCast, List.getElem?_map, List.getElem?_eq_getElem (by omega)]
    simp [List.getD, List.getElem?_eq_getElem (show i < bs.length by omega)]
  · intro C cs hcs i hi _
    have hi' : i < 6 := List.mem_range.mp hi
    rw [show D.int ((2 : Int) ^ i) = D.int ((2 : Int) ^ (i : Int).toNat) from by rw [Int.toNat_natCast]]
    refine EJ.bin EJ.cint (EJ.name (okC okEnvS) (.head _)) (bin_pow_int (by omega) ?_)
    rw [show (Builtin.Int.intBits 2 : Int) = 2 from rfl]; omega
end
end Mine
end
section
open PySem PySem.W PySem.Calls PyProof.Rows
set_option maxRecDepth 100000
namespace Mine
theorem rp_plain : PlainAttrs "re.Pattern" :=
  ⟨⟨"object.__getattribute__", by rw [typeLookup_type, builtinLookup_eq_fast]; kernel_rfl, by decide +kernel⟩, by rw [typeLookup_type, builtinLookup_eq_fast]; kernel_rfl⟩
theorem rp_slot : Slot "re.Pattern" "search" "re.Pattern.search" :=
  .of (owner := "re.Pattern") (n := "search") (by rw [typeLookup_type, builtinLookup_eq_fast]; kernel_rfl) (by decide +kernel) (by decide +kernel) (by decide +kernel)
    (by first | exact .inl (by decide +kernel) | exact .inr (by decide +kernel)) (by rw [isSubtype_type]; kernel_rfl)
theorem rp_type : typeOf (.builtin "re.Pattern.search") = pure (.type "method_descriptor") := by show builtinType _ = _; rw [builtinType_eq_fast]; kernel_rfl
theorem rp_entry : entryFor table "re.Pattern.search" = some Builtin.«re.Pattern.search» := entryFor_of_tree (by kernel_rfl)
theorem rp_owner : Manifest.owners.lookup (String.ofList ['n', 'r', 'e', 't', 't', 'a', 'P', '.', 'e', 'r'].reverse) = some («Manifest».sig_re_Pattern) := by kernel_rfl
theorem rp_args (a b : Value) : argsOk "re.Pattern.search" ⟨[a, b], []⟩ := by
  unfold argsOk; rw [signature?_of (id := "re.Pattern.search") (n := ['h', 'c', 'r', 'a', 'e', 's']) (o := ['n', 'r', 'e', 't', 't', 'a', 'P', '.', 'e', 'r']) (by kernel_rfl) rp_owner]; kernel_rfl
theorem rm_bool : typeLookup (.type "re.Match") "__bool__" = pure none := by rw [typeLookup_type, builtinLookup_eq_fast]; kernel_rfl
theorem rm_len : typeLookup (.type "re.Match") "__len__" = pure none := by rw [typeLookup_type, builtinLookup_eq_fast]; kernel_rfl
end Mine
end
section
open PySem
set_option maxRecDepth 100000
namespace Mine
open Sre
def ipc : Array Nat := #[14, 8, 1, 2, 4294967295, 1, 1, 46, 0, 16, 46, 24, 9, 1, 4294967295, 13, 4, 8, 0, 0, 1, 6, 5, 1]
/-- the machine at a start -/
def mAt (t : Array Nat) (s : Nat) (seen : Sre.Seen) (first : Bool) : M :=
  { code := ipc, text := t, lim := t.size, start := s, lastStart := t.size, pc := 9, pos := s, handed := s, outermost := first, marks := #[], frames := [{ wait := .nextStart, pc := 9, pos := s, outermost := first }], weight := 1, seen }
def done (m : M) (yes : Bool) : Prop := m.outcome = some (if yes then .matched else .failed)
theorem runFor_add (a b : Nat) (m : M) : M.runFor (a + b) m = M.runFor b (M.runFor a m) := by
  induction a generalizing m with
  | zero => rw [Nat.zero_add]; rfl
  | succ a ih =>
    rw [Nat.succ_add]
    show (if m.outcome.isSome then m else M.runFor (a + b) m.step) = M.runFor b (if m.outcome.isSome then m else M.runFor a m.step)
    by_cases h : m.outcome.isSome = true
    · rw [if_pos h, if_pos h]
      cases b with
      | zero => rfl
      | succ b => show m = (if m.outcome.isSome then m else M.runFor b m.step); rw [if_pos h]
    · rw [if_neg h, if_neg h]; exact ih _
theorem runFor_one {m : M} (h : m.outcome = none) : M.runFor 1 m = m.step := by
  show (if m.outcome.isSome then m else m.step) = m.step
  rw [h]; rfl
theorem run_two {m : M} (h : m.outcome = none) (h' : m.step.outcome = none) : M.runFor 2 m = m.step.step := by
  rw [show 2 = 1 + 1 from rfl, runFor_add, runFor_one h, runFor_one h']
theorem sets (c : Nat) (seen : Sre.Seen) : ∃ seen', accepts ipc 15 c seen = .ok (isDigit c, seen') := by
  by_cases h : isDigit c = true
  · refine ⟨(seen.add 8).add 55, ?_⟩
    show (do if ← (Except.ok (isDigit c)).map (· != false) then pure (true, _) else _ : Except String (Bool × Sre.Seen)) = _
    rw [h]; rfl
  · have h' : isDigit c = false := by simpa using h
    refine ⟨((seen.add 8).add 55).add 0, ?_⟩
    show (do if ← (Except.ok (isDigit c)).map (· != false) then pure (true, _) else _ : Except String (Bool × Sre.Seen)) = _
    rw [h']; rfl
theorem lit_no (t : Array Nat) (s : Nat) (seen : Sre.Seen) (first : Bool) (h : t.size ≤ s ∨ t.getD s 0 ≠ 46) : ∃ seen', (mAt t s seen first).step = { mAt t s seen' first with answer := some false } := by
  show ∃ seen', (if s ≥ t.size then _ else match (Except.ok (t.getD s 0 == 46, seen.add 16) : Except String (Bool × Sre.Seen)) with | .error why => _ | .ok (false, seen) => _ | .ok (true, seen) => _ : M) = _
  by_cases hs : t.size ≤ s
  · rw [if_pos hs]; exact ⟨_, rfl⟩
  · rw [if_neg hs]
    rw [show (t.getD s 0 == 46) = false from by rcases h with h | h; omega; simpa using h]
    exact ⟨_, rfl⟩
theorem lit_yes (t : Array Nat) (s : Nat) (seen : Sre.Seen) (first : Bool) (h : s < t.size) (hc : t.getD s 0 = 46) : ∃ seen', (mAt t s seen first).step = { mAt t s seen' first with pc := 11, pos := s + 1 } := by
  show ∃ seen', (if s ≥ t.size then _ else match (Except.ok (t.getD s 0 == 46, seen.add 16) : Except String (Bool × Sre.Seen)) with | .error why => _ | .ok (false, seen) => _ | .ok (true, seen) => _ : M) = _
  rw [if_neg (by omega), hc]
  exact ⟨_, rfl⟩
theorem next (t : Array Nat) (s : Nat) (seen : Sre.Seen) (first : Bool) (pc pos hh : Nat) (o : Bool) (h : s < t.size) : ({ mAt t s seen first with answer := some false, pc := pc, pos := pos, handed := hh, outermost := o } : M).step = mAt t (s + 1) seen false := by
  show (if s < t.size then _ else _ : M) = _
  rw [if_pos h]; rfl
theorem last (t : Array Nat) (s : Nat) (seen : Sre.Seen) (first : Bool) (pc pos hh : Nat) (o : Bool) (h : t.size ≤ s) : done (M.runFor 2 ({ mAt t s seen first with answer := some false, pc := pc, pos := pos, handed := hh, outermost := o } : M)) false := by
  have : ({ mAt t s seen first with answer := some false, pc := pc, pos := pos, handed := hh, outermost := o } : M).step = { mAt t s seen first with answer := some false, pc := 9, handed := hh, frames := [], weight := 0 } := by
    show (if s < t.size then _ else _ : M) = _
    rw [if_neg (by omega)]; rfl
  rw [run_two rfl (by rw [this]; rfl), this]; rfl
/-- a dot, and no figure -/
theorem dot_no (t : Array Nat) (s : Nat) (seen : Sre.Seen) (first : Bool) (h : s < t.size) (hd : s + 1 < t.size → isDigit (t.getD (s + 1) 0) = false) :
    ∃ seen', ({ mAt t s seen first with pc := 11, pos := s + 1 } : M).step = { mAt t s seen' first with answer := some false, pc := 11, pos := s + 1 } := by
  by_cases h1 : s + 1 < t.size
  · obtain ⟨seen', e⟩ := sets (t.getD (s + 1) 0) ((seen.add 24).add 13)
    rw [hd h1] at e
    refine ⟨seen', ?_⟩
    show (if ((1 : Nat) : Int) > (t.size : Int) - ((s + 1 : Nat) : Int) then _ else match run ipc t 15 (min 4294967295 ((t.size : Int) - ((s + 1 : Nat) : Int)).toNat) (s + 1) 0 ((seen.add 24).add 13) with | .error why => _ | .ok (n, seen) => _ : M) = _
    rw [if_neg (by omega)]
    obtain ⟨k, hk⟩ : ∃ k, min 4294967295 ((t.size : Int) - ((s + 1 : Nat) : Int)).toNat = k + 1 := ⟨min 4294967295 ((t.size : Int) - ((s + 1 : Nat) : Int)).toNat - 1, by omega⟩
    rw [hk]
    have er : run ipc t 15 (k + 1) (s + 1) 0 ((seen.add 24).add 13) = .ok (0, seen') := by
      show (do let (yes, seen) ← accepts ipc 15 (t.getD (s + 1) 0) ((seen.add 24).add 13); if yes then _ else pure (0, seen) : Except String (Nat × Sre.Seen)) = _
      rw [e]; rfl
    rw [er]; rfl
  · refine ⟨seen.add 24, ?_⟩
    show (if ((1 : Nat) : Int) > (t.size : Int) - ((s + 1 : Nat) : Int) then _ else _ : M) = _
    rw [if_pos (by omega)]; rfl
/-- a dot, one figure: the rest is tried -/
def mEnd (t : Array Nat) (s : Nat) (seen : Sre.Seen) (first : Bool) : M :=
  { mAt t s seen first with pc := 21, pos := s + 2, handed := s + 2, weight := 2, frames := { wait := .giveBack, pc := 11, pos := s + 2, outermost := first, count := 1, kept := { lastmark := -1, lastindex := -1, whole := false, marks := #[] } } :: (mAt t s seen first).frames }
theorem dot_one (t : Array Nat) (s : Nat) (seen : Sre.Seen) (first : Bool) (h : s + 1 < t.size) (hd : isDigit (t.getD (s + 1) 0) = true) (hn : s + 2 < t.size → isDigit (t.getD (s + 2) 0) = false) :
    ∃ seen', ({ mAt t s seen first with pc := 11, pos := s + 1 } : M).step = mEnd t s seen' first := by
  obtain ⟨seen1, e⟩ := sets (t.getD (s + 1) 0) ((seen.add 24).add 13)
  rw [hd] at e
  have er : ∃ seen', run ipc t 15 (min 4294967295 ((t.size : Int) - ((s + 1 : Nat) : Int)).toNat) (s + 1) 0 ((seen.add 24).add 13) = .ok (1, seen') := by
    obtain ⟨k, hk⟩ : ∃ k, min 4294967295 ((t.size : Int) - ((s + 1 : Nat) : Int)).toNat = k + 1 := ⟨min 4294967295 ((t.size : Int) - ((s + 1 : Nat) : Int)).toNat - 1, by omega⟩
    rw [hk]
    have e1 : run ipc t 15 (k + 1) (s + 1) 0 ((seen.add 24).add 13) = run ipc t 15 k (s + 2) 1 seen1 := by
      show (do let (yes, seen) ← accepts ipc 15 (t.getD (s + 1) 0) ((seen.add 24).add 13); if yes then run ipc t 15 k (s + 2) 1 seen else pure (0, seen) : Except String (Nat × Sre.Seen)) = _
      rw [e]; rfl
    rw [e1]
    cases k with
    | zero => exact ⟨seen1, rfl⟩
    | succ k =>
      obtain ⟨seen2, e2⟩ := sets (t.getD (s + 2) 0) seen1
      rw [hn (by omega)] at e2
      refine ⟨seen2, ?_⟩
      show (do let (yes, seen) ← accepts ipc 15 (t.getD (s + 2) 0) seen1; if yes then _ else pure (1, seen) : Except String (Nat × Sre.Seen)) = _
      rw [e2]; rfl
  obtain ⟨seen', er⟩ := er
  refine ⟨seen', ?_⟩
  show (if ((1 : Nat) : Int) > (t.size : Int) - ((s + 1 : Nat) : Int) then _ else match run ipc t 15 (min 4294967295 ((t.size : Int) - ((s + 1 : Nat) : Int)).toNat) (s + 1) 0 ((seen.add 24).add 13) with | .error why => _ | .ok (n, seen) => _ : M) = _
  rw [if_neg (by omega), er]; rfl
theorem end_no (t : Array Nat) (s : Nat) (seen : Sre.Seen) (first : Bool) (h : s + 2 < t.size) (hn : t.getD (s + 2) 0 ≠ 10) :
    ∃ seen', M.runFor 2 (mEnd t s seen first) = { mAt t s seen' first with answer := some false, pc := 11, pos := s + 2, handed := s + 2 } := by
  have e1 : ∃ seen', (mEnd t s seen first).step = { mEnd t s seen' first with answer := some false } := by
    refine ⟨((seen.add 6).add 48), ?_⟩
    show (match (Except.ok (s + 2 == t.size || (s + 2 + 1 == t.size && t.getD (s + 2) 0 == 10)) : Except String Bool) with | .error why => (mEnd t s (seen.add 6) first).stick why | .ok yes => if yes = true then { mEnd t s ((seen.add 6).add 48) first with pc := 23 } else { mEnd t s ((seen.add 6).add 48) first with answer := some false } : M) = _
    rw [show (s + 2 == t.size || (s + 2 + 1 == t.size && t.getD (s + 2) 0 == 10)) = false from by
      rw [show (s + 2 == t.size) = false from by simpa using (by omega : s + 2 ≠ t.size), show (t.getD (s + 2) 0 == 10) = false from by simpa using hn, Bool.and_false, Bool.or_false]]
    rfl
  obtain ⟨seen', e1⟩ := e1
  refine ⟨seen', ?_⟩
  rw [run_two rfl (by rw [e1]; rfl), e1]; rfl
theorem end_yes (t : Array Nat) (s : Nat) (seen : Sre.Seen) (first : Bool) (h : s + 2 = t.size) : done (M.runFor 5 (mEnd t s seen first)) true := by
  have e1 : (mEnd t s seen first).step = { mEnd t s ((seen.add 6).add 48) first with pc := 23 } := by
    show (match (Except.ok (s + 2 == t.size || (s + 2 + 1 == t.size && t.getD (s + 2) 0 == 10)) : Except String Bool) with | .error why => (mEnd t s (seen.add 6) first).stick why | .ok yes => if yes = true then { mEnd t s ((seen.add 6).add 48) first with pc := 23 } else { mEnd t s ((seen.add 6).add 48) first with answer := some false } : M) = _
    rw [show (s + 2 == t.size) = true from by simpa using h]
    rfl
  rw [show 5 = 1 + 4 from rfl, runFor_add, runFor_one rfl, e1]
  cases first <;> rfl
/-- a start that fails -/
theorem try_no (t : Array Nat) (s : Nat) (seen : Sre.Seen) (first : Bool) (h : s < t.size) (hno : ¬ (t.getD s 0 = 46 ∧ s + 2 = t.size ∧ isDigit (t.getD (s + 1) 0) = true))
    (h2 : s + 2 < t.size → isDigit (t.getD (s + 1) 0) = true → isDigit (t.getD (s + 2) 0) = false ∧ t.getD (s + 2) 0 ≠ 10) : ∃ n seen', n ≤ 8 ∧ M.runFor n (mAt t s seen first) = mAt t (s + 1) seen' false := by
  by_cases hc : t.getD s 0 = 46
  · obtain ⟨s1, e1⟩ := lit_yes t s seen first h hc
    by_cases hd : s + 1 < t.size ∧ isDigit (t.getD (s + 1) 0) = true
    · have h3 : s + 2 < t.size := by
        rcases Nat.lt_or_ge (s + 2) t.size with q | q
        · exact q
        · exact (hno ⟨hc, by omega, hd.2⟩).elim
      obtain ⟨g1, g2⟩ := h2 h3 hd.2
      obtain ⟨s2, e2⟩ := dot_one t s s1 first hd.1 hd.2 (fun _ => g1)
      obtain ⟨s3, e3⟩ := end_no t s s2 first h3 g2
      refine ⟨5, s3, by omega, ?_⟩
      rw [show 5 = 2 + (2 + 1) from rfl, runFor_add, run_two rfl (by rw [e1]; rfl), e1, e2, runFor_add, e3, runFor_one rfl]
      exact next t s s3 first 11 (s + 2) (s + 2) first h
    · obtain ⟨s2, e2⟩ := dot_no t s s1 first h (fun q => by
        cases hq : isDigit (t.getD (s + 1) 0) with
        | false => rfl
        | true => exact (hd ⟨q, hq⟩).elim)
      refine ⟨3, s2, by omega, ?_⟩
      rw [show 3 = 2 + 1 from rfl, runFor_add, run_two rfl (by rw [e1]; rfl), e1, e2, runFor_one rfl]
      exact next t s s2 first 11 (s + 1) s first h
  · obtain ⟨s1, e1⟩ := lit_no t s seen first (.inr hc)
    refine ⟨2, s1, by omega, ?_⟩
    rw [run_two rfl (by rw [e1]; rfl), e1]
    exact next t s s1 first 9 s s first h
/-- the text ends in a dot and a figure -/
def ends7 (t : Array Nat) : Bool := decide (2 ≤ t.size) && (t.getD (t.size - 2) 0 == 46 && isDigit (t.getD (t.size - 1) 0))
/-- no two figures side by side; no line ends -/
def Tame (t : Array Nat) : Prop := ∀ i, i + 1 < t.size → isDigit (t.getD i 0) = true → isDigit (t.getD (i + 1) 0) = false ∧ t.getD (i + 1) 0 ≠ 10
theorem run_no (t : Array Nat) (ht : Tame t) (he : ends7 t = false) : ∀ (k s : Nat) (seen : Sre.Seen) (first : Bool), s + k = t.size → ∃ n, n ≤ 8 * k + 8 ∧ done (M.runFor n (mAt t s seen first)) false := by
  intro k
  induction k with
  | zero =>
    intro s seen first hs
    obtain ⟨s1, e1⟩ := lit_no t s seen first (.inl (by omega))
    refine ⟨1 + 2, by omega, ?_⟩
    rw [runFor_add, runFor_one rfl, e1]
    exact last t s s1 first 9 s s first (by omega)
  | succ k ih =>
    intro s seen first hs
    obtain ⟨n, s', hn, e⟩ := try_no t s seen first (by omega) (fun ⟨a, b, c⟩ => by
      have : ends7 t = true := by
        simp only [ends7, Bool.and_eq_true, decide_eq_true_eq, beq_iff_eq]
        refine ⟨by omega, ?_, ?_⟩
        · rw [show t.size - 2 = s from by omega]; exact a
        · rw [show t.size - 1 = s + 1 from by omega]; exact c
      rw [this] at he; cases he) (fun a b => ht (s + 1) (by omega) b)
    obtain ⟨m, hm, d⟩ := ih (s + 1) s' false (by omega)
    exact ⟨n + m, by omega, by rw [runFor_add, e]; exact d⟩
theorem run_yes (t : Array Nat) (ht : Tame t) (he : ends7 t = true) : ∀ (k s : Nat) (seen : Sre.Seen) (first : Bool), s + k + 2 = t.size → ∃ n, n ≤ 8 * k + 8 ∧ done (M.runFor n (mAt t s seen first)) true := by
  simp only [ends7, Bool.and_eq_true, decide_eq_true_eq, beq_iff_eq] at he
  intro k
  induction k with
  | zero =>
    intro s seen first hs
    have a : t.getD s 0 = 46 := by rw [show s = t.size - 2 from by omega]; exact he.2.1
    have b : isDigit (t.getD (s + 1) 0) = true := by rw [show s + 1 = t.size - 1 from by omega]; exact he.2.2
    obtain ⟨s1, e1⟩ := lit_yes t s seen first (by omega) a
    obtain ⟨s2, e2⟩ := dot_one t s s1 first (by omega) b (fun q => by omega)
    refine ⟨2 + 5, by omega, ?_⟩
    rw [runFor_add, run_two rfl (by rw [e1]; rfl), e1, e2]
    exact end_yes t s s2 first (by omega)
  | succ k ih =>
    intro s seen first hs
    obtain ⟨n, s', hn, e⟩ := try_no t s seen first (by omega) (fun ⟨a, b, c⟩ => by omega) (fun a b => ht (s + 1) (by omega) b)
    obtain ⟨m, hm, d⟩ := ih (s + 1) s' false (by omega)
    exact ⟨n + m, by omega, by rw [runFor_add, e]; exact d⟩
theorem search_runs (t : Array Nat) (ht : Tame t) : ∃ n, n ≤ 8 * t.size + 16 ∧ done (M.runFor n (forSearch ipc t 0 0 t.size false)) (ends7 t) := by
  by_cases hs : t.size < 2
  · have e : ends7 t = false := by simp only [ends7, Bool.and_eq_false_iff]; exact .inl (by simpa using hs)
    refine ⟨1, by omega, ?_⟩
    have : forSearch ipc t 0 0 t.size false = { code := ipc, text := t, lim := t.size, start := 0, pc := 9, pos := 0, handed := 0, marks := #[], seen := ({} : Sre.Seen).add 14, answer := some false } := by
      show (if (decide (0 > t.size) || decide (t.size - 0 < 2)) = true then _ else _ : M) = _
      rw [if_pos (by simp; omega)]; rfl
    rw [this, e, runFor_one rfl]; rfl
  · have : forSearch ipc t 0 0 t.size false = mAt t 0 (({} : Sre.Seen).add 14) true := by
      show (if (decide (0 > t.size) || decide (t.size - 0 < 2)) = true then _ else _ : M) = _
      rw [if_neg (by simp; omega)]; rfl
    rw [this]
    cases e : ends7 t with
    | false =>
      obtain ⟨n, hn, d⟩ := run_no t ht e t.size 0 (({} : Sre.Seen).add 14) true (by omega)
      exact ⟨n, by omega, d⟩
    | true =>
      obtain ⟨n, hn, d⟩ := run_yes t ht e (t.size - 2) 0 (({} : Sre.Seen).add 14) true (by omega)
      exact ⟨n, by omega, d⟩

end Mine
end
section
open PySem PySem.W PySem.Calls PyProof.Rows
set_option maxRecDepth 100000
namespace Mine
open PySem.Builtin PySem.Builtin.Re
theorem done.some {m : Sre.M} {b : Bool} (h : done m b) : m.outcome.isSome = true := by unfold done at h; rw [h]; rfl
theorem done.stay {m : Sre.M} {b : Bool} (h : done m b) (k : Nat) : Sre.M.runFor k m = m := by
  cases k with
  | zero => rfl
  | succ k => show (if m.outcome.isSome then m else _) = m; rw [if_pos h.some]
section
variable {prog : Program} {w : World} {hb : Heap} {mg mb : Str → Option Value} {n : Nat} {env : Env} {ρ : Rho}
theorem drive {M : Model} {A : Around} {E : Value → Shared → Prop} {s : Shared} {b : Bool} {Q : Sre.M → Shared → Prop} (hQ : ∀ m, done m b → Q m s) :
    ∀ (k n : Nat) (m : Sre.M), done (Sre.M.runFor n m) b → n ≤ 4 * k → 1 ≤ k → wpAny M A (reDrive k m) Q E s := by
  intro k
  induction k with
  | zero => intro n m _ _ h; omega
  | succ k ih =>
    intro n m d hn _
    show wpAny M A (if (Sre.M.runFor 4 m).outcome.isSome = true then pure (Sre.M.runFor 4 m) else do rule "sre.turn"; reDrive k (Sre.M.runFor 4 m)) Q E s
    by_cases h4 : n ≤ 4
    · have e : Sre.M.runFor 4 m = Sre.M.runFor n m := by
        rw [show 4 = n + (4 - n) from by omega, runFor_add, d.stay]
      rw [e, if_pos d.some]; exact wpAny_pure (hQ _ d)
    · split
      · rename_i h
        refine wpAny_pure (hQ _ ?_)
        have e : Sre.M.runFor n m = Sre.M.runFor 4 m := by
          rw [show n = 4 + (n - 4) from by omega, runFor_add]
          cases n - 4 with
          | zero => rfl
          | succ j => show (if (Sre.M.runFor 4 m).outcome.isSome = true then _ else _) = _; rw [if_pos h]
        rw [← e]; exact d
      · refine wpAny_bind (wpAny_rule (ih (n - 4) _ ?_ (by omega) (by omega)))
        rw [← runFor_add, show 4 + (n - 4) = n from by omega]; exact d
theorem toEnd {M : Model} {A : Around} {E : Value → Shared → Prop} {s : Shared} {b : Bool} {m : Sre.M} {n : Nat} {Q : Option Sre.M → Shared → Prop} (d : done (Sre.M.runFor n m) b) (hn : n ≤ 4 * 2 ^ 64)
    (hQ : ∀ r, (b = true → ∃ m', r = some m') → (b = false → r = none) → Q r s) : wpAny M A (reRunToEnd m) Q E s := by
  unfold reRunToEnd
  refine wpAny_bind (drive (b := b) (fun m' d' => ?_) (2 ^ 64) n m d hn (by decide))
  refine wpAny_bind (wpAny_forIn_list _ (fun _ _ s' => s' = s) _ ?_ ?_ _ _ rfl)
  · intro x rest u s' hs'
    split
    · exact wpAny_bind (wpAny_rule (wpAny_pure hs'))
    · exact wpAny_pure hs'
  · rintro u s' rfl
    unfold done at d'
    rw [d']
    cases b with
    | true => exact wpAny_pure (hQ _ (fun _ => ⟨m', rfl⟩) (fun h => nomatch h))
    | false => exact wpAny_pure (hQ _ (fun h => nomatch h) (fun _ => rfl))
/-- the pattern lies at 43 -/
def IpAt (hb : Heap) : Prop := ∃ o fs o' xs k, hb.get? 43 = some o ∧ o.cls = .type "re.Pattern" ∧ o.dict = none ∧ o.data = .fields fs ∧ fs.getD 5 .none = .ref 42 ∧ reRawNat (fs.getD 6 .none) = 0 ∧ reRawNat (fs.getD 2 .none) = 0 ∧
  hb.get? 42 = some o' ∧ o'.data = .seq xs k ∧ (xs.map reRawOf).map (·.toNat) = ipc
theorem truthy_rm {M : Model} {A : Around} {E : Value → Shared → Prop} {s : Shared} {a : Addr} {Q : Bool → Shared → Prop} (hT : s.TypeIs (.ref a) "re.Match") (h : Q true s) : wpAny M A (truthy (.ref a)) Q E s := by
  unfold truthy
  first
    | refine wpAny_bind (wpAny_callSpecial?_none (name := Str.ofString "__bool__") hT rm_bool ?_)
    | refine wpAny_bind (wpAny_pure (wpAny_bind (wpAny_callSpecial?_none (name := Str.ofString "__bool__") hT rm_bool ?_)))
  first
    | refine wpAny_bind (wpAny_specialOf (name := Str.ofString "__len__") hT rm_len ?_)
    | refine wpAny_bind (wpAny_pure (wpAny_bind (wpAny_specialOf (name := Str.ofString "__len__") hT rm_len ?_)))
  exact wpAny_pure h
theorem search_body {M : Model} {A : Around} {E : Value → Shared → Prop} {s : Shared} {F : FMap} (S : Sub F s.heap) (hk : ∀ b o, hb.get? b = some o → s.heap.get? b = some o) (I : IpAt hb) {x : Str} {t : Tok} (ht : Tame x.cps) (hx : x.cps.size ≤ 1000)
    {Q : Fin → Shared → Prop} (h0 : ends7 x.cps = false → Q (.done (.ret .none)) s) (h1 : ends7 x.cps = true → ∀ a s', Ext s F s' F → s'.TypeIs (.ref a) "re.Match" → Q (.done (.ret (.ref a))) s') :
    wpAny M A («re.Pattern.search» ⟨[.ref 43, .str x t], []⟩) Q E s := by
  obtain ⟨o, fs, o', xs, k, g43, gc, gd, gf, f5, f6, f2, g42, gs, gx⟩ := I
  unfold «re.Pattern.search»
  refine wpAny_bind (Q := _) ?_
  have eT : wpAny M A (reTarget "re.Pattern.search" "search" ⟨[.ref 43, .str x t], []⟩) (fun T s' => s' = s ∧ T = ⟨.ref 43, .str x t, ipc, x.cps, 0, 0, 0, x.cps.size⟩) E s := by
    unfold reTarget
    show wpAny M A (Bind.bind (fieldsOf (.ref 43)) _) _ E s
    refine wpAny_bind (wpAny_fieldsOf (hk _ _ g43) gf ?_)
    rw [f6, f5, f2]
    refine wpAny_bind (wpAny_pure (wpAny_bind (wpAny_pure (wpAny_bind ?_))))
    unfold reRawItems
    refine wpAny_bind (wpAny_seqItems (hk _ _ g42) gs (wpAny_pure ?_))
    refine wpAny_pure ⟨rfl, ?_⟩
    have e1 : ((some xs).getD #[]).map reRawOf = xs.map reRawOf := rfl
    rw [e1, gx]
    have e2 : min ((2 : Int) ^ 63 - 1).toNat x.cps.size = x.cps.size := Nat.min_eq_right (Nat.le_trans hx (by decide))
    have e3 : min (0 : Int).toNat x.cps.size = 0 := Nat.zero_min _
    show ReTarget.mk (.ref 43) (.str x t) ipc x.cps 0 0 (min (0 : Int).toNat x.cps.size) (min ((2 : Int) ^ 63 - 1).toNat x.cps.size) = _
    rw [e2, e3]
  refine wpAny_mono eT ?_ (fun _ _ e => e)
  rintro T s' ⟨rfl, rfl⟩
  obtain ⟨n, hn, d⟩ := search_runs x.cps ht
  unfold reAnswer
  refine wpAny_bind (toEnd d (by omega) (fun r r1 r0 => ?_))
  cases e : ends7 x.cps with
  | false => rw [r0 e]; exact wpAny_pure (h0 e)
  | true =>
    obtain ⟨m', rfl⟩ := r1 e
    show wpAny M A (do ret (← reNewMatch (.ref 43) (.str x t) 0 0 x.cps.size m')) Q E s'
    refine wpAny_bind ?_
    show wpAny M A (do newFields "re.Match" [.str x t, .ref 43, rawInt 0, rawInt x.cps.size, rawInt m'.lastindex, ← newTuple [rawInt m'.start, rawInt m'.handed]]) _ E s'
    refine wpAny_bind (wpAny_newTuple ?_)
    have x1 := Ext.pushOff (s := s') (F := F) S { cls := .type "tuple", data := .seq [rawInt m'.start, rawInt m'.handed].toArray }
    refine wpAny_newObj_type (T := "re.Match") (wpAny_pure (h1 e _ _ (x1.trans (Ext.pushOff x1.sub _)) ⟨_, Heap.get?_push_size _ rfl, rfl⟩))
end
end Mine
end
section
open PySem PySem.W PySem.Calls PyProof.Rows
set_option maxRecDepth 100000
namespace Mine
local macro_rules | `(tactic| kqd_in) => `(tactic| first | (with_reducible exact List.mem_cons_self) | (refine List.mem_cons_of_mem _ ?_; kqd_in))
local macro_rules | `(tactic| kqd_all) => `(tactic| first
  | (with_reducible exact EJ.cint) | (with_reducible exact EJ.cstr) | (with_reducible exact EJ.cbool) | (with_reducible exact EJ.cnone)
  | ((with_reducible refine EJ.name ?_ ?_ ?_ ?_); exact okEnvS; kqd_in; decide; decide)
  | (with_reducible exact AJ.nil)
  | ((with_reducible refine AJ.cons ?_ ?_ ?_); kqd_all; kqd_all; (intro _; rfl))
  | ((with_reducible refine EJ.un ?_ ?_); kqd_all; exact un_neg)
  | ((with_reducible refine EJ.tup ?_ ?_); kqd_all; exact Nat.le_of_ble_eq_true rfl)
  | ((with_reducible refine EJ.list ?_ ?_); kqd_all; exact Nat.le_of_ble_eq_true rfl)
  | ((refine EJ.list ?_ ?_); kqd_all; exact Nat.le_of_ble_eq_true rfl)
  | ((refine AJ.cons ?_ ?_ ?_); kqd_all; kqd_all; (intro _; rfl))
  | ((refine EJ.tup ?_ ?_); kqd_all; exact Nat.le_of_ble_eq_true rfl)
  | exact AJ.nil | exact EJ.cstr | exact EJ.cint | exact EJ.cbool)
/-- a text that the pattern may meet -/
structure TOk (x : Str) : Prop where
  tame : Tame x.cps
  short : x.length ≤ 1000
section
variable {prog : Program} {w : World} {hb : Heap} {mg mb : Str → Option Value} {n : Nat} {env : Env} {ρ : Rho} {Ω : Owns}
theorem BJ.ip (B : Bs hb mg mb) (I : IpAt hb) {np apos pos : Pos} {e : Expr} {x : Str} (ok : EnvOk env) (tx : TOk x) (he : EJ prog w hb n env ρ e (.str x)) (hk : env.kindOf "IPV4_RE" = some .globalImplicit := by rfl)
    (ht : ∀ env : Env, isTrue (.Call (.Attribute (.Name "IPV4_RE" np) "search" apos) [e] [] pos) env (eval (.Call (.Attribute (.Name "IPV4_RE" np) "search" apos) [e] [] pos) env) = (do let v ← eval (.Call (.Attribute (.Name "IPV4_RE" np) "search" apos) [e] [] pos) env; standAt pos; holding [v] (truthy v)) := by intro _; rfl)
    (hc : ∀ env, ∃ pl, eval (.Call (.Attribute (.Name "IPV4_RE" np) "search" apos) [e] [] pos) env = (do
      let ov ← eval (.Name "IPV4_RE" np) env
      standAt apos.atName
      let (f, first) ← holding [ov] (getMethod ov "search" pl)
      callWith pos f first (backTo pos (starEach [e] env)) []) := by intro _; exact ⟨_, rfl⟩)
    (hs : ∀ env, starEach [e] env = (false, eval e env) :: starEach [] env := by intro _; rfl) (hp : ∀ env, (backTo pos (starEach [] env)).any (·.1) = false := by intro _; rfl) :
    BJ prog w hb n env ρ (.Call (.Attribute (.Name "IPV4_RE" np) "search" apos) [e] [] pos) (ends7 x.cps) := by
  intro A hA s F S E
  rw [ht]
  refine wpAny_bind ?_
  obtain ⟨pl, hc⟩ := hc env
  obtain ⟨o, fs, o', xs, k, g43, gc, gd, gr⟩ := id I
  refine MethodCall_ (pl := pl) (eval_global B.W ok S.keep hk (.inl B.g12) ?_) hc
  refine getMethod_builtin (T := "re.Pattern") ⟨o, S.keep _ _ g43, gc⟩ rp_plain rp_slot rp_type (fun a ha => ?_) ?_
  · injection ha with ha; subst ha; exact ⟨o, S.keep _ _ g43, gd⟩
  refine callWith_method1 (wpAny_mono ((AJ.cons he AJ.nil (he := hs)) pos A hA s F S E) (fun vs s₁ h₁ => ?_) fun _ _ e => e) (hs env) (hp env)
  obtain ⟨F₁, x₁, i₁⟩ := h₁
  have S₁ := S.ext x₁
  cases i₁ with
  | cons i j =>
    cases j; cases i
    rename_i t
    refine wpAny_call (codeAny_call_builtin rp_slot.plain rp_entry (rp_slot.check _ _ _ _ _ _ _ _ ⟨o, S₁.keep _ _ g43, gc⟩ (rp_args _ _) ?_))
    refine search_body S₁.sub S₁.keep I tx.tame tx.short (fun e0 => ?_) (fun e1 a s₂ x₂ hT => ?_)
    · show wpAny _ A _ _ E s₁
      refine wpAny_bind (wpAny_standAt (wpAny_holding ?_))
      rw [e0]; exact wpAny_pure ⟨rfl, F₁, x₁⟩
    · show wpAny _ A _ _ E s₂
      refine wpAny_bind (wpAny_standAt (wpAny_holding ?_))
      rw [e1]; exact truthy_rm hT ⟨rfl, F₁, x₁.trans x₂⟩
theorem lib_call (B : Bs hb mg mb) (I : IpAt hb) (x : Str) (tx : TOk x) : CallOK prog w hb 2 (.ref 57) [.str x] (.bool (!ends7 x.cps)) := by
  refine CallOK.fnL [("text", .str x)] B.W B.f2 (fun q c L => ?_)
  refine XJ.ifRet (b := ends7 x.cps) (CJ.of ?_) ?_ ?_
  · refine BJ.ip B I okEnvS tx ?_; kqd_all
  · intro e; rw [e]; refine XJ.ret (SJ.ret (VJ.of ?_)); exact EJ.cbool
  · intro e; rw [e]; refine XJ.ret (SJ.ret (VJ.of ?_)); exact EJ.cbool
theorem Bs.lib (B : Bs hb mg mb) (I : IpAt hb) {e : Expr} {np pos : Pos} {x : Str} (ok : EnvOk env) (tx : TOk x) (he : EJ prog w hb n env ρ e (.str x)) (hk : env.kindOf "liberal_is_HDN" = some .globalImplicit := by rfl) (hn : 2 ≤ n := by decide)
    (hs : ∀ env, starEach [e] env = (false, eval e env) :: starEach [] env := by intro _; rfl) : EJ prog w hb n env ρ (.Call (.Name "liberal_is_HDN" np) [e] [] pos) (.bool (!ends7 x.cps)) :=
  EJ.callF B.W ok hk B.g2 B.f2 (AJ.cons he AJ.nil (he := hs)) ((lib_call B I x tx).mono hn) hs
/-- a text that opens and ends without a dot -/
structure NDot (x : Str) : Prop where
  ne : (x == "") = false
  h0 : (Txt.charAt x 0).isSome = true
  h1 : (Txt.charAt x (-1)).isSome = true
  e0 : (Txt.item x 0 == ".") = false
  e1 : (Txt.item x (-1) == ".") = false
theorem hdn_call (B : Bs hb mg mb) (I : IpAt hb) (x : Str) (tx : TOk x) (nx : NDot x) : CallOK prog w hb 2 (.ref 50) [.str x] (.bool (!ends7 x.cps)) := by
  refine CallOK.fnL [("text", .str x)] B.W B.f1 (fun q c L => ?_)
  refine XJ.ifRet (b := ends7 x.cps) (CJ.of ?_) ?_ ?_
  · refine BJ.ip B I okEnvS tx ?_; kqd_all
  · intro e; rw [e]; refine XJ.ret (SJ.ret (VJ.of ?_)); exact EJ.cbool
  intro e
  rw [e]
  refine XJ.ifRet (b := x == "") (CJ.of ?_) (fun h => by rw [nx.ne] at h; cases h) (fun _ => ?_)
  · refine BJ.cmp (a := .str x) (b := .str "") ?_ ?_ cmp_eq_str <;> kqd_all
  refine XJ.ifRet (b := false) (CJ.of (BJ.cast (b := (Txt.item x 0 == ".") || ((Txt.item x (-1) == ".") || false)) (by rw [nx.e0, nx.e1]; rfl) (BJ.bool ?_))) (fun h => by cases h) (fun _ => ?_)
  · refine AllB.or ?_ fun _ => AllB.or ?_ fun _ => AllB.or0
    · refine BJ.cmp (a := .str (Txt.item x 0)) (b := .str ".") ?_ ?_ cmp_eq_str
      · refine EJ.sub (a := .str x) (b := .int 0) ?_ ?_ (get_str (by decide) nx.h0) <;> kqd_all
      · kqd_all
    · refine BJ.cmp (a := .str (Txt.item x (-1))) (b := .str ".") ?_ ?_ cmp_eq_str
      · refine EJ.sub (a := .str x) (b := .int (-1)) ?_ ?_ (get_str (by decide) nx.h1)
        · kqd_all
        · exact EJ.un EJ.cint un_neg
      · kqd_all
  refine XJ.ret (SJ.ret (VJ.of ?_)); exact EJ.cbool
def udmB (a b : Str) : Bool :=
  if !(!ends7 a.cps && (!ends7 b.cps && true)) then a == b else (Txt.startswith b "." && (Txt.endswith a b && true)) || (!Txt.startswith b "." && ((a == b) && true))
theorem udm_call (B : Bs hb mg mb) (I : IpAt hb) (x y a b : Str) (lx : x.length ≤ 1000) (ly : y.length ≤ 1000) (ea : Txt.lower x = a) (eb : Txt.lower y = b) (ta : TOk a) (tb : TOk b) : CallOK prog w hb 3 (.ref 64) [.str x, .str y] (.bool (udmB a b)) := by
  refine CallOK.fnL [("A", .str x), ("B", .str y)] B.W B.f3 (fun q c L => ?_)
  refine XJ.cons (ρ' := [("A", .str a), ("B", .str y)]) (Ω' := []) ?_ ?_
  · refine SJ.assign (ρ' := [("B", .str y)]) (Ω' := []) (d := .str a) (VJ.of ?_) okEnvS (.inl rfl) (fun p hp => ?_) (fun q hq => nomatch hq) (fun _ => rfl)
    · rw [← ea]
      refine EJ.meth0 (a := .str x) ?_ (meth_str PySem.F.slot_str_lower PySem.F.type_str_lower) ((call_lower (by omega)).mono (Nat.zero_le _)); kqd_all
    · rw [List.mem_singleton.mp hp]; exact ⟨.tail _ (.head _), by show ("B" : Str) ≠ "A"; decide⟩
  refine XJ.cons (ρ' := [("B", .str b), ("A", .str a)]) (Ω' := []) ?_ ?_
  · refine SJ.assign (ρ' := [("A", .str a)]) (Ω' := []) (d := .str b) (VJ.of ?_) okEnvS (.inl rfl) (fun p hp => ?_) (fun q hq => nomatch hq) (fun _ => rfl)
    · rw [← eb]
      refine EJ.meth0 (a := .str y) ?_ (meth_str PySem.F.slot_str_lower PySem.F.type_str_lower) ((call_lower (by omega)).mono (Nat.zero_le _)); kqd_all
    · rw [List.mem_singleton.mp hp]; exact ⟨.head _, by show ("A" : Str) ≠ "B"; decide⟩
  refine XJ.ifRet (b := !(!ends7 a.cps && (!ends7 b.cps && true))) (CJ.of (BJ.not (BJ.bool ?_))) ?_ ?_
  · refine AllB.and ?_ fun _ => AllB.and ?_ fun _ => AllB.and0
    · refine BJ.val (B.lib I okEnvS ta ?_); kqd_all
    · refine BJ.val (B.lib I okEnvS tb ?_); kqd_all
  · intro h
    rw [show udmB a b = (a == b) from by simp only [udmB, h, if_true]]
    refine XJ.ifRet (b := a == b) (CJ.of ?_) (fun e => ?_) (fun e => ?_)
    · refine BJ.cmp (a := .str a) (b := .str b) ?_ ?_ cmp_eq_str <;> kqd_all
    · rw [e]; refine XJ.ret (SJ.ret (VJ.of ?_)); exact EJ.cbool
    · rw [e]; refine XJ.ret (SJ.ret (VJ.of ?_)); exact EJ.cbool
  intro h
  rw [show udmB a b = ((Txt.startswith b "." && (Txt.endswith a b && true)) || (!Txt.startswith b "." && ((a == b) && true))) from by simp only [udmB, h, Bool.false_eq_true, if_false]]
  refine XJ.cons (ρ' := [("initial_dot", .bool (Txt.startswith b ".")), ("B", .str b), ("A", .str a)]) (Ω' := []) ?_ ?_
  · refine SJ.set okEnvS (VJ.of ?_)
    refine EJ.meth (a := .str b) (ds := [.str "."]) ?_ (meth_str PySem.F.slot_str_startswith PySem.F.type_str_startswith) ?_ (call_startswith.mono (Nat.zero_le _)) <;> kqd_all
  refine XJ.ifRet (b := Txt.startswith b "." && (Txt.endswith a b && true)) (CJ.of (BJ.bool ?_)) (fun e => ?_) (fun e => ?_)
  · refine AllB.and ?_ fun _ => AllB.and ?_ fun _ => AllB.and0
    · refine BJ.val ?_; kqd_all
    · refine BJ.val ?_
      refine EJ.meth (a := .str a) (ds := [.str b]) ?_ (meth_str PySem.F.slot_str_endswith PySem.F.type_str_endswith) ?_ (call_endswith.mono (Nat.zero_le _)) <;> kqd_all
  · rw [e, Bool.true_or]; refine XJ.ret (SJ.ret (VJ.of ?_)); exact EJ.cbool
  rw [e, Bool.false_or]
  refine XJ.ifRet (b := !Txt.startswith b "." && ((a == b) && true)) (CJ.of (BJ.bool ?_)) (fun e => ?_) (fun e => ?_)
  · refine AllB.and ?_ fun _ => AllB.and ?_ fun _ => AllB.and0
    · refine BJ.not (BJ.val ?_); kqd_all
    · refine BJ.cmp (a := .str a) (b := .str b) ?_ ?_ cmp_eq_str <;> kqd_all
  · rw [e]; refine XJ.ret (SJ.ret (VJ.of ?_)); exact EJ.cbool
  · rw [e]; refine XJ.ret (SJ.ret (VJ.of ?_)); exact EJ.cbool
end
end Mine
end
section
open PySem PySem.W PySem.Calls PyProof.Rows
set_option maxRecDepth 100000
namespace Mine
local macro_rules | `(tactic| kqd_in) => `(tactic| first | (with_reducible exact List.mem_cons_self) | (refine List.mem_cons_of_mem _ ?_; kqd_in))
local macro_rules | `(tactic| kqd_all) => `(tactic| first
  | (with_reducible exact EJ.cint) | (with_reducible exact EJ.cstr) | (with_reducible exact EJ.cbool) | (with_reducible exact EJ.cnone)
  | ((with_reducible refine EJ.name ?_ ?_ ?_ ?_); exact okEnvS; kqd_in; decide; decide)
  | (with_reducible exact AJ.nil)
  | ((with_reducible refine AJ.cons ?_ ?_ ?_); kqd_all; kqd_all; (intro _; rfl))
  | ((with_reducible refine EJ.un ?_ ?_); kqd_all; exact un_neg)
  | ((with_reducible refine EJ.tup ?_ ?_); kqd_all; exact Nat.le_of_ble_eq_true rfl)
  | ((with_reducible refine EJ.list ?_ ?_); kqd_all; exact Nat.le_of_ble_eq_true rfl)
  | ((refine EJ.list ?_ ?_); kqd_all; exact Nat.le_of_ble_eq_true rfl)
  | ((refine AJ.cons ?_ ?_ ?_); kqd_all; kqd_all; (intro _; rfl))
  | ((refine EJ.tup ?_ ?_); kqd_all; exact Nat.le_of_ble_eq_true rfl)
  | exact AJ.nil | exact EJ.cstr | exact EJ.cint | exact EJ.cbool)
/-- what is behind the first dot -/
def tailS (x : Str) : Str := Txt.slice x (some (Txt.find x "." + 1)) none
def reachC (x : Str) : Bool := !ends7 x.cps && ((decide (0 ≤ Txt.find (tailS x) ".") || ((tailS x == "local") || false)) && true)
def reachB (x : Str) : Str := if reachC x then "." ++ tailS x else x
section
variable {prog : Program} {w : World} {hb : Heap} {mg mb : Str → Option Value} {n : Nat} {env : Env} {ρ : Rho} {Ω : Owns}
theorem Bs.hdn (B : Bs hb mg mb) (I : IpAt hb) {e : Expr} {np pos : Pos} {x : Str} (ok : EnvOk env) (tx : TOk x) (nx : NDot x) (he : EJ prog w hb n env ρ e (.str x)) (hk : env.kindOf "is_HDN" = some .globalImplicit := by rfl) (hn : 2 ≤ n := by decide)
    (hs : ∀ env, starEach [e] env = (false, eval e env) :: starEach [] env := by intro _; rfl) : EJ prog w hb n env ρ (.Call (.Name "is_HDN" np) [e] [] pos) (.bool (!ends7 x.cps)) :=
  EJ.callF B.W ok hk B.g1 B.f1 (AJ.cons he AJ.nil (he := hs)) ((hdn_call B I x tx nx).mono hn) hs
theorem reach_call (B : Bs hb mg mb) (I : IpAt hb) (x : Str) (tx : TOk x) (nx : NDot x) (hf : 0 ≤ Txt.find x ".") (hl : (tailS x).length ≤ 1000) : CallOK prog w hb 3 (.ref 71) [.str x] (.str (reachB x)) := by
  refine CallOK.fnL [("h", .str x)] B.W B.f4 (fun q c L => ?_)
  refine XJ.cons (ρ' := [("i", .int (Txt.find x ".")), ("h", .str x)]) (Ω' := []) ?_ ?_
  · refine SJ.set okEnvS (VJ.of ?_)
    refine EJ.meth (a := .str x) (ds := [.str "."]) ?_ (meth_str PySem.F.slot_str_find PySem.F.type_str_find) ?_ (call_find.mono (Nat.zero_le _)) <;> kqd_all
  cases hc : reachC x with
  | true =>
    rw [show reachB x = "." ++ tailS x from by simp only [reachB, hc, if_true]]
    refine XJ.ret (SJ.ite (b := true) (CJ.of ?_) (fun _ => ?_) (fun h => nomatch h))
    · refine BJ.cast (b := decide (0 ≤ Txt.find x ".")) (by simpa using hf) ?_
      refine BJ.cmp (a := .int (Txt.find x ".")) (b := .int 0) ?_ ?_ cmp_ge_int <;> kqd_all
    ·
      refine XJ.cons (ρ' := [("b", .str (tailS x)), ("i", .int (Txt.find x ".")), ("h", .str x)]) (Ω' := []) ?_ ?_
      · refine SJ.set okEnvS (VJ.of ?_)
        refine EJ.sliceStr (lo := some (Txt.find x "." + 1)) (hi := none) ?_ (PJ.some (EJ.bin (a := .int (Txt.find x ".")) (b := .int 1) ?_ EJ.cint bin_add_int)) PJ.none ?_
        · kqd_all
        · kqd_all
        · have := tx.short; rw [sizeLine_eq]; omega
      refine XJ.cons (ρ' := [("i", .int (Txt.find (tailS x) ".")), ("b", .str (tailS x)), ("h", .str x)]) (Ω' := []) ?_ ?_
      · refine SJ.assign (ρ' := [("b", .str (tailS x)), ("h", .str x)]) (Ω' := []) (d := .int (Txt.find (tailS x) ".")) (VJ.of ?_) okEnvS (.inl rfl) (fun p hp => ?_) (fun q hq => nomatch hq) (fun _ => rfl)
        · refine EJ.meth (a := .str (tailS x)) (ds := [.str "."]) ?_ (meth_str PySem.F.slot_str_find PySem.F.type_str_find) ?_ (call_find.mono (Nat.zero_le _)) <;> kqd_all
        · rcases List.mem_cons.mp hp with rfl | hp
          · exact ⟨.head _, by show ("b" : Str) ≠ "i"; decide⟩
          · rw [List.mem_singleton.mp hp]; exact ⟨.tail _ (.tail _ (.head _)), by show ("h" : Str) ≠ "i"; decide⟩
      refine XJ.ret (SJ.ite (b := reachC x) (CJ.of (BJ.bool ?_)) (fun _ => XJ.ret (SJ.ret (VJ.of ?_))) (fun h => by rw [hc] at h; cases h))
      · refine AllB.and ?_ fun _ => AllB.and (BJ.bool ?_) fun _ => AllB.and0
        · refine BJ.val (B.hdn I okEnvS tx nx ?_); kqd_all
        · refine AllB.or ?_ fun _ => AllB.or ?_ fun _ => AllB.or0
          · refine BJ.cmp (a := .int (Txt.find (tailS x) ".")) (b := .int 0) ?_ ?_ cmp_ge_int <;> kqd_all
          · refine BJ.cmp (a := .str (tailS x)) (b := .str "local") ?_ ?_ cmp_eq_str <;> kqd_all
      refine EJ.bin (a := .str ".") (b := .str (tailS x)) ?_ ?_ (bin_add_str ?_)
      · kqd_all
      · kqd_all
      · have e : (("." : Str)).length = 1 := rfl
        rw [sizeLine_eq, e]; omega
  | false =>
    rw [show reachB x = x from by simp only [reachB, hc, Bool.false_eq_true, if_false]]
    refine XJ.cons (ρ' := [("i", .int (Txt.find (tailS x) ".")), ("b", .str (tailS x)), ("h", .str x)]) (Ω' := []) (SJ.ite (b := true) (CJ.of ?_) (fun _ => ?_) (fun h => nomatch h)) (XJ.ret (SJ.ret (VJ.of ?_)))
    · refine BJ.cast (b := decide (0 ≤ Txt.find x ".")) (by simpa using hf) ?_
      refine BJ.cmp (a := .int (Txt.find x ".")) (b := .int 0) ?_ ?_ cmp_ge_int <;> kqd_all
    ·
      refine XJ.cons (ρ' := [("b", .str (tailS x)), ("i", .int (Txt.find x ".")), ("h", .str x)]) (Ω' := []) ?_ ?_
      · refine SJ.set okEnvS (VJ.of ?_)
        refine EJ.sliceStr (lo := some (Txt.find x "." + 1)) (hi := none) ?_ (PJ.some (EJ.bin (a := .int (Txt.find x ".")) (b := .int 1) ?_ EJ.cint bin_add_int)) PJ.none ?_
        · kqd_all
        · kqd_all
        · have := tx.short; rw [sizeLine_eq]; omega
      refine XJ.cons (ρ' := [("i", .int (Txt.find (tailS x) ".")), ("b", .str (tailS x)), ("h", .str x)]) (Ω' := []) ?_ ?_
      · refine SJ.assign (ρ' := [("b", .str (tailS x)), ("h", .str x)]) (Ω' := []) (d := .int (Txt.find (tailS x) ".")) (VJ.of ?_) okEnvS (.inl rfl) (fun p hp => ?_) (fun q hq => nomatch hq) (fun _ => rfl)
        · refine EJ.meth (a := .str (tailS x)) (ds := [.str "."]) ?_ (meth_str PySem.F.slot_str_find PySem.F.type_str_find) ?_ (call_find.mono (Nat.zero_le _)) <;> kqd_all
        · rcases List.mem_cons.mp hp with rfl | hp
          · exact ⟨.head _, by show ("b" : Str) ≠ "i"; decide⟩
          · rw [List.mem_singleton.mp hp]; exact ⟨.tail _ (.tail _ (.head _)), by show ("h" : Str) ≠ "i"; decide⟩
      refine XJ.cons (ρ' := [("i", .int (Txt.find (tailS x) ".")), ("b", .str (tailS x)), ("h", .str x)]) (Ω' := []) (SJ.ite (b := reachC x) (CJ.of (BJ.bool ?_)) (fun h => by rw [hc] at h; cases h) (fun _ => XJ.nil)) XJ.nil
      · refine AllB.and ?_ fun _ => AllB.and (BJ.bool ?_) fun _ => AllB.and0
        · refine BJ.val (B.hdn I okEnvS tx nx ?_); kqd_all
        · refine AllB.or ?_ fun _ => AllB.or ?_ fun _ => AllB.or0
          · refine BJ.cmp (a := .int (Txt.find (tailS x) ".")) (b := .int 0) ?_ ?_ cmp_ge_int <;> kqd_all
          · refine BJ.cmp (a := .str (tailS x)) (b := .str "local") ?_ ?_ cmp_eq_str <;> kqd_all
    · kqd_all
end
end Mine
end
section
open PySem PySem.W PySem.Calls PyProof.Rows
set_option maxRecDepth 100000
namespace Mine
local macro_rules | `(tactic| kqd_in) => `(tactic| first | (with_reducible exact List.mem_cons_self) | (refine List.mem_cons_of_mem _ ?_; kqd_in))
local macro_rules | `(tactic| kqd_all) => `(tactic| first
  | (with_reducible exact EJ.cint) | (with_reducible exact EJ.cstr) | (with_reducible exact EJ.cbool) | (with_reducible exact EJ.cnone)
  | ((with_reducible refine EJ.name ?_ ?_ ?_ ?_); exact okEnvS; kqd_in; decide; decide)
  | (with_reducible exact AJ.nil)
  | ((with_reducible refine AJ.cons ?_ ?_ ?_); kqd_all; kqd_all; (intro _; rfl))
  | ((with_reducible refine EJ.un ?_ ?_); kqd_all; exact un_neg)
  | ((with_reducible refine EJ.tup ?_ ?_); kqd_all; exact Nat.le_of_ble_eq_true rfl)
  | ((with_reducible refine EJ.list ?_ ?_); kqd_all; exact Nat.le_of_ble_eq_true rfl)
  | ((refine EJ.list ?_ ?_); kqd_all; exact Nat.le_of_ble_eq_true rfl)
  | ((refine AJ.cons ?_ ?_ ?_); kqd_all; kqd_all; (intro _; rfl))
  | ((refine EJ.tup ?_ ?_); kqd_all; exact Nat.le_of_ble_eq_true rfl)
  | exact AJ.nil | exact EJ.cstr | exact EJ.cint | exact EJ.cbool)
/-- the manager's class -/
structure Kc (K : Frag) (hb : Heap) (fI fS : Addr) : Prop where
  X : K.In hb
  hm : makesIn K 117 = true
  hi : findIn K (.ref 117) "__init__" = some (some (.ref fI))
  ti : isFn K (.ref fI) = true
  ki : keepIn K (.ref 117) = true
  hs : findIn K (.ref 117) "__setattr__" = some (some (.builtin "object.__setattr__"))
  hp : plainOver K 117 = true
  ht : takerIn K 117 "passwd" = some none
  hh : hasDictIn K 117 = true
  pg : plainGet K 117 "is_suburi" = true
  hf : findIn K (.ref 117) "is_suburi" = some (some (.ref fS))
  tf : isFn K (.ref fS) = true
  ks : keepIn K (.ref fS) = true
  fs : FnAt hb fS (methSt 9 4) ["self", "base", "test"]
  fi : FnAt hb fI (methSt 9 0) ["self"]
def preS (p : Str) : Str := if Txt.slice p (some (-1)) none != "/" then p ++ "/" else p
abbrev placeD (a p : Str) : D := .tup [.str a, .str p]
def suburiB (a p b q : Str) : Bool := decide (a = b ∧ p = q) || (decide (a = b) && Txt.startswith q (preS p))
section
variable {prog : Program} {w : World} {hb : Heap} {mg mb : Str → Option Value} {n : Nat} {env : Env} {ρ : Rho} {Ω : Owns} {K : Frag} {fI fS : Addr}
theorem okE_place {a p : Str} (ha : PyData.strOk a = true) (hp : PyData.strOk p = true) : okE 8 (placeD a p) = true := by
  simp only [placeD, okE, okEs, Bool.and_eq_true]; exact ⟨ha, hp, trivial⟩
theorem suburi_call (W : Wd hb mg mb) (k : Kc K hb fI fS) (a p b q : Str) (ha : PyData.strOk a = true) (hp : PyData.strOk p = true) (hb' : PyData.strOk b = true) (hq : PyData.strOk q = true) (lp : p.length ≤ 1000) :
    CallOK prog w hb 2 (.ref fS) [.mgr, placeD a p, placeD b q] (.bool (suburiB a p b q)) := by
  refine CallOK.fnL [("self", .mgr), ("base", placeD a p), ("test", placeD b q)] W k.fs (fun qq c L => ?_)
  refine XJ.ifRet (b := decide (a = b ∧ p = q)) (CJ.of ?_) ?_ ?_
  · refine BJ.cmp (a := placeD a p) (b := placeD b q) ?_ ?_ (cmp_eq (okE_place ha hp) (okE_place hb' hq) ?_)
    · kqd_all
    · kqd_all
    · rw [decide_eq_true_iff]
      constructor
      · rintro ⟨rfl, rfl⟩; rfl
      · intro e
        injection e with e; injection e with e1 e2; injection e2 with e2 _; injection e1 with e1; injection e2 with e2
        exact ⟨e1, e2⟩
  · intro e; rw [show suburiB a p b q = true from by simp only [suburiB, e, Bool.true_or]]
    refine XJ.ret (SJ.ret (VJ.of ?_)); exact EJ.cbool
  intro e
  refine XJ.ifRet (b := a != b) (CJ.of ?_) ?_ ?_
  · refine BJ.cmp (a := .str a) (b := .str b) ?_ ?_ cmp_ne_str
    · refine EJ.tupAt (ds := [.str a, .str p]) ?_; kqd_all
    · refine EJ.tupAt (ds := [.str b, .str q]) ?_; kqd_all
  · intro e2
    rw [show suburiB a p b q = false from by simp only [suburiB, e, decide_eq_false (bne_iff_ne.mp e2), Bool.false_and, Bool.false_or]]
    refine XJ.ret (SJ.ret (VJ.of ?_)); exact EJ.cbool
  intro e2
  have e3 : a = b := by simpa using e2
  rw [show suburiB a p b q = Txt.startswith q (preS p) from by simp only [suburiB, e, Bool.false_or]; rw [decide_eq_true e3, Bool.true_and]]
  refine XJ.cons (ρ' := [("prefix", .str p), ("self", .mgr), ("base", placeD a p), ("test", placeD b q)]) (Ω' := []) ?_ ?_
  · refine SJ.set okEnvS (VJ.of ?_)
    refine EJ.tupAt (ds := [.str a, .str p]) ?_; kqd_all
  refine XJ.cons (ρ' := [("prefix", .str (preS p)), ("self", .mgr), ("base", placeD a p), ("test", placeD b q)]) (Ω' := []) ?_ ?_
  · refine SJ.ite (b := Txt.slice p (some (-1)) none != "/") (CJ.of ?_) (fun h => ?_) (fun h => ?_)
    · refine BJ.cmp (a := .str (Txt.slice p (some (-1)) none)) (b := .str "/") ?_ ?_ cmp_ne_str
      · refine EJ.sliceStr ?_ (PJ.some (EJ.un EJ.cint un_neg)) PJ.none (by rw [sizeLine_eq]; omega)
        kqd_all
      · kqd_all
    · rw [show preS p = p ++ "/" from by simp only [preS, h, if_true]]
      refine XJ.cons ?_ XJ.nil
      refine SJ.aug (ρ' := [("self", .mgr), ("base", placeD a p), ("test", placeD b q)]) (Ω' := []) (a := .str p) (b := .str "/") okEnvS ?_ (VJ.of ?_) (aug_add_str ?_) (.inl rfl) (fun x hx => ?_) (fun q hq => nomatch hq)
      · kqd_in
      · kqd_all
      · have e : (("/" : Str)).length = 1 := rfl
        rw [sizeLine_eq, e]; omega
      · refine ⟨.tail _ hx, ?_⟩
        have : ∀ x ∈ (["self", "base", "test"] : List Str), x ≠ "prefix" := by decide
        exact this x.1 (by rcases List.mem_cons.mp hx with rfl | hx
                           · exact .head _
                           · rcases List.mem_cons.mp hx with rfl | hx
                             · exact .tail _ (.head _)
                             · rw [List.mem_singleton.mp hx]; exact .tail _ (.tail _ (.head _)))
    · rw [show preS p = p from by simp only [preS, h, Bool.false_eq_true, if_false]]
      exact XJ.nil
  refine XJ.ret (SJ.ret (VJ.of ?_))
  refine EJ.meth (a := .str q) (ds := [.str (preS p)]) ?_ (meth_str PySem.F.slot_str_startswith PySem.F.type_str_startswith) ?_ (call_startswith.mono (Nat.zero_le _))
  · refine EJ.tupAt (ds := [.str b, .str q]) ?_; kqd_all
  · kqd_all
theorem newsPush {h₀ h : Heap} {L : Addr} {m : Str → Option Value} {news : List (Addr × Obj)} (N : News h₀ L h news) (F : Fr h₀ L h m) (o : Obj) : News h₀ L (h.push o) news := fun p hp => ⟨Heap.get?_push_of_some _ (N p hp).1, (N p hp).2⟩
theorem EJ.newMgr (W : Wd hb mg mb) (k : Kc K hb fI fS) (hg : mg "HTTPPasswordMgr" = some (.ref 117)) {np pos : Pos} (ok : EnvOk env) (hk : env.kindOf "HTTPPasswordMgr" = some .globalImplicit := by rfl) : EJ prog w hb (n + 2) env ρ (.Call (.Name "HTTPPasswordMgr" np) [] [] pos) .mgr := by
  intro A hA s F S E
  refine Call_ (eval_global W ok S.keep hk (.inl hg) ?_)
  refine callWith_K0 (K := K) (first := []) (k.X.keeps S.keep) k.ki ?_
  obtain ⟨h, g, d, t, os⟩ := s
  have hc := S.keep
  refine wpAny_call (make_core (makes_of (k.X.keeps hc) k.hm) (looks_findIn (k.X.keeps hc) k.hi) (fun self => bind_fn (k.X.keeps hc) self (beq_iff_eq.mp k.ti)) (.inl rfl) ?_)
  have k2 : ∀ b o, h.get? b = some o → ((h.push emptyDict).push (instObj 117 h.objs.size)).get? b = some o := fun b o e => Heap.get?_push_of_some _ (Heap.get?_push_of_some _ e)
  have kb : ∀ b o, hb.get? b = some o → ((h.push emptyDict).push (instObj 117 h.objs.size)).get? b = some o := fun b o e => k2 b o (hc b o e)
  obtain ⟨o, fd, ho, hd, hcd, hbody, hclo, hsc, hgl, hbt, hbind⟩ := k.fi
  have hdep : (A.under (.builtin "type.__call__" ⟨.ref 117 :: ([] ++ []), []⟩)).depth = A.depth + 1 := rfl
  generalize hA' : A.under (.builtin "type.__call__" ⟨.ref 117 :: ([] ++ []), []⟩) = A' at hdep ⊢
  refine codeAny_call_function ?_ (kb _ _ ho) hd (by rw [hsc]; rfl) (by rw [hsc]; rfl) hbody (hcd.keeps kb) ?_
  · have := hA.depth; omega
  refine wpAny_of_eq (show bindArgs fd ⟨.ref (h.objs.size + 1) :: ([] ++ []), []⟩ = _ from hbind [.ref (h.objs.size + 1)] rfl) ?_
  rw [hclo]
  refine wpAny_toksE (wpAny_newFunctionEnv_cells (by rw [hsc]; rfl) (fun y hy => .inl ?_) fun env' he s₁ x ht => ?_)
  · rw [hsc, show y.1 = "self" from by rw [List.mem_singleton.mp hy]]; rfl
  subst he
  refine ⟨(W.nolimit.keeps kb).keeps x.toInCall.keep, codeAny_func ?_⟩
  rw [hsc, hgl, hbt]
  generalize hq : fd.qualname ++ ".<locals>." = qq
  have hsz : ((h.push emptyDict).push (instObj 117 h.objs.size)).objs.size = h.objs.size + 2 := by rw [Heap.size_push, Heap.size_push]
  have x' := x.toInCall
  rw [hsc, hgl, hbt, hq] at x'
  have hns := x'.ns
  obtain ⟨h₁, t₁, e₁⟩ := x'.same
  have e₁' : s₁ = ⟨h₁, g, d, t₁, os⟩ := e₁
  subst e₁'
  have ht' : t ≤ t₁ := ht
  have keep1 : ∀ b o, h.get? b = some o → h₁.get? b = some o := fun b o e => x'.keep b o (k2 b o e)
  have Fr1 : Fr h _ h₁ _ := ⟨hns, keep1, Nat.le_trans (by show h.objs.size ≤ ((h.push emptyDict).push (instObj 117 h.objs.size)).objs.size; rw [hsz]; exact Nat.le_add_right _ _) x'.fresh⟩
  have hL : ∀ a, a < h.objs.size + 2 → a ≠ ((h.push emptyDict).push (instObj 117 h.objs.size)).objs.size := fun a ha e => by rw [e, hsz] at ha; exact Nat.lt_irrefl _ ha
  have N1 : News h ((h.push emptyDict).push (instObj 117 h.objs.size)).objs.size h₁ [(h.objs.size + 1, instObj 117 h.objs.size), (h.objs.size, emptyDict)] := by
    intro p hp
    rcases List.mem_cons.mp hp with rfl | hp
    · refine ⟨x'.keep _ _ ?_, hL _ (by show h.objs.size + 1 < _; omega), Heap.get?_none_of_le (by show h.objs.size ≤ h.objs.size + 1; omega)⟩
      have := Heap.get?_push_size (h.push emptyDict) (o := instObj 117 h.objs.size) rfl
      rwa [Heap.size_push] at this
    · rw [List.mem_singleton.mp hp]
      refine ⟨x'.keep _ _ (Heap.get?_push_of_some _ (Heap.get?_push_size _ rfl)), hL _ (by show h.objs.size < _; omega), Heap.get?_none_of_le (Nat.le_refl _)⟩
  refine wpAny_execs_cons (plainObj_wpAny_Assign_Attribute (wpAny_Dict_empty ?_))
  have Fr2 := Fr1.push { cls := .type "dict", data := .dict #[] }
  have N2 := newsPush N1 Fr1 { cls := .type "dict", data := .dict #[] }
  refine eval_var ⟨rfl, rfl, rfl⟩ (.loc rfl Fr2.ns rfl) ?_
  have I : InstAt (h₁.push { cls := .type "dict", data := .dict #[] }) (h.objs.size + 1) (instObj 117 h.objs.size) 117 (some (dictOf [] 0)) := ⟨(N2 _ (.head _)).1, rfl, rfl, (N2 _ (.tail _ (.head _))).1⟩
  refine set_dict (K := K) (h₀ := h) (es := []) (n := 0) Fr2 (k.X.keeps hc) N2 I rfl k.hs k.hp k.ht k.hh rfl rfl (.tail (by show h.objs.size + 1 ≠ h.objs.size; omega) (.head (fun p hp => nomatch hp))) (Nat.le_of_ble_eq_true rfl) ?_
  intro h' F' N'
  refine wpAny_execs_nil ?_
  have n1 := (N' _ (.head _)).1
  have n2 := (N' _ (.tail _ (.head _))).1
  have Sh : Sub F h' := fun a o e => F'.keep a o (S.sub a o e)
  have f1 : F (h.objs.size + 1) = none := S.sub.none_of (Heap.get?_none_of_le (Nat.le_succ _))
  have f2 : F h.objs.size = none := S.sub.none_of (Heap.get?_none_of_le (Nat.le_refl _))
  have ne : h.objs.size ≠ h.objs.size + 1 := Nat.ne_of_lt (Nat.lt_succ_self _)
  obtain ⟨hsh, v, n2⟩ : ∃ hsh v, h'.get? h.objs.size = some (dictOf [⟨hsh, .str (Str.ofString "passwd") (t₁ + 1), v⟩] 1) := ⟨_, _, n2⟩
  have fin : ∃ F', Ext ⟨h, g, d, t, os⟩ F ⟨h', g, d, t₁ + 2, os⟩ F' ∧ In F' (.ref (h.objs.size + 1)) .mgr := by
    refine ⟨(F.add h.objs.size (dictOf [⟨hsh, .str (Str.ofString "passwd") (t₁ + 1), v⟩] 1)).add (h.objs.size + 1) (instObj 117 h.objs.size), ⟨⟨h', _, rfl⟩, F'.keep, ?_, ?_, ?_, Nat.le_trans ht' (Nat.le_add_right _ _)⟩, .mgr ⟨h.objs.size, hsh, t₁ + 1, v, 1, FMap.add_self _ _ _, ?_⟩⟩
    · refine LeF.trans (FMap.le_add _ f2) (FMap.le_add _ ?_)
      rw [FMap.add_ne _ _ (Ne.symm ne)]; exact f1
    · intro a o e
      by_cases h1 : a = h.objs.size + 1
      · subst h1; rw [FMap.add_self] at e; cases e; exact n1
      · rw [FMap.add_ne _ _ h1] at e
        by_cases h2 : a = h.objs.size
        · subst h2; rw [FMap.add_self] at e; cases e; exact n2
        · rw [FMap.add_ne _ _ h2] at e; exact Sh a o e
    · intro a e hG
      have hlt : a < h.objs.size := by
        obtain ⟨o, ho⟩ := Option.isSome_iff_exists.mp hG
        exact Heap.lt_size ho
      rw [FMap.add_ne _ _ (Nat.ne_of_lt (Nat.lt_succ_of_lt hlt)), FMap.add_ne _ _ (Nat.ne_of_lt hlt)]; exact e
    · rw [FMap.add_ne _ _ ne]; exact FMap.add_self _ _ _
  exact ⟨rfl, fin⟩
/-- a call of the manager's method -/
theorem EJ.suburi (k : Kc K hb fI fS) {o : Expr} {apos pos : Pos} {d : D} {e : Expr} {es : List Expr} {ds : List D} (hx : EJ prog w hb n env ρ o .mgr) (ha : AJ prog w hb n env ρ (e :: es) ds) (hc : CallOK prog w hb n (.ref fS) (.mgr :: ds) d)
    (he : ∀ env, ∃ pl, eval (.Call (.Attribute o "is_suburi" apos) (e :: es) [] pos) env = (do
      let ov ← eval o env
      standAt apos.atName
      let (f, first) ← holding [ov] (getMethod ov "is_suburi" pl)
      callWith pos f first (backTo pos (starEach (e :: es) env)) []) := by intro _; exact ⟨_, rfl⟩)
    (hs : ∀ env, starEach (e :: es) env = (false, eval e env) :: starEach es env := by intro _; rfl) (hp : ∀ env, (backTo pos (starEach es env)).any (·.1) = false := by intro _; rfl) :
    EJ prog w hb n env ρ (.Call (.Attribute o "is_suburi" apos) (e :: es) [] pos) d := by
  intro A hA s F S E
  obtain ⟨pl, he⟩ := he env
  refine MethodCall_ (pl := pl) (wpAny_mono (hx A hA s F S E) (fun v s₁ h₁ => ?_) fun _ _ e => e) he
  obtain ⟨F₁, x₁, i₁⟩ := h₁
  have S₁ := S.ext x₁
  cases i₁ with
  | mgr g =>
    rename_i x
    obtain ⟨dx, hsh, t, v, m, g1, g2⟩ := id g
    have I : InstAt s₁.heap x (instObj 117 dx) 117 (some (dictOf [⟨hsh, .str (Str.ofString "passwd") t, v⟩] m)) := ⟨S₁.sub _ _ g1, rfl, rfl, S₁.sub _ _ g2⟩
    refine method_fn (k.X.keeps S₁.keep) I (plainGet_of k.pg).1 (plainGet_of k.pg).2 k.hf (beq_iff_eq.mp k.tf) (by rfl) ?_
    refine callWith_K (h₀ := hb) k.X k.ks (wpAny_mono (ha pos A hA s₁ F₁ S₁ E) (fun vs s₂ h₂ => ?_) fun _ _ e => e) (hs env) (hp env)
    obtain ⟨F₂, x₂, i₂⟩ := h₂
    have S₂ := S₁.ext x₂
    refine ⟨k.X.keeps S₂.keep, wpAny_mono (hc A hA s₂ F₂ S₂.sub S₂.base S₂.tok (.ref x :: vs) (.cons (.mgr (g.mono x₂.le)) i₂) E) (fun r s₃ h₃ => ?_) fun _ _ e => e⟩
    obtain ⟨F₃, x₃, i₃⟩ := h₃
    exact ⟨F₃, (x₁.trans x₂).trans x₃, i₃⟩
end
end Mine
end
section
open PySem PySem.W PySem.Calls PyProof.Rows
set_option maxRecDepth 100000
namespace Mine
local macro_rules | `(tactic| kqd_in) => `(tactic| first | (with_reducible exact List.mem_cons_self) | (refine List.mem_cons_of_mem _ ?_; kqd_in))
local macro_rules | `(tactic| kqd_all) => `(tactic| first
  | (with_reducible exact EJ.cint) | (with_reducible exact EJ.cstr) | (with_reducible exact EJ.cbool) | (with_reducible exact EJ.cnone)
  | ((with_reducible refine EJ.name ?_ ?_ ?_ ?_); exact okEnvS; kqd_in; decide; decide)
  | (with_reducible exact AJ.nil)
  | ((with_reducible refine AJ.cons ?_ ?_ ?_); kqd_all; kqd_all; (intro _; rfl))
  | ((with_reducible refine EJ.un ?_ ?_); kqd_all; exact un_neg)
  | ((with_reducible refine EJ.tup ?_ ?_); kqd_all; exact Nat.le_of_ble_eq_true rfl)
  | ((with_reducible refine EJ.list ?_ ?_); kqd_all; exact Nat.le_of_ble_eq_true rfl)
  | ((refine EJ.list ?_ ?_); kqd_all; exact Nat.le_of_ble_eq_true rfl)
  | ((refine AJ.cons ?_ ?_ ?_); kqd_all; kqd_all; (intro _; rfl))
  | ((refine EJ.tup ?_ ?_); kqd_all; exact Nat.le_of_ble_eq_true rfl)
  | exact AJ.nil | exact EJ.cstr | exact EJ.cint | exact EJ.cbool)
def cells0 : List Int := [36288, 35648, 35056, 52566, 39584, 696]
def stepC (cs : List Int) (i : Nat) (x : Int) : List Int := cs.set (i % 6) (cs.getD (i % 6) 0 + x)
def cellsAt (ns : List Int) : Nat → List Int
  | 0 => cells0
  | i + 1 => stepC (cellsAt ns i) i (ns.getD i 0)
theorem cellsAt_len (ns : List Int) : ∀ i, (cellsAt ns i).length = 6
  | 0 => rfl
  | i + 1 => by rw [cellsAt, stepC, List.length_set]; exact cellsAt_len ns i
def szs : List Nat := [8, 3, 3, 3, 3, 3, 3, 3, 2, 8]
def restAt (m : Nat) : Nat → Nat
  | 0 => m
  | j + 1 => restAt m j / szs.getD j 1
def figAt (m j : Nat) : Nat := restAt m j % szs.getD j 1
def figs (m : Nat) (j : Nat) : List Nat := (List.range j).map (figAt m)
theorem figs_succ (m j : Nat) : figs m (j + 1) = figs m j ++ [figAt m j] := by simp [figs, List.range_succ]
theorem figs_get {m k j : Nat} (h : j < k) : (figs m k)[j]? = some (figAt m j) := by simp [figs, h]
theorem szs_pos : ∀ j, 0 < szs.getD j 1 := by
  intro j
  rcases Nat.lt_or_ge j 10 with h | h
  · have : ∀ j, j < 10 → 0 < szs.getD j 1 := by decide
    exact this j h
  · rw [List.getD_eq_getElem?_getD, List.getElem?_eq_none (by show 10 ≤ j; exact h)]; decide
theorem fig_lt (m j : Nat) : figAt m j < szs.getD j 1 := Nat.mod_lt _ (szs_pos j)
def natD (k : Nat) : D := .int (k : Int)
def lblN (k : Nat) : Str := match k with | 0 => "a" | 1 => "local" | _ => "ba"
def pieN (k : Nat) : Str := match k with | 0 => "a" | 1 => "A" | _ => "ab"
def topN (k : Nat) : Str := if k > 4 then (match k - 5 with | 0 => "org" | 1 => "com" | _ => "7") else "local"
def hostF (m : Nat) : List Nat := ((figs m 10).drop 2).take (1 + figAt m 1)
def stepF (m : Nat) : List Nat := ((figs m 10).drop 6).take (figAt m 5)
def hostN (m : Nat) : List Str := (hostF m).map lblN ++ [topN (figAt m 0)]
def stepN (m : Nat) : List Str := (stepF m).map pieN ++ (if figAt m 8 = 1 then [("" : Str)] else [])
def ruleN (m : Nat) : R := { host := hostN m, steps := stepN m, au := if figAt m 9 = 0 then "g" else "gg" }
def cellM (c : Int) : Nat := (c.fmod 279936).toNat
theorem cellM_eq (c : Int) : c.fmod 279936 = (cellM c : Int) := by
  unfold cellM
  have : 0 ≤ c.fmod 279936 := Int.fmod_nonneg_of_pos c (by decide)
  omega
def rulesN (ns : List Int) : List R := (cellsAt ns ns.length).map fun c => ruleN (cellM c)
theorem hostF_eq (m : Nat) : hostF m = (([2, 3, 4, 5, 6, 7, 8, 9] : List Nat).take (1 + figAt m 1)).map (figAt m) := by
  unfold hostF figs
  rw [← List.map_drop, ← List.map_take]; rfl
theorem stepF_eq (m : Nat) : stepF m = (([6, 7, 8, 9] : List Nat).take (figAt m 5)).map (figAt m) := by
  unfold stepF figs
  rw [← List.map_drop, ← List.map_take]; rfl
theorem hostF_lt {m k : Nat} (h : k ∈ hostF m) : k < 3 := by
  rw [hostF_eq] at h
  obtain ⟨i, hi, rfl⟩ := List.mem_map.mp h
  have h1 : figAt m 1 < 3 := fig_lt m 1
  have h2 : i = 2 ∨ i = 3 ∨ i = 4 := by
    generalize figAt m 1 = f at hi h1
    match f, h1 with
    | 0, _ => simp at hi; omega
    | 1, _ => simp at hi; omega
    | 2, _ => simp at hi; omega
  rcases h2 with rfl | rfl | rfl
  · exact fig_lt m 2
  · exact fig_lt m 3
  · exact fig_lt m 4
theorem stepF_lt {m k : Nat} (h : k ∈ stepF m) : k < 3 := by
  rw [stepF_eq] at h
  obtain ⟨i, hi, rfl⟩ := List.mem_map.mp h
  have h1 : figAt m 5 < 3 := fig_lt m 5
  have h2 : i = 6 ∨ i = 7 := by
    generalize figAt m 5 = f at hi h1
    match f, h1 with
    | 0, _ => simp at hi
    | 1, _ => simp at hi; omega
    | 2, _ => simp at hi; omega
  rcases h2 with rfl | rfl
  · exact fig_lt m 6
  · exact fig_lt m 7
theorem lbl_get {k : Nat} (h : k < 3) : ([.str "a", .str "local", .str "ba"] : List D)[(k : Int).toNat]? = some (.str (lblN k)) := by
  match k, h with
  | 0, _ => rfl
  | 1, _ => rfl
  | 2, _ => rfl
theorem pie_get {k : Nat} (h : k < 3) : ([.str "a", .str "A", .str "ab"] : List D)[(k : Int).toNat]? = some (.str (pieN k)) := by
  match k, h with
  | 0, _ => rfl
  | 1, _ => rfl
  | 2, _ => rfl
theorem top_get {k : Nat} (h : k < 8) (h4 : 4 < k) : ([.str "org", .str "com", .str "7"] : List D)[((k : Int) - 5).toNat]? = some (.str (topN k)) := by
  match k, h, h4 with
  | 5, _, _ => rfl
  | 6, _, _ => rfl
  | 7, _, _ => rfl
/-- a loop's body -/
def loopOf : Stmt → List Stmt
  | .For _ _ b _ _ => b
  | _ => []
def loopAt (i j : Nat) : List Stmt := loopOf (((bodyOf (pst i))[j]?).getD default)
section
variable {prog : Program} {w : World} {hb : Heap} {mg mb : Str → Option Value} {n : Nat} {env : Env} {ρ : Rho} {Ω : Owns}
theorem SJ.forL {t iter : Expr} {body : List Stmt} {pos : Pos} {ds : List D} (N : Nat) (ρi : Nat → Rho) (Ωi : Nat → Owns) (ρt : Nat → Rho) (Ωt : Nat → Owns) {ρ' : Rho} {Ω' : Owns} (hsrc : SrcJ prog w hb n env ρ iter ds) (hN : ds.length = N)
    (h0 : ρi 0 = ρ) (hΩ0 : Ωi 0 = Ω)
    (has : ∀ i d, ds[i]? = some d → AsJ prog w hb n env (ρi i) (Ωi i) t d (ρt i) (Ωt i))
    (hbody : ∀ i d, ds[i]? = some d → XJ prog w hb n env (ρt i) (Ωt i) body (.next (ρi (i + 1)) (Ωi (i + 1))))
    (hρ : ρi N = ρ' := by rfl) (hΩ : Ωi N = Ω' := by rfl) (hs : ∀ env x, foldedSetIterable iter env x = pure x := by intro _ _; rfl) :
    SJ prog w hb n env ρ Ω (.For t iter body [] pos) (.next ρ' Ω') :=
  hρ ▸ hΩ ▸ hN ▸ SJ.for ρi Ωi hsrc (fun p hp => h0 ▸ hp) (fun q hq => hΩ0 ▸ hq) ρt Ωt has hbody hs
theorem VJ.cast {e : Expr} {d d' : D} (h : d = d') (x : VJ prog w hb n env ρ Ω e d) : VJ prog w hb n env ρ Ω e d' := h ▸ x
theorem EJ.cast {e : Expr} {d d' : D} (h : d = d') (x : EJ prog w hb n env ρ e d) : EJ prog w hb n env ρ e d' := h ▸ x
end
end Mine
end
section
open PySem PySem.W PySem.Calls PyProof.Rows
set_option maxRecDepth 100000
namespace Mine
local macro_rules | `(tactic| kqd_in) => `(tactic| first | (with_reducible exact List.mem_cons_self) | (refine List.mem_cons_of_mem _ ?_; kqd_in))
local macro_rules | `(tactic| kqd_all) => `(tactic| first
  | (with_reducible exact EJ.cint) | (with_reducible exact EJ.cstr) | (with_reducible exact EJ.cbool) | (with_reducible exact EJ.cnone)
  | ((with_reducible refine EJ.name ?_ ?_ ?_ ?_); exact okEnvS; kqd_in; decide; decide)
  | (with_reducible exact AJ.nil)
  | ((with_reducible refine AJ.cons ?_ ?_ ?_); kqd_all; kqd_all; (intro _; rfl))
  | ((with_reducible refine EJ.un ?_ ?_); kqd_all; exact un_neg)
  | ((with_reducible refine EJ.tup ?_ ?_); kqd_all; exact Nat.le_of_ble_eq_true rfl)
  | ((with_reducible refine EJ.list ?_ ?_); kqd_all; exact Nat.le_of_ble_eq_true rfl)
  | ((refine EJ.list ?_ ?_); kqd_all; exact Nat.le_of_ble_eq_true rfl)
  | ((refine AJ.cons ?_ ?_ ?_); kqd_all; kqd_all; (intro _; rfl))
  | ((refine EJ.tup ?_ ?_); kqd_all; exact Nat.le_of_ble_eq_true rfl)
  | exact AJ.nil | exact EJ.cstr | exact EJ.cint | exact EJ.cbool)
section
variable {prog : Program} {w : World} {hb : Heap} {mg mb : Str → Option Value} {n : Nat} {env : Env} {ρ : Rho} {Ω : Owns}
theorem size_get {j : Nat} {d : D} (h : ([.int 8, .int 3, .int 3, .int 3, .int 3, .int 3, .int 3, .int 3, .int 2, .int 8] : List D)[j]? = some d) : d = natD (szs.getD j 1) := by
  rw [show ([.int 8, .int 3, .int 3, .int 3, .int 3, .int 3, .int 3, .int 3, .int 2, .int 8] : List D) = szs.map natD from rfl, List.getElem?_map] at h
  rw [List.getD_eq_getElem?_getD]
  cases e : szs[j]? with
  | none => rw [e] at h; cases h
  | some k => rw [e] at h; injection h with h; rw [← h]; rfl
theorem fig_turn (B : Bs hb mg mb) (q : Str) (c : Value) (L : Addr) (cs ns : List Int) (cell : Int) (m j : Nat) (hj : j < 10) (old : List D) :
    XJ prog w hb 1 (envS (pst 11) q c L 126) [("size", natD (szs.getD j 1)), ("rest", natD (restAt m j)), ("cell", .int cell), ("cells", .list (cs.map D.int)), ("script", .list (ns.map D.int))] [("figures", true, (figs m j).map natD), ("rules", true, old)] (loopOf (((loopAt 11 3)[2]?).getD default))
      (.next [("rest", natD (restAt m (j + 1))), ("cell", .int cell), ("cells", .list (cs.map D.int)), ("script", .list (ns.map D.int))] [("figures", true, (figs m (j + 1)).map natD), ("rules", true, old)]) := by
  have hsz := szs_pos j
  have hsz2 : szs.getD j 1 ≤ 8 := by
    have : ∀ j, j < 10 → szs.getD j 1 ≤ 8 := by decide
    exact this j hj
  generalize hz : szs.getD j 1 = z at hsz hsz2 ⊢
  refine XJ.weaken (ρ₁ := [("rest", natD (restAt m (j + 1))), ("size", natD z), ("cell", .int cell), ("cells", .list (cs.map D.int)), ("script", .list (ns.map D.int))]) (Ω₁ := [("figures", true, (figs m j).map natD ++ [natD (figAt m j)]), ("rules", true, old)]) ?_ (fun p hp => ?_) (fun q hq => by rw [figs_succ, List.map_append] at hq; exact hq)
  rotate_left
  · rcases List.mem_cons.mp hp with rfl | hp
    · exact .head _
    · exact .tail _ (.tail _ hp)
  refine XJ.cons (ρ' := [("size", natD z), ("rest", natD (restAt m j)), ("cell", .int cell), ("cells", .list (cs.map D.int)), ("script", .list (ns.map D.int))]) (Ω' := [("figures", true, (figs m j).map natD ++ [natD (figAt m j)]), ("rules", true, old)]) ?_ (XJ.cons ?_ XJ.nil)
  · refine SJ.append (Ω' := [("rules", true, old)]) okEnvS (.head _) (fun q hq => ?_) (VJ.of (EJ.cast (d := .int ((restAt m j : Int).fmod (z : Int))) ?_ (EJ.bin (a := .int (restAt m j)) (b := .int z) ?_ ?_ (bin_mod_int (by omega))))) (by rw [List.length_map, figs, List.length_map, List.length_range, sizeLine_eq]; omega) (hi := rfl)
    · rw [List.mem_singleton.mp hq]; exact ⟨.tail _ (.head _), by show ("rules" : Str) ≠ "figures"; decide⟩
    · rw [natD, figAt, hz, Int.fmod_eq_emod_of_nonneg _ (by omega)]; rfl
    · exact EJ.name okEnvS (.tail _ (.head _))
    · exact EJ.name okEnvS (.head _)
  · refine SJ.aug (ρ' := [("size", natD z), ("cell", .int cell), ("cells", .list (cs.map D.int)), ("script", .list (ns.map D.int))]) (Ω' := [("figures", true, (figs m j).map natD ++ [natD (figAt m j)]), ("rules", true, old)]) (a := .int (restAt m j)) (b := .int z) okEnvS (.tail _ (.head _)) (VJ.of ?_) ?_ (.inl rfl) (fun p hp => ?_) (fun q hq => ?_)
    · exact EJ.name okEnvS (.head _)
    · have := aug_floordiv_int (prog := prog) (w := w) (a := (restAt m j : Int)) (b := (z : Int)) (by omega) (PyProof.noPylong_small (by rw [Int.natAbs_natCast]; omega))
      rw [show (restAt m j : Int).fdiv (z : Int) = ((restAt m (j + 1) : Nat) : Int) from by rw [restAt, hz, Int.fdiv_eq_ediv_of_nonneg _ (by omega)]; rfl] at this
      exact this
    · have h1 : ∀ x ∈ (["size", "cell", "cells", "script"] : List Str), x ≠ "rest" := by decide
      rcases List.mem_cons.mp hp with rfl | hp
      · exact ⟨.head _, h1 _ (.head _)⟩
      · rcases List.mem_cons.mp hp with rfl | hp
        · exact ⟨.tail _ (.tail _ (.head _)), h1 _ (.tail _ (.head _))⟩
        · rcases List.mem_cons.mp hp with rfl | hp
          · exact ⟨.tail _ (.tail _ (.tail _ (.head _))), h1 _ (.tail _ (.tail _ (.head _)))⟩
          · rw [List.mem_singleton.mp hp]; exact ⟨.tail _ (.tail _ (.tail _ (.tail _ (.head _)))), h1 _ (.tail _ (.tail _ (.tail _ (.head _))))⟩
    · refine ⟨hq, ?_⟩
      rcases List.mem_cons.mp hq with rfl | hq
      · show ("figures" : Str) ≠ "rest"; decide
      · rw [List.mem_singleton.mp hq]; show ("rules" : Str) ≠ "rest"; decide
end
end Mine
end
section
open PySem PySem.W PySem.Calls PyProof.Rows
set_option maxRecDepth 100000
namespace Mine
local macro_rules | `(tactic| kqd_in) => `(tactic| first | (with_reducible exact List.mem_cons_self) | (refine List.mem_cons_of_mem _ ?_; kqd_in))
local macro_rules | `(tactic| kqd_all) => `(tactic| first
  | (with_reducible exact EJ.cint) | (with_reducible exact EJ.cstr) | (with_reducible exact EJ.cbool) | (with_reducible exact EJ.cnone)
  | ((with_reducible refine EJ.name ?_ ?_ ?_ ?_); exact okEnvS; kqd_in; decide; decide)
  | (with_reducible exact AJ.nil)
  | ((with_reducible refine AJ.cons ?_ ?_ ?_); kqd_all; kqd_all; (intro _; rfl))
  | ((with_reducible refine EJ.un ?_ ?_); kqd_all; exact un_neg)
  | ((with_reducible refine EJ.tup ?_ ?_); kqd_all; exact Nat.le_of_ble_eq_true rfl)
  | ((with_reducible refine EJ.list ?_ ?_); kqd_all; exact Nat.le_of_ble_eq_true rfl)
  | ((refine EJ.list ?_ ?_); kqd_all; exact Nat.le_of_ble_eq_true rfl)
  | ((refine AJ.cons ?_ ?_ ?_); kqd_all; kqd_all; (intro _; rfl))
  | ((refine EJ.tup ?_ ?_); kqd_all; exact Nat.le_of_ble_eq_true rfl)
  | exact AJ.nil | exact EJ.cstr | exact EJ.cint | exact EJ.cbool)
section
variable {prog : Program} {w : World} {hb : Heap} {mg mb : Str → Option Value} {n : Nat} {env : Env} {ρ : Rho} {Ω : Owns}
theorem fig_loop (B : Bs hb mg mb) (q : Str) (c : Value) (L : Addr) (cs ns : List Int) (cell : Int) (m : Nat) (old : List D) :
    SJ prog w hb 1 (envS (pst 11) q c L 126) [("rest", natD m), ("cell", .int cell), ("cells", .list (cs.map D.int)), ("script", .list (ns.map D.int))] [("figures", true, []), ("rules", true, old)] (((loopAt 11 3)[2]?).getD default)
      (.next [("rest", natD (restAt m 10)), ("cell", .int cell), ("cells", .list (cs.map D.int)), ("script", .list (ns.map D.int))] [("figures", true, (figs m 10).map natD), ("rules", true, old)]) := by
  show SJ prog w hb 1 _ _ _ (Stmt.For _ _ _ _ _) _
  with_reducible refine SJ.forL (ds := [.int 8, .int 3, .int 3, .int 3, .int 3, .int 3, .int 3, .int 3, .int 2, .int 8]) 10 (fun j => [("rest", natD (restAt m j)), ("cell", .int cell), ("cells", .list (cs.map D.int)), ("script", .list (ns.map D.int))]) (fun j => [("figures", true, (figs m j).map natD), ("rules", true, old)]) (fun j => [("size", natD (szs.getD j 1)), ("rest", natD (restAt m j)), ("cell", .int cell), ("cells", .list (cs.map D.int)), ("script", .list (ns.map D.int))]) (fun j => [("figures", true, (figs m j).map natD), ("rules", true, old)]) ?_ ?_ ?_ ?_ ?_ ?_ ?_ ?_ ?_
  · refine SrcJ.list ?_; kqd_all
  · rfl
  · rfl
  · rfl
  · intro j d hd
    rw [size_get hd]; exact AsJ.set okEnvS
  · intro j d hd
    have hj : j < 10 := by
      rcases Nat.lt_or_ge j 10 with h | h
      · exact h
      · rw [List.getElem?_eq_none (by exact h)] at hd; cases hd
    exact fig_turn B q c L cs ns cell m j hj old
  · rfl
  · rfl
  · intro _ _; rfl
end
end Mine
end
section
open PySem PySem.W PySem.Calls PyProof.Rows
set_option maxRecDepth 100000
namespace Mine
local macro_rules | `(tactic| kqd_in) => `(tactic| first | (with_reducible exact List.mem_cons_self) | (refine List.mem_cons_of_mem _ ?_; kqd_in))
local macro_rules | `(tactic| kqd_all) => `(tactic| first
  | (with_reducible exact EJ.cint) | (with_reducible exact EJ.cstr) | (with_reducible exact EJ.cbool) | (with_reducible exact EJ.cnone)
  | ((with_reducible refine EJ.name ?_ ?_ ?_ ?_); exact okEnvS; kqd_in; decide; decide)
  | (with_reducible exact AJ.nil)
  | ((with_reducible refine AJ.cons ?_ ?_ ?_); kqd_all; kqd_all; (intro _; rfl))
  | ((with_reducible refine EJ.un ?_ ?_); kqd_all; exact un_neg)
  | ((with_reducible refine EJ.tup ?_ ?_); kqd_all; exact Nat.le_of_ble_eq_true rfl)
  | ((with_reducible refine EJ.list ?_ ?_); kqd_all; exact Nat.le_of_ble_eq_true rfl)
  | ((refine EJ.list ?_ ?_); kqd_all; exact Nat.le_of_ble_eq_true rfl)
  | ((refine AJ.cons ?_ ?_ ?_); kqd_all; kqd_all; (intro _; rfl))
  | ((refine EJ.tup ?_ ?_); kqd_all; exact Nat.le_of_ble_eq_true rfl)
  | exact AJ.nil | exact EJ.cstr | exact EJ.cint | exact EJ.cbool)
section
variable {prog : Program} {w : World} {hb : Heap} {mg mb : Str → Option Value} {n : Nat} {env : Env} {ρ : Rho} {Ω : Owns}
set_option maxHeartbeats 600000 in
theorem rule_tail (B : Bs hb mg mb) (q : Str) (c : Value) (L : Addr) (cs ns : List Int) (cell : Int) (m : Nat) (old : List D) (hol : old.length ≤ 6) :
    XJ prog w hb 1 (envS (pst 11) q c L 126) [("figures", .list ((figs m 10).map natD)), ("rest", natD (restAt m 10)), ("cell", .int cell), ("cells", .list (cs.map D.int)), ("script", .list (ns.map D.int))] [("rules", true, old)] ((loopAt 11 3).drop 3) (.next [("steps", strD (stepN m)), ("host", strD (hostN m)), ("top", .str (topN (figAt m 0))), ("figures", .list ((figs m 10).map natD)), ("rest", natD (restAt m 10)), ("cell", .int cell), ("cells", .list (cs.map D.int)), ("script", .list (ns.map D.int))] [("rules", true, old ++ [ruleD (ruleN m)])]) := by
  have fget : ∀ {ρ : Rho} {j : Nat} {p1 p2 p3 : Pos}, ((("figures" : Str), D.list ((figs m 10).map natD)) : Str × D) ∈ ρ → j < 10 → EJ prog w hb 1 (envS (pst 11) q c L 126) ρ (.Subscript (.Name "figures" p1) (.Constant (.int (j : Int)) 0 p2) p3) (natD (figAt m j)) := by
    intro ρ j p1 p2 p3 h hj
    refine EJ.listAt (EJ.name okEnvS h) ?_ (by omega) (by omega)
    rw [Int.toNat_natCast, List.getElem?_map, figs_get hj]; rfl
  have figsl : (figs m 10).length = 10 := by simp [figs]
  refine XJ.cons (ρ' := [("top", .str "local"), ("figures", .list ((figs m 10).map natD)), ("rest", natD (restAt m 10)), ("cell", .int cell), ("cells", .list (cs.map D.int)), ("script", .list (ns.map D.int))]) (Ω' := [("rules", true, old)]) ?_ ?_
  · refine SJ.set okEnvS (VJ.of ?_); kqd_all
  refine XJ.cons (ρ' := [("top", .str (topN (figAt m 0))), ("figures", .list ((figs m 10).map natD)), ("rest", natD (restAt m 10)), ("cell", .int cell), ("cells", .list (cs.map D.int)), ("script", .list (ns.map D.int))]) (Ω' := [("rules", true, old)]) ?_ ?_
  · refine SJ.ite (b := decide ((4 : Int) < (figAt m 0 : Int))) (CJ.of ?_) (fun h => ?_) (fun h => ?_)
    · refine BJ.cmp (a := natD (figAt m 0)) (b := .int 4) ?_ ?_ cmp_gt_int
      · exact fget (j := 0) (by kqd_in) (by decide)
      · kqd_all
    · have h4 : 4 < figAt m 0 := by have := of_decide_eq_true h; omega
      refine XJ.cons ?_ XJ.nil
      refine SJ.assign (ρ' := [("figures", .list ((figs m 10).map natD)), ("rest", natD (restAt m 10)), ("cell", .int cell), ("cells", .list (cs.map D.int)), ("script", .list (ns.map D.int))]) (Ω' := [("rules", true, old)]) (VJ.of (EJ.sub (a := .list [.str "org", .str "com", .str "7"]) (b := .int ((figAt m 0 : Int) - 5)) ?_ (EJ.bin (a := natD (figAt m 0)) (b := .int 5) ?_ EJ.cint bin_sub_int) (get_list (by omega) ?_ (top_get (fig_lt m 0) h4)))) okEnvS (.inl rfl) (fun p hp => ⟨.tail _ hp, ?_⟩) (fun q hq => ⟨hq, ?_⟩) (fun _ => rfl)
      · kqd_all
      · exact fget (j := 0) (by kqd_in) (by decide)
      · have : figAt m 0 < 8 := fig_lt m 0
        omega
      · have h1 : (([("figures", .list ((figs m 10).map natD)), ("rest", natD (restAt m 10)), ("cell", .int cell), ("cells", .list (cs.map D.int)), ("script", .list (ns.map D.int))] : Rho).all fun p => p.1 != "top") = true := rfl
        simpa using List.all_eq_true.mp h1 p hp
      · rw [List.mem_singleton.mp hq]; show ("rules" : Str) ≠ "top"; decide
    · have h4 : ¬ 4 < figAt m 0 := by have := of_decide_eq_false h; omega
      rw [show topN (figAt m 0) = "local" from by rw [topN, if_neg h4]]
      exact XJ.nil
  have f1 : figAt m 1 < 3 := fig_lt m 1
  have f5 : figAt m 5 < 3 := fig_lt m 5
  refine XJ.cons (ρ' := [("host", strD (hostN m)), ("top", .str (topN (figAt m 0))), ("figures", .list ((figs m 10).map natD)), ("rest", natD (restAt m 10)), ("cell", .int cell), ("cells", .list (cs.map D.int)), ("script", .list (ns.map D.int))]) (Ω' := [("rules", true, old)]) ?_ ?_
  · refine SJ.set okEnvS (VJ.of (EJ.cast (d := .list ((hostF m).map (fun k => D.str (lblN k)) ++ [.str (topN (figAt m 0))])) (by rw [hostN, strD, List.map_append, List.map_map]; rfl) (EJ.bin (NJ.ej (NJ.mapL (hostF m) natD (fun k => D.str (lblN k)) okEnvS .nil ?_ (SrcJ.list ?_) ?_)) (EJ.list (AJ.cons ?_ AJ.nil) (Nat.le_of_ble_eq_true rfl)) (bin_add_list ?_))))
    · rw [hostF, List.length_take]; omega
    · rw [show (hostF m).map natD = pick ((figs m 10).map natD) (some (2 : Nat)) (some ((3 + figAt m 1 : Nat) : Int)) from by rw [pick_both, hostF, List.map_take, List.map_drop, show 3 + figAt m 1 - 2 = 1 + figAt m 1 from by omega]]
      refine EJ.sliceList (EJ.name okEnvS ?_) (PJ.some EJ.cint) (PJ.some (EJ.bin (a := .int 3) (b := natD (figAt m 1)) EJ.cint ?_ ?_)) (by rw [List.length_map, figsl, sizeLine_eq]; omega)
      · kqd_in
      · exact fget (j := 1) (by kqd_in) (by decide)
      · have := bin_add_int (prog := prog) (w := w) (a := 3) (b := (figAt m 1 : Int))
        rw [show (3 : Int) + (figAt m 1 : Int) = ((3 + figAt m 1 : Nat) : Int) from by omega] at this
        exact this
    · intro C cs' hcs a ha
      have ha3 := hostF_lt ha
      refine EJ.sub (a := .list [.str "a", .str "local", .str "ba"]) (b := natD a) ?_ (EJ.name (okC okEnvS) (.head _)) (get_list (by omega) (by omega) (lbl_get ha3))
      kqd_all
    · kqd_all
    · rw [List.length_map, hostF, List.length_take, sizeLine_eq]
      show _ + 1 ≤ _
      omega
  have hst : stepN m = (stepF m).map pieN ++ (if figAt m 8 = 1 then [("" : Str)] else []) := rfl
  refine XJ.cons (ρ' := [("host", strD (hostN m)), ("top", .str (topN (figAt m 0))), ("figures", .list ((figs m 10).map natD)), ("rest", natD (restAt m 10)), ("cell", .int cell), ("cells", .list (cs.map D.int)), ("script", .list (ns.map D.int))]) (Ω' := [("steps", true, ((stepF m).filter fun _ => true).map fun k => D.str (pieN k)), ("rules", true, old)]) ?_ ?_
  · refine SJ.setComp (stepF m) natD (fun _ => true) (fun k => D.str (pieN k)) okEnvS .nil ?_ (SrcJ.list ?_) (fun _ _ _ _ _ => TJ.none) ?_
    · rw [stepF, List.length_take]; omega
    · rw [show (stepF m).map natD = pick ((figs m 10).map natD) (some (6 : Nat)) (some ((6 + figAt m 5 : Nat) : Int)) from by rw [pick_both, stepF, List.map_take, List.map_drop, show 6 + figAt m 5 - 6 = figAt m 5 from by omega]]
      refine EJ.sliceList (EJ.name okEnvS ?_) (PJ.some EJ.cint) (PJ.some (EJ.bin (a := .int 6) (b := natD (figAt m 5)) EJ.cint ?_ ?_)) (by rw [List.length_map, figsl, sizeLine_eq]; omega)
      · kqd_in
      · exact fget (j := 5) (by kqd_in) (by decide)
      · have := bin_add_int (prog := prog) (w := w) (a := 6) (b := (figAt m 5 : Int))
        rw [show (6 : Int) + (figAt m 5 : Int) = ((6 + figAt m 5 : Nat) : Int) from by omega] at this
        exact this
    · intro C cs' hcs a ha _
      have ha3 := stepF_lt ha
      refine EJ.sub (a := .list [.str "a", .str "A", .str "ab"]) (b := natD a) ?_ (EJ.name (okC okEnvS) (.head _)) (get_list (by omega) (by omega) (pie_get ha3))
      kqd_all
  rw [show (stepF m).filter (fun _ => true) = stepF m from List.filter_eq_self.mpr (fun _ _ => rfl)]
  refine XJ.cons (ρ' := [("host", strD (hostN m)), ("top", .str (topN (figAt m 0))), ("figures", .list ((figs m 10).map natD)), ("rest", natD (restAt m 10)), ("cell", .int cell), ("cells", .list (cs.map D.int)), ("script", .list (ns.map D.int))]) (Ω' := [("steps", true, (stepN m).map D.str), ("rules", true, old)]) ?_ (XJ.rest ?_)
  · refine SJ.ite (b := (figAt m 8 : Int) == 1) (CJ.of ?_) (fun h => ?_) (fun h => ?_)
    · refine BJ.cmp (a := natD (figAt m 8)) (b := .int 1) ?_ ?_ cmp_eq_int
      · exact fget (j := 8) (by kqd_in) (by decide)
      · kqd_all
    · have h1 : figAt m 8 = 1 := by have := beq_iff_eq.mp h; omega
      rw [hst, if_pos h1, List.map_append, List.map_map]
      refine XJ.cons ?_ XJ.nil
      refine SJ.append (Ω' := [("rules", true, old)]) okEnvS (.head _) (fun q hq => ?_) (VJ.of EJ.cstr) ?_ (hi := rfl)
      · rw [List.mem_singleton.mp hq]; exact ⟨.tail _ (.head _), by show ("rules" : Str) ≠ "steps"; decide⟩
      · rw [List.length_map, stepF, List.length_take, sizeLine_eq]; omega
    · have h1 : ¬ figAt m 8 = 1 := by
        intro e; rw [e] at h; cases h
      rw [hst, if_neg h1, List.append_nil, List.map_map]
      exact XJ.nil
  refine XJ.cons ?_ XJ.nil
  refine SJ.append (Ω' := []) okEnvS (.head _) (fun q hq => nomatch hq) (VJ.of (EJ.tup (AJ.cons (d := strD (hostN m)) ?_ (AJ.cons (d := strD (stepN m)) ?_ (AJ.cons (d := .str (if figAt m 9 = 0 then "g" else "gg")) ?_ AJ.nil))) (Nat.le_of_ble_eq_true rfl))) (by rw [sizeLine_eq]; omega) (hi := rfl)
  · kqd_all
  · kqd_all
  · refine EJ.ifexp (b := (figAt m 9 : Int) == 0) ?_ (fun h => ?_) (fun h => ?_)
    · refine BJ.cmp (a := natD (figAt m 9)) (b := .int 0) ?_ ?_ cmp_eq_int
      · exact fget (j := 9) (by kqd_in) (by decide)
      · kqd_all
    · have h1 : figAt m 9 = 0 := by have := beq_iff_eq.mp h; omega
      rw [if_pos h1]; kqd_all
    · have h1 : ¬ figAt m 9 = 0 := by intro e; rw [e] at h; cases h
      rw [if_neg h1]; kqd_all
end
end Mine
end
section
open PySem PySem.W PySem.Calls PyProof.Rows
set_option maxRecDepth 100000
namespace Mine
local macro_rules | `(tactic| kqd_in) => `(tactic| first | (with_reducible exact List.mem_cons_self) | (refine List.mem_cons_of_mem _ ?_; kqd_in))
local macro_rules | `(tactic| kqd_all) => `(tactic| first
  | (with_reducible exact EJ.cint) | (with_reducible exact EJ.cstr) | (with_reducible exact EJ.cbool) | (with_reducible exact EJ.cnone)
  | ((with_reducible refine EJ.name ?_ ?_ ?_ ?_); exact okEnvS; kqd_in; decide; decide)
  | (with_reducible exact AJ.nil)
  | ((with_reducible refine AJ.cons ?_ ?_ ?_); kqd_all; kqd_all; (intro _; rfl))
  | ((with_reducible refine EJ.un ?_ ?_); kqd_all; exact un_neg)
  | ((with_reducible refine EJ.tup ?_ ?_); kqd_all; exact Nat.le_of_ble_eq_true rfl)
  | ((with_reducible refine EJ.list ?_ ?_); kqd_all; exact Nat.le_of_ble_eq_true rfl)
  | ((refine EJ.list ?_ ?_); kqd_all; exact Nat.le_of_ble_eq_true rfl)
  | ((refine AJ.cons ?_ ?_ ?_); kqd_all; kqd_all; (intro _; rfl))
  | ((refine EJ.tup ?_ ?_); kqd_all; exact Nat.le_of_ble_eq_true rfl)
  | exact AJ.nil | exact EJ.cstr | exact EJ.cint | exact EJ.cbool)
section
variable {prog : Program} {w : World} {hb : Heap} {mg mb : Str → Option Value} {n : Nat} {env : Env} {ρ : Rho} {Ω : Owns}
theorem rule_turn (B : Bs hb mg mb) (q : Str) (c : Value) (L : Addr) (cs ns : List Int) (cell : Int) (m : Nat) (hm : cellM cell = m) (old : List D) (hol : old.length ≤ 6) :
    XJ prog w hb 1 (envS (pst 11) q c L 126) [("cell", .int cell), ("cells", .list (cs.map D.int)), ("script", .list (ns.map D.int))] [("rules", true, old)] (loopAt 11 3) (.next [("cells", .list (cs.map D.int)), ("script", .list (ns.map D.int))] [("rules", true, old ++ [ruleD (ruleN m)])]) := by
  refine XJ.weaken (ρ₁ := [("steps", strD (stepN m)), ("host", strD (hostN m)), ("top", .str (topN (figAt m 0))), ("figures", .list ((figs m 10).map natD)), ("rest", natD (restAt m 10)), ("cell", .int cell), ("cells", .list (cs.map D.int)), ("script", .list (ns.map D.int))]) (Ω₁ := [("rules", true, old ++ [ruleD (ruleN m)])]) ?_ (fun p hp => by
    refine List.mem_cons_of_mem _ (List.mem_cons_of_mem _ (List.mem_cons_of_mem _ (List.mem_cons_of_mem _ (List.mem_cons_of_mem _ (List.mem_cons_of_mem _ hp)))))) (fun q hq => hq)
  refine XJ.cons (ρ' := [("rest", natD m), ("cell", .int cell), ("cells", .list (cs.map D.int)), ("script", .list (ns.map D.int))]) (Ω' := [("rules", true, old)]) ?_ ?_
  · refine SJ.set okEnvS (VJ.of (EJ.cast (d := .int (cell.fmod 279936)) (by rw [cellM_eq, hm]; rfl) (EJ.bin (a := .int cell) (b := .int 279936) ?_ ?_ (bin_mod_int (by decide))))) <;> kqd_all
  refine XJ.cons (ρ' := [("rest", natD m), ("cell", .int cell), ("cells", .list (cs.map D.int)), ("script", .list (ns.map D.int))]) (Ω' := [("figures", true, []), ("rules", true, old)]) ?_ ?_
  · refine SJ.setNew okEnvS (NJ.list ?_ (Nat.le_of_ble_eq_true rfl)); kqd_all
  with_reducible refine XJ.cons (fig_loop B q c L cs ns cell m old) (XJ.rest ?_ rfl)
  exact rule_tail B q c L cs ns cell m old hol
theorem rules_call (B : Bs hb mg mb) (ns : List Int) (hn : ns.length ≤ 63) : CallOK prog w hb 2 (.ref 126) [.list (ns.map D.int)] (.list ((rulesN ns).map ruleD)) := by
  refine CallOK.fnL [("script", .list (ns.map D.int))] B.W B.f5 (fun q c L => ?_)
  refine XJ.cons (ρ' := [("script", .list (ns.map D.int))]) (Ω' := [("cells", true, cells0.map D.int)]) ?_ ?_
  · refine SJ.setNew okEnvS (NJ.list ?_ (Nat.le_of_ble_eq_true rfl)); kqd_all
  refine XJ.cons (ρ' := [("script", .list (ns.map D.int))]) (Ω' := [("cells", ns.length == 0, (cellsAt ns ns.length).map D.int)]) ?_ ?_
  · show SJ prog w hb 1 _ _ _ (Stmt.For _ _ _ _ _) _
    with_reducible refine SJ.forL (ds := intD ns.length) ns.length (fun i => [("script", .list (ns.map D.int))]) (fun i => [("cells", i == 0, (cellsAt ns i).map D.int)]) (fun i => [("place", .int i), ("script", .list (ns.map D.int))]) (fun i => [("cells", i == 0, (cellsAt ns i).map D.int)]) ?_ ?_ ?_ ?_ ?_ ?_ ?_ ?_ ?_
    · refine SrcJ.range (k := ns.length) B.W okEnvS rfl (B.bi rfl) ?_ (by omega)
      refine EJ.cast (d := .int ((ns.map D.int).length : Nat)) (by rw [List.length_map]) (B.len okEnvS ?_ (by rw [List.length_map]; omega)); kqd_all
    · simp [intD]
    · rfl
    · rfl
    · intro i d hd
      have hi : i < ns.length := by
        rcases Nat.lt_or_ge i ns.length with h | h
        · exact h
        · rw [List.getElem?_eq_none (by simpa [intD] using h)] at hd; cases hd
      have e : d = .int (i : Int) := by simpa [intD, hi] using hd.symm
      rw [e]; exact AsJ.set okEnvS
    · intro i d hd
      have hi : i < ns.length := by
        rcases Nat.lt_or_ge i ns.length with h | h
        · exact h
        · rw [List.getElem?_eq_none (by simpa [intD] using h)] at hd; cases hd
      refine XJ.weaken (ρ₁ := [("place", .int i), ("script", .list (ns.map D.int))]) (Ω₁ := [("cells", false, (stepC (cellsAt ns i) i (ns.getD i 0)).map D.int)]) (XJ.cons ?_ XJ.nil) (fun p hp => .tail _ hp) (fun q hq => hq)
      have h6 : i % 6 < (cellsAt ns i).length := by rw [cellsAt_len]; omega
      have e : stepC (cellsAt ns i) i (ns.getD i 0) = (cellsAt ns i).set (i % 6) ((cellsAt ns i)[i % 6] + ns.getD i 0) := by
        rw [stepC, List.getD_eq_getElem?_getD, List.getElem?_eq_getElem h6]; rfl
      rw [e]
      refine SJ.augItem (Ω' := []) okEnvS (.head _) (fun q hq => nomatch hq) (VJ.of (EJ.cast (d := .int ((i : Int).fmod 6)) ?_ (EJ.bin (a := .int i) (b := .int 6) ?_ EJ.cint (bin_mod_int (by decide))))) (VJ.of (EJ.sub (a := .list (ns.map D.int)) (b := .int i) ?_ ?_ (get_list (by omega) (by omega) ?_))) h6 (by omega)
      · rw [show ((i % 6 : Nat) : Int) = (i : Int).fmod 6 from by rw [Int.fmod_eq_emod_of_nonneg _ (by decide)]; rfl]
      · kqd_all
      · kqd_all
      · kqd_all
      · rw [Int.toNat_natCast, List.getElem?_map, List.getD_eq_getElem?_getD, List.getElem?_eq_getElem hi]; rfl
    · rfl
    · rfl
    · intro _ _; rfl
  refine XJ.rest ?_
  generalize hcs : cellsAt ns ns.length = cs
  have hl6 : cs.length = 6 := by rw [← hcs]; exact cellsAt_len ns _
  rw [show rulesN ns = cs.map fun c => ruleN (cellM c) from by rw [rulesN, hcs]]
  refine XJ.cons (ρ' := [("cells", .list (cs.map D.int)), ("script", .list (ns.map D.int))]) (Ω' := [("rules", true, [])]) ?_ ?_
  · refine SJ.setNew okEnvS (NJ.list ?_ (Nat.le_of_ble_eq_true rfl)); kqd_all
  refine XJ.cons (ρ' := [("cells", .list (cs.map D.int)), ("script", .list (ns.map D.int))]) (Ω' := [("rules", true, (cs.take 6).map fun c => ruleD (ruleN (cellM c)))]) ?_ ?_
  rotate_left
  · refine XJ.rest (XJ.ret (SJ.ret (VJ.of ?_)))
    rw [List.take_of_length_le (by omega), show ((cs.map fun c => ruleN (cellM c)).map ruleD) = cs.map fun c => ruleD (ruleN (cellM c)) from by rw [List.map_map]; rfl]
    exact EJ.name okEnvS (.head _)
  show SJ prog w hb 1 _ _ _ (Stmt.For _ _ _ _ _) _
  with_reducible refine SJ.forL (ds := cs.map D.int) 6 (fun i => [("cells", .list (cs.map D.int)), ("script", .list (ns.map D.int))]) (fun i => [("rules", true, (cs.take i).map fun c => ruleD (ruleN (cellM c)))]) (fun i => [("cell", .int (cs.getD i 0)), ("cells", .list (cs.map D.int)), ("script", .list (ns.map D.int))]) (fun i => [("rules", true, (cs.take i).map fun c => ruleD (ruleN (cellM c)))]) ?_ ?_ ?_ ?_ ?_ ?_ ?_ ?_ ?_
  · exact SrcJ.list (EJ.name okEnvS (.head _))
  · rw [List.length_map]; exact hl6
  · rfl
  · rfl
  · intro i d hd
    have hi : i < cs.length := by
      rcases Nat.lt_or_ge i cs.length with h | h
      · exact h
      · rw [List.getElem?_eq_none (by simpa using h)] at hd; cases hd
    have e : d = .int (cs.getD i 0) := by
      rw [List.getElem?_map, List.getElem?_eq_getElem hi] at hd
      rw [List.getD_eq_getElem?_getD, List.getElem?_eq_getElem hi]
      injection hd with hd; exact hd.symm
    rw [e]; exact AsJ.set okEnvS
  · intro i d hd
    have hi : i < cs.length := by
      rcases Nat.lt_or_ge i cs.length with h | h
      · exact h
      · rw [List.getElem?_eq_none (by simpa using h)] at hd; cases hd
    have hlast : (cs.take (i + 1)).map (fun c => ruleD (ruleN (cellM c))) = (cs.take i).map (fun c => ruleD (ruleN (cellM c))) ++ [ruleD (ruleN (cellM (cs.getD i 0)))] := by
      rw [List.take_succ, List.map_append, List.getElem?_eq_getElem hi, List.getD_eq_getElem?_getD, List.getElem?_eq_getElem hi]; rfl
    generalize cs.getD i 0 = cell at hlast ⊢
    generalize hold : (cs.take i).map (fun c => ruleD (ruleN (cellM c))) = old at hlast ⊢
    have hol : old.length ≤ 6 := by rw [← hold, List.length_map, List.length_take]; omega
    rw [hlast]
    generalize hm : cellM cell = m
    exact rule_turn B q c L cs ns cell m hm old hol
  · rfl
  · rfl
  · intro _ _; rfl
end
end Mine
end
section
open PySem PySem.W PySem.Calls PyProof.Rows
set_option maxRecDepth 100000
namespace Mine
theorem turn_in (elt : Expr) (g : Comprehension) (target iter : Expr) (ifs : List Expr) (scope : Scope) (pos : Pos) (it acc : Value) (env : Env) :
    compTurn (.ListComp elt [g, ⟨target, iter, ifs, 0⟩] scope pos) 1 it acc env = (do
      standAt iter.pos
      match ← pyNext it with
      | none => pure (.done .next)
      | some v =>
        letOwnedTupleGo target it v
        assign target env v
        let ok ← forIn ifs true fun c r => if r = true then do let ok ← isTrue c env (eval c env); pure (ForInStep.yield ok) else pure (ForInStep.yield r)
        if ok then
          (do let _ ← call (.builtin "list.append") [acc, ← eval elt env])
        again (.compLoop (.ListComp elt [g, ⟨target, iter, ifs, 0⟩] scope pos) 1 it acc env)) := by rfl
theorem turn_out (elt : Expr) (target iter : Expr) (t2 i2 : Expr) (ifs ifs2 : List Expr) (scope : Scope) (pos : Pos) (it acc : Value) (env : Env) :
    compTurn (.ListComp elt [⟨target, iter, ifs, 0⟩, ⟨t2, i2, ifs2, 0⟩] scope pos) 0 it acc env = (do
      standAt iter.pos
      match ← pyNext it with
      | none => pure (.done .next)
      | some v =>
        letOwnedTupleGo target it v
        assign target env v
        let ok ← forIn ifs true fun c r => if r = true then do let ok ← isTrue c env (eval c env); pure (ForInStep.yield ok) else pure (ForInStep.yield r)
        if ok then do
          let x ← eval i2 env
          standAt i2.pos
          let x ← foldedSetIterable i2 env x
          let _ ← runOwn (.compStart (.ListComp elt [⟨target, iter, ifs, 0⟩, ⟨t2, i2, ifs2, 0⟩] scope pos) 1 (← holding [x] (pyIter x)) acc env) env
        again (.compLoop (.ListComp elt [⟨target, iter, ifs, 0⟩, ⟨t2, i2, ifs2, 0⟩] scope pos) 0 it acc env)) := by rfl
section
variable {prog : Program} {w : World} {A : Around} {E : Value → Shared → Prop} {R : Result → Shared → Prop} {s : Shared}
theorem loop_in {elt : Expr} {g : Comprehension} {target iter : Expr} {scope : Scope} {pos : Pos} {it acc : Value} {env : Env} (I : Nat → Shared → Prop)
    (turn : ∀ n s, I n s → wpAny (model prog w) A (pyNext it) (fun r s₁ => match r with
      | none => R (.ok .next) s₁
      | some v => wpAny (model prog w) A (assign target env v) (fun _ s₃ =>
            wpAny (model prog w) A (eval elt env) (fun x s₄ =>
              wpAny (model prog w) A (call (.builtin "list.append") [acc, x]) (fun _ s₅ => ∃ m, m < n ∧ I m s₅) (notedBy (model prog w) A env fun e s' => R (.error e) s') s₄) (notedBy (model prog w) A env fun e s' => R (.error e) s') s₃)
            (notedBy (model prog w) A env fun e s' => R (.error e) s') s₁) (notedBy (model prog w) A env fun e s' => R (.error e) s') s)
    (n : Nat) (h : I n s) (ht : ∀ v, letOwnedTupleGo target it v = pure () := by intro _; rfl) :
    codeAny (model prog w) A (.compLoop (.ListComp elt [g, ⟨target, iter, [], 0⟩] scope pos) 1 it acc env) R s := by
  refine codeAny_loop rfl I (fun n s hI => ?_) n h
  show wpAny _ A ((compTurn (.ListComp elt [g, ⟨target, iter, [], 0⟩] scope pos) 1 it acc env).onRaise (fun x => do noteFrame x env; theTreesLotGoes x)) _ _ s
  refine wpAny_noted ?_
  rw [turn_in]
  refine wpAny_bind (wpAny_standAt (wpAny_bind (wpAny_mono (turn n s hI) (fun r s₁ h₁ => ?_) fun _ _ h' => h')))
  cases r with
  | none => exact wpAny_pure h₁
  | some v =>
    refine wpAny_bind (wpAny_of_eq (ht v) ?_)
    refine wpAny_bind (wpAny_mono h₁ (fun _ s₃ h₃ => wpAny_bind (wpAny_pure ?_)) fun _ _ h' => h')
    exact wpAny_bind (wpAny_bind (wpAny_mono h₃ (fun x s₄ h₄ => wpAny_bind (wpAny_mono h₄ (fun _ s₅ h₅ => wpAny_pure (wpAny_pure ⟨rfl, h₅⟩)) fun _ _ h' => h')) fun _ _ h' => h'))
theorem start_in {elt : Expr} {g : Comprehension} {target iter : Expr} {scope : Scope} {pos : Pos} {it acc : Value} {env : Env}
    (h0 : codeAny (model prog w) A (.compLoop (.ListComp elt [g, ⟨target, iter, [], 0⟩] scope pos) 1 it acc env) R s)
    (h : wpAny (model prog w) A (pyIter it) (fun it' s' => codeAny (model prog w) A (.compLoop (.ListComp elt [g, ⟨target, iter, [], 0⟩] scope pos) 1 it' acc env) R s')
      (notedBy (model prog w) A env fun x s' => R (.error x) s') s) :
    codeAny (model prog w) A (.compStart (.ListComp elt [g, ⟨target, iter, [], 0⟩] scope pos) 1 it acc env) R s := by
  refine codeAny_of_tree ?_
  show wpAny _ _ ((compStart (.ListComp elt [g, ⟨target, iter, [], 0⟩] scope pos) 1 it acc env).onRaise (fun x => do noteFrame x env; standAt theWindowsPlace)) _ _ s
  refine wpAny_notedAt ?_
  unfold compStart
  show wpAny _ _ (ask >>= _) _ _ s
  refine wpAny_bind (wpAny_askSetting (wpAny_ite ?_))
  split
  · first
      | exact wpAny_bind (wpAny_pure (wpAny_pure (And.intro rfl h0)))
      | exact wpAny_pure (And.intro rfl h0)
  · first
      | exact wpAny_bind (wpAny_rule (wpAny_bind (wpAny_standAt (wpAny_bind (wpAny_mono h (fun it' s' h' => wpAny_pure (And.intro rfl h')) fun _ _ x => x)))))
      | (refine wpAny_bind (wpAny_rule ?_); show wpAny _ _ (standAt iter.pos >>= _) _ _ s; exact wpAny_bind (wpAny_standAt (wpAny_bind (wpAny_mono h (fun it' s' h' => wpAny_pure (And.intro rfl h')) fun _ _ x => x))))
theorem loop_out {elt target iter t2 i2 : Expr} {scope : Scope} {pos : Pos} {it acc : Value} {env : Env} (I : Nat → Shared → Prop)
    (turn : ∀ n s, I n s → wpAny (model prog w) A (pyNext it) (fun r s₁ => match r with
      | none => R (.ok .next) s₁
      | some v => wpAny (model prog w) A (assign target env v) (fun _ s₃ =>
            wpAny (model prog w) A (eval i2 env) (fun x s₄ => wpAny (model prog w) A (pyIter x) (fun it2 s₅ =>
              codeAny (model prog w) A (.compStart (.ListComp elt [⟨target, iter, [], 0⟩, ⟨t2, i2, [], 0⟩] scope pos) 1 it2 acc env) (fun r s₆ => match r with | .ok _ => ∃ m, m < n ∧ I m s₆ | .error _ => False) s₅) (notedBy (model prog w) A env fun e s' => R (.error e) s') s₄) (notedBy (model prog w) A env fun e s' => R (.error e) s') s₃)
            (notedBy (model prog w) A env fun e s' => R (.error e) s') s₁) (notedBy (model prog w) A env fun e s' => R (.error e) s') s)
    (n : Nat) (h : I n s) (hf : ∀ x, foldedSetIterable i2 env x = pure x) (ht : ∀ v, letOwnedTupleGo target it v = pure () := by intro _; rfl) :
    codeAny (model prog w) A (.compLoop (.ListComp elt [⟨target, iter, [], 0⟩, ⟨t2, i2, [], 0⟩] scope pos) 0 it acc env) R s := by
  refine codeAny_loop rfl I (fun n s hI => ?_) n h
  show wpAny _ A ((compTurn (.ListComp elt [⟨target, iter, [], 0⟩, ⟨t2, i2, [], 0⟩] scope pos) 0 it acc env).onRaise (fun x => do noteFrame x env; theTreesLotGoes x)) _ _ s
  refine wpAny_noted ?_
  rw [turn_out]
  refine wpAny_bind (wpAny_standAt (wpAny_bind (wpAny_mono (turn n s hI) (fun r s₁ h₁ => ?_) fun _ _ h' => h')))
  cases r with
  | none => exact wpAny_pure h₁
  | some v =>
    refine wpAny_bind (wpAny_of_eq (ht v) ?_)
    refine wpAny_bind (wpAny_mono h₁ (fun _ s₃ h₃ => wpAny_bind (wpAny_pure ?_)) fun _ _ h' => h')
    refine wpAny_bind (wpAny_mono h₃ (fun x s₄ h₄ => ?_) fun _ _ h' => h')
    refine wpAny_bind (wpAny_standAt (wpAny_bind (wpAny_of_eq (hf x) ?_)))
    refine wpAny_bind (wpAny_holding (wpAny_mono h₄ (fun it2 s₅ h₅ => ?_) fun _ _ h' => h'))
    refine wpAny_bind (wpAny_runOwn (codeAny_mono h₅ (fun r s₆ h₆ => ?_)))
    cases r with
    | error e => exact h₆.elim
    | ok f => exact wpAny_pure ⟨rfl, h₆⟩
end
end Mine
end
section
open PySem PySem.W PySem.Calls PyProof.Rows
set_option maxRecDepth 100000
namespace Mine
section
variable {prog : Program} {w : World} {hb : Heap} {n : Nat} {env : Env} {ρ : Rho}
/-- what a loop over a comprehension's frame keeps -/
structure CK (hb : Heap) (cenv : Env) (DD : Addr) (wr : List Addr) (s₀ : Shared) (F₀ : FMap) (h : Heap) (tk : Nat) (F : FMap) (ys : List Value) (ds : List D) : Prop where
  acc : h.PlainList DD (List.toArray ys)
  items : InAll F ys ds
  ns : ∃ m, h.Ns cenv.locals m
  le : LeF F₀ F
  sub : Sub F h
  apart : ∀ a, F₀ a = none → (s₀.heap.get? a).isSome = true → F a = none
  keep : ∀ b o, b ≠ cenv.locals → b ≠ DD → b ∉ wr → s₀.heap.get? b = some o → h.get? b = some o
  toks : s₀.toks ≤ tk
theorem inner_loop {A : Around} {R : Result → Shared → Prop} {s : Shared} {F : FMap} {elt iter : Expr} {g : Comprehension} {x y : Str} {py : Pos} {scope : Scope} {pos : Pos} {I DD : Addr} {fp wr : List Addr} {P : Nat → Value → Prop} {SS : Nat → Heap → Prop} {cenv : Env}
    {α : Type} (xs : List α) (φ : α → D) (ψ : α → D) (hA : Amb n A) {ys₀ : List Value} {ds₀ : List D} (hsz : ys₀.length + xs.length ≤ sizeLine)
    (W : Walks prog w A I fp wr xs.length P SS) (hP : ∀ (i : Nat) v a, P i v → xs[i]? = some a → In F v (φ a))
    (ok : EnvOk cenv) (hky : cenv.kindOf y = some .local) (hkx : cenv.kindOf x = some .local) (hxy : x ≠ y) {m₀ : Str → Option Value} {vx : Value} {dx : D} (hC : s.heap.Ns cenv.locals m₀) (hmx : m₀ x = some vx) (ix : In F vx dx)
    (hF : Sub F s.heap) (hB : LeF (FMap.of hb) F) (hst : SS 0 s.heap) (hacc : s.heap.PlainList DD (List.toArray ys₀)) (i₀ : InAll F ys₀ ds₀) (htk : 0 < s.toks)
    (hob : ∀ (i : Nat) h, SS i h → ∀ b ∈ wr, IterObj h b) (hTF : F cenv.locals = none) (hDF : F DD = none) (hwF : ∀ b ∈ wr, F b = none ∧ (s.heap.get? b).isSome = true) (hTD : cenv.locals ≠ DD) (hTf : cenv.locals ∉ fp) (hDf : DD ∉ fp)
    (helt : ∀ a ∈ xs, EJ prog w hb n cenv [(y, φ a), (x, dx)] elt (ψ a))
    (hR : ∀ h' tk F' ys, CK hb cenv DD wr s F h' tk F' ys (ds₀ ++ xs.map ψ) → R (.ok .next) { s with heap := h', toks := tk }) :
    codeAny (model prog w) A (.compLoop (.ListComp elt [g, ⟨.Name y py, iter, [], 0⟩] scope pos) 1 (.ref I) (.ref DD) cenv) R s := by
  refine loop_in
    (fun k s' => ∃ h' tk F' ys i m, s' = { s with heap := h', toks := tk } ∧ i ≤ xs.length ∧ k = xs.length + 1 - i ∧ SS i h' ∧ h'.Ns cenv.locals m ∧ m x = some vx ∧ ys.length = ys₀.length + i ∧ CK hb cenv DD wr s F h' tk F' ys (ds₀ ++ (xs.take i).map ψ)) ?_ (xs.length + 1)
    ⟨s.heap, s.toks, F, ys₀, 0, m₀, rfl, Nat.zero_le _, rfl, hst, hC, hmx, rfl, ⟨hacc, by simpa using i₀, ⟨_, hC⟩, LeF.refl F, hF, fun _ e _ => e, fun _ _ _ _ _ e => e, Nat.le_refl _⟩⟩
  rintro k s' ⟨H, tk, F₁, ys, i, m, rfl, hi, rfl, hst', hCi, hmi, hyl, ck⟩
  obtain ⟨hacc', hys, _, hle, hS', hap, hk, htk'⟩ := ck
  have hTsome : (s.heap.get? cenv.locals).isSome = true := by obtain ⟨o, es, ep, e, _⟩ := hC; rw [e]; rfl
  have hDsome : (s.heap.get? DD).isSome = true := by obtain ⟨n, e⟩ := hacc; rw [e]; rfl
  have hTw : cenv.locals ∉ wr := fun h => hTf (W.sub _ h)
  have hDw : DD ∉ wr := fun h => hDf (W.sub _ h)
  have T1 := hap _ hTF hTsome
  have D1 := hap DD hDF hDsome
  have F1w : ∀ b ∈ wr, F₁ b = none := fun b hb => hap b (hwF b hb).1 (hwF b hb).2
  by_cases hlt : i < xs.length
  · have hxi : xs[i]? = some (xs[i]'hlt) := List.getElem?_eq_getElem hlt
    refine wpAny_toksE (W.item i _ _ _ hlt hst' fun v h₁ tk₁ hPv hst₁ hk₁ htk₁ => ?_)
    have htk₁ : tk ≤ tk₁ := htk₁
    have C₁ : h₁.Ns cenv.locals m := hCi.at' fun o e => hk₁ _ o hTw e
    refine wpAny_assign_Name (wpAny_storeName_local hky C₁ (fun h₂ C₂ hs₂ => ?_) (by rw [ok.kind]; rfl))
    have hst₂ : SS (i + 1) h₂ := W.frame _ _ _ hst₁ fun b hb o e => hs₂.extBut b o (fun h => hTf (h ▸ hb)) e
    have up₂ : ∀ b o, b ≠ cenv.locals → b ∉ wr → H.get? b = some o → h₂.get? b = some o := fun b o hb hbw e => hs₂.extBut b o hb (hk₁ b o hbw e)
    have S₂ : Sub F₁ h₂ := fun b o e => up₂ b o (fun h => by rw [h, T1] at e; cases e) (fun h => by rw [F1w b h] at e; cases e) (hS' b o e)
    have acc₂ : h₂.PlainList DD (List.toArray ys) := hacc'.at fun o e => up₂ _ o (Ne.symm hTD) hDw e
    have SX : St hb cenv { s with heap := h₂, toks := tk₁ + 1 } F₁ [(y, φ xs[i]), (x, dx)] := by
      refine ⟨S₂, hB.trans hle, ?_, Nat.succ_pos _⟩
      intro q hq
      rcases List.mem_cons.mp hq with rfl | hq
      · exact ⟨v, .loc hky C₂ (by simp), (hP i v _ hPv hxi).mono hle⟩
      · rw [List.mem_singleton.mp hq]
        exact ⟨vx, .loc hkx C₂ (by simp [hxy, hmi]), ix.mono hle⟩
    refine wpAny_mono (helt _ (List.getElem_mem hlt) A hA _ F₁ SX _) (fun yv s₄ h₄ => ?_) fun _ _ e => e
    obtain ⟨F₄, ⟨⟨h₄, tk₄, rfl⟩, k₄, l₄, s₄', a₄, t₄⟩, iy⟩ := h₄
    have t₄ : tk₁ + 1 ≤ tk₄ := t₄
    have D4 : F₄ DD = none := a₄ DD D1 (by obtain ⟨n, e⟩ := acc₂; show (h₂.get? DD).isSome = true; rw [e]; rfl)
    have hlen : ys.length ≤ sizeLine := by omega
    refine wpAny_list_append_plain (hsz := by rw [List.size_toArray]; exact hlen) (acc₂.at fun o e => k₄ _ o e) fun h₅ hl₅ hs₅ => ?_
    have ext5 := hs₅.extBut
    refine ⟨xs.length + 1 - (i + 1), by omega, h₅, tk₄, F₄, ys ++ [yv], i + 1, _, rfl, hlt, rfl, ?_, C₂.at' fun o e => ext5 _ o hTD (k₄ _ o e), by simp [hxy, hmi], by rw [List.length_append]; simp; omega, ⟨by simpa using hl₅, ?_, ⟨_, C₂.at' fun o e => ext5 _ o hTD (k₄ _ o e)⟩, hle.trans l₄, ?_, ?_, ?_, by show s.toks ≤ tk₄; omega⟩⟩
    · exact W.frame _ _ _ hst₂ fun b hb o e => ext5 b o (fun h => hDf (h ▸ hb)) (k₄ b o e)
    · rw [List.take_succ, hxi, Option.toList_some, List.map_append, ← List.append_assoc]
      exact (hys.mono l₄).append (.cons iy .nil)
    · exact fun b o e => ext5 b o (fun h => by rw [h, D4] at e; cases e) (s₄' b o e)
    · intro a e1 e2
      refine a₄ a (hap a e1 e2) ?_
      show (h₂.get? a).isSome = true
      by_cases haT : a = cenv.locals
      · rw [haT]; obtain ⟨o, es, ep, e, _⟩ := C₂; rw [e]; rfl
      · by_cases haD : a = DD
        · rw [haD]; obtain ⟨n, e⟩ := acc₂; rw [e]; rfl
        · by_cases haw : a ∈ wr
          · exact (hob _ _ hst₂ a haw).some
          · obtain ⟨o, ho⟩ := Option.isSome_iff_exists.mp e2
            rw [up₂ a o haT haw (hk a o haT haD haw ho)]; rfl
    · exact fun b o n1 n2 n3 e => ext5 b o n2 (k₄ b o (up₂ b o n1 n3 (hk b o n1 n2 n3 e)))
  · have hin : i = xs.length := by omega
    subst hin
    refine wpAny_toksE (W.done _ _ _ hst' fun h₁ tk₁ hk₁ htk₁ => ?_)
    have htk₁ : tk ≤ tk₁ := htk₁
    rw [List.take_length] at hys
    exact hR h₁ tk₁ F₁ ys ⟨hacc'.at fun o e => hk₁ _ o hDw e, hys, ⟨m, hCi.at' fun o e => hk₁ _ o hTw e⟩, hle, fun b o e => hk₁ b o (fun h => by rw [F1w b h] at e; cases e) (hS' b o e), hap, fun b o n1 n2 n3 e => hk₁ b o n3 (hk b o n1 n2 n3 e), by omega⟩
end
end Mine
end
section
open PySem PySem.W PySem.Calls PyProof.Rows
set_option maxRecDepth 100000
namespace Mine
section
variable {prog : Program} {w : World} {hb : Heap} {n : Nat} {env : Env} {ρ : Rho}
theorem outer_loop {A : Around} {R : Result → Shared → Prop} {s : Shared} {F : FMap} {elt it1 it2 : Expr} {x y : Str} {px py : Pos} {scope : Scope} {pos : Pos} {I DD : Addr} {fp wr : List Addr} {P : Nat → Value → Prop} {SS : Nat → Heap → Prop} {cenv : Env} {ρf : Rho} {h₀ : Heap}
    {α β : Type} (xs : List α) (φ : α → D) (zs : List β) (χ : β → D) (ψ : α → β → D) (hA : Amb n A) (hsz : xs.length * zs.length ≤ 1000)
    (W : Walks prog w A I fp wr xs.length P SS) (hP : ∀ (i : Nat) v a, P i v → xs[i]? = some a → In F v (φ a))
    (ok : EnvOk cenv) (hky : cenv.kindOf y = some .local) (hkx : cenv.kindOf x = some .local) (hxy : x ≠ y) {m₀ : Str → Option Value} (hC : s.heap.Ns cenv.locals m₀)
    (hF : Sub F s.heap) (hB : LeF (FMap.of hb) F) (hst : SS 0 s.heap) (hacc : s.heap.PlainList DD #[]) (htk : 0 < s.toks)
    (hob : ∀ (i : Nat) h, SS i h → ∀ b ∈ wr, IterObj h b) (hTF : F cenv.locals = none) (hDF : F DD = none) (hwF : ∀ b ∈ wr, F b = none ∧ (s.heap.get? b).isSome = true) (hTD : cenv.locals ≠ DD) (hTf : cenv.locals ∉ fp) (hDf : DD ∉ fp)
    (keep₀ : ∀ b o, h₀.get? b = some o → s.heap.get? b = some o ∧ b ≠ cenv.locals ∧ b ≠ DD ∧ b ∉ wr) (hρ : ∀ q ∈ ρf, ∃ v, VarIn cenv h₀ q.1 v ∧ In F v q.2)
    (hsrc : ∀ a ∈ xs, SrcJ prog w hb n cenv ((x, φ a) :: ρf) it2 (zs.map χ))
    (helt : ∀ a ∈ xs, ∀ b ∈ zs, EJ prog w hb n cenv [(y, χ b), (x, φ a)] elt (ψ a b))
    (hf : ∀ v, foldedSetIterable it2 cenv v = pure v)
    (hR : ∀ h' tk F' ys, CK hb cenv DD wr s F h' tk F' ys (xs.flatMap fun a => zs.map (ψ a)) → R (.ok .next) { s with heap := h', toks := tk }) :
    codeAny (model prog w) A (.compLoop (.ListComp elt [⟨.Name x px, it1, [], 0⟩, ⟨.Name y py, it2, [], 0⟩] scope pos) 0 (.ref I) (.ref DD) cenv) R s := by
  refine loop_out
    (fun k s' => ∃ h' tk F' ys i, s' = { s with heap := h', toks := tk } ∧ i ≤ xs.length ∧ k = xs.length + 1 - i ∧ SS i h' ∧ ys.length = i * zs.length ∧ CK hb cenv DD wr s F h' tk F' ys ((xs.take i).flatMap fun a => zs.map (ψ a))) ?_ (xs.length + 1)
    ⟨s.heap, s.toks, F, [], 0, rfl, Nat.zero_le _, rfl, hst, by simp, ⟨hacc, by simpa using InAll.nil, ⟨_, hC⟩, LeF.refl F, hF, fun _ e _ => e, fun _ _ _ _ _ e => e, Nat.le_refl _⟩⟩ hf
  rintro k s' ⟨H, tk, F₁, ys, i, rfl, hi, rfl, hst', hyl, ck⟩
  obtain ⟨hacc', hys, ⟨m, hCi⟩, hle, hS', hap, hk, htk'⟩ := ck
  have hTsome : (s.heap.get? cenv.locals).isSome = true := by obtain ⟨o, es, ep, e, _⟩ := hC; rw [e]; rfl
  have hDsome : (s.heap.get? DD).isSome = true := by obtain ⟨n, e⟩ := hacc; rw [e]; rfl
  have hTw : cenv.locals ∉ wr := fun h => hTf (W.sub _ h)
  have hDw : DD ∉ wr := fun h => hDf (W.sub _ h)
  have T1 := hap _ hTF hTsome
  have D1 := hap DD hDF hDsome
  have F1w : ∀ b ∈ wr, F₁ b = none := fun b hb => hap b (hwF b hb).1 (hwF b hb).2
  by_cases hlt : i < xs.length
  · have hxi : xs[i]? = some (xs[i]'hlt) := List.getElem?_eq_getElem hlt
    have hmem : xs[i] ∈ xs := List.getElem_mem hlt
    refine wpAny_toksE (W.item i _ _ _ hlt hst' fun v h₁ tk₁ hPv hst₁ hk₁ htk₁ => ?_)
    have htk₁ : tk ≤ tk₁ := htk₁
    have C₁ : h₁.Ns cenv.locals m := hCi.at' fun o e => hk₁ _ o hTw e
    refine wpAny_assign_Name (wpAny_storeName_local hkx C₁ (fun h₂ C₂ hs₂ => ?_) (by rw [ok.kind]; rfl))
    have hst₂ : SS (i + 1) h₂ := W.frame _ _ _ hst₁ fun b hb o e => hs₂.extBut b o (fun h => hTf (h ▸ hb)) e
    have up₂ : ∀ b o, b ≠ cenv.locals → b ∉ wr → H.get? b = some o → h₂.get? b = some o := fun b o hb hbw e => hs₂.extBut b o hb (hk₁ b o hbw e)
    have S₂ : Sub F₁ h₂ := fun b o e => up₂ b o (fun h => by rw [h, T1] at e; cases e) (fun h => by rw [F1w b h] at e; cases e) (hS' b o e)
    have acc₂ : h₂.PlainList DD (List.toArray ys) := hacc'.at fun o e => up₂ _ o (Ne.symm hTD) hDw e
    have iv₁ : In F₁ v (φ xs[i]) := (hP i v _ hPv hxi).mono hle
    have SX : St hb cenv { s with heap := h₂, toks := tk₁ + 1 } F₁ ((x, φ xs[i]) :: ρf) := by
      refine ⟨S₂, hB.trans hle, ?_, Nat.succ_pos _⟩
      intro q hq
      rcases List.mem_cons.mp hq with rfl | hq
      · exact ⟨v, .loc hkx C₂ (by simp), iv₁⟩
      · obtain ⟨u, hu, iu⟩ := hρ q hq
        refine ⟨u, ?_, iu.mono hle⟩
        exact hu.keeps fun b o e => by
          obtain ⟨e1, n1, n2, n3⟩ := keep₀ b o e
          exact up₂ b o n1 n3 (hk b o n1 n2 n3 e1)
    refine wpAny_mono (hsrc _ hmem A hA _ F₁ SX _) (fun xv s₃ h₃ => wpAny_mono h₃ (fun it2v s₄ h₄ => ?_) fun _ _ e => e) fun _ _ e => e
    obtain ⟨F₂, I2, fp2, wr2, P2, SS2, rfl, x₂, W2, hst2, hP2, hwr2, hfp2, hob2, hI2⟩ := h₄
    obtain ⟨⟨h₄, tk₄, rfl⟩, k₂, l₂, s₂', a₂, t₂⟩ := x₂
    have t₂ : tk₁ + 1 ≤ tk₄ := t₂
    simp only [List.length_map] at W2
    have C₂some : (h₂.get? cenv.locals).isSome = true := by obtain ⟨o, es, ep, e, _⟩ := C₂; rw [e]; rfl
    have D₂some : (h₂.get? DD).isSome = true := by obtain ⟨n, e⟩ := acc₂; rw [e]; rfl
    have T2 : F₂ cenv.locals = none := a₂ _ T1 C₂some
    have D2 : F₂ DD = none := a₂ _ D1 D₂some
    have hTw2 : cenv.locals ∉ wr2 := fun h => by have := (hwr2 _ h).2.2; have e : h₂.get? cenv.locals = none := this; rw [e] at C₂some; cases C₂some
    have hDw2 : DD ∉ wr2 := fun h => by have := (hwr2 _ h).2.2; have e : h₂.get? DD = none := this; rw [e] at D₂some; cases D₂some
    have hTf2 : cenv.locals ∉ fp2 := fun h => by
      rcases (hfp2 _ h).1 with h | h
      · exact hTw2 h
      · rw [T2] at h; cases h
    have hDf2 : DD ∉ fp2 := fun h => by
      rcases (hfp2 _ h).1 with h | h
      · exact hDw2 h
      · rw [D2] at h; cases h
    have oldw : ∀ b o, h₂.get? b = some o → b ∉ wr2 := fun b o e h => by have := (hwr2 _ h).2.2; have e2 : h₂.get? b = none := this; rw [e] at e2; cases e2
    have C₄ : h₄.Ns cenv.locals (fun y => if y = x then some v else m y) := C₂.at' fun o e => k₂ _ o e
    have acc₄ : h₄.PlainList DD (List.toArray ys) := acc₂.at fun o e => k₂ _ o e
    have hcap : ys.length + zs.length ≤ 1000 := by
      have h1 : (i + 1) * zs.length ≤ xs.length * zs.length := Nat.mul_le_mul_right _ hlt
      rw [Nat.add_mul, Nat.one_mul] at h1
      omega
    have inner : codeAny (model prog w) A (.compLoop (.ListComp elt [⟨.Name x px, it1, [], 0⟩, ⟨.Name y py, it2, [], 0⟩] scope pos) 1 (.ref I2) (.ref DD) cenv)
        (fun r s₆ => match r with | .ok _ => ∃ k', k' < xs.length + 1 - i ∧ ∃ h' tk F' ys i, s₆ = { s with heap := h', toks := tk } ∧ i ≤ xs.length ∧ k' = xs.length + 1 - i ∧ SS i h' ∧ ys.length = i * zs.length ∧ CK hb cenv DD wr s F h' tk F' ys ((xs.take i).flatMap fun a => zs.map (ψ a)) | .error _ => False) { s with heap := h₄, toks := tk₄ } := by
      refine inner_loop (hb := hb) (F := F₂) (s := { s with heap := h₄, toks := tk₄ }) (x := x) (vx := v) (dx := φ xs[i]) (ds₀ := (xs.take i).flatMap fun a => zs.map (ψ a)) zs χ (ψ xs[i]) hA (by rw [sizeLine_eq]; omega) W2 (fun j u b hj hb => hP2 j u _ hj (by simp [hb])) ok hky hkx hxy C₄ (by simp) (iv₁.mono l₂) s₂' ((hB.trans hle).trans l₂) hst2 acc₄ (hys.mono l₂) (by show 0 < tk₄; omega)
        hob2 T2 D2 (fun b hb => ⟨(hwr2 b hb).1, (hwr2 b hb).2.1⟩) hTD hTf2 hDf2 (helt _ hmem) ?_
      rintro h' tk' F' ys' ⟨c1, c2, c3, c4, c5, c6, c7, c8⟩
      have c8 : tk₄ ≤ tk' := c8
      have up : ∀ b o, b ≠ cenv.locals → b ≠ DD → h₂.get? b = some o → h'.get? b = some o := fun b o n1 n2 e => c7 b o n1 n2 (oldw b o e) (k₂ b o e)
      have hlen : ys'.length = (i + 1) * zs.length := by
        have e := c2.length
        rw [List.length_append, ← hys.length, List.length_map, hyl] at e
        rw [e, Nat.add_mul, Nat.one_mul]
      refine ⟨xs.length + 1 - (i + 1), by omega, h', tk', F', ys', i + 1, rfl, hlt, rfl, ?_, hlen, ⟨c1, ?_, c3, (hle.trans l₂).trans c4, c5, ?_, ?_, by show s.toks ≤ tk'; omega⟩⟩
      · exact W.frame _ _ _ hst₂ fun b hb o e => up b o (fun h => hTf (h ▸ hb)) (fun h => hDf (h ▸ hb)) e
      · rw [List.take_succ, hxi, Option.toList_some, List.flatMap_append, List.flatMap_singleton]
        exact c2
      · intro a e1 e2
        have some₂ : (h₂.get? a).isSome = true := by
          by_cases haT : a = cenv.locals
          · rw [haT]; exact C₂some
          · by_cases haD : a = DD
            · rw [haD]; exact D₂some
            · by_cases haw : a ∈ wr
              · exact (hob _ _ hst₂ a haw).some
              · obtain ⟨o, ho⟩ := Option.isSome_iff_exists.mp e2
                rw [up₂ a o haT haw (hk a o haT haD haw ho)]; rfl
        refine c6 a (a₂ a (hap a e1 e2) some₂) ?_
        obtain ⟨o, ho⟩ := Option.isSome_iff_exists.mp some₂
        show (h₄.get? a).isSome = true
        rw [k₂ a o ho]; rfl
      · exact fun b o n1 n2 n3 e => up b o n1 n2 (up₂ b o n1 n3 (hk b o n1 n2 n3 e))
    exact start_in inner (W2.self 0 _ _ _ hst2 inner)
  · have hin : i = xs.length := by omega
    subst hin
    refine wpAny_toksE (W.done _ _ _ hst' fun h₁ tk₁ hk₁ htk₁ => ?_)
    have htk₁ : tk ≤ tk₁ := htk₁
    rw [List.take_length] at hys
    exact hR h₁ tk₁ F₁ ys ⟨hacc'.at fun o e => hk₁ _ o hDw e, hys, ⟨m, hCi.at' fun o e => hk₁ _ o hTw e⟩, hle, fun b o e => hk₁ b o (fun h => by rw [F1w b h] at e; cases e) (hS' b o e), hap, fun b o n1 n2 n3 e => hk₁ b o n3 (hk b o n1 n2 n3 e), by omega⟩
end
end Mine
end
section
open PySem PySem.W PySem.Calls PyProof.Rows
set_option maxRecDepth 100000
namespace Mine
section
variable {prog : Program} {w : World} {hb : Heap} {n : Nat} {env : Env} {ρ : Rho}
theorem NJ.comp2 {elt it1 it2 : Expr} {x y : Str} {px py : Pos} {scope : Scope} {cl : List (Str × Addr)} {pos : Pos} {ρf : Rho} {α β : Type} (xs : List α) (φ : α → D) (zs : List β) (χ : β → D) (ψ : α → β → D)
    (ok : EnvOk env) (hf : Frees env scope cl ρ ρf) (hsz : xs.length * zs.length ≤ 1000) (hsrc : SrcJ prog w hb n env ρ it1 (xs.map φ))
    (hsrc2 : ∀ C cs, cs = cellsFrom (C + 1) scope.names cl → ∀ a ∈ xs, SrcJ prog w hb n (compEnvC scope cs C env) ((x, φ a) :: ρf) it2 (zs.map χ))
    (helt : ∀ C cs, cs = cellsFrom (C + 1) scope.names cl → ∀ a ∈ xs, ∀ b ∈ zs, EJ prog w hb n (compEnvC scope cs C env) [(y, χ b), (x, φ a)] elt (ψ a b))
    (hxy : x ≠ y) (hp : ∀ h : Heap, pushCells h scope.names = h := by intro _; rfl)
    (hlx : scope.names.lookup x = some .local := by rfl) (hly : scope.names.lookup y = some .local := by rfl)
    (hclos : closureFor scope env = pure cl := by rfl) (hkind : scope.kind = .function := by rfl) (hnames : namesOk scope = true := by rfl)
    (hs : ∀ env x, foldedSetIterable it1 env x = pure x := by intro _ _; rfl) (hs2 : ∀ env x, foldedSetIterable it2 env x = pure x := by intro _ _; rfl) :
    NJ prog w hb n env ρ (.ListComp elt [⟨.Name x px, it1, [], 0⟩, ⟨.Name y py, it2, [], 0⟩] scope pos) (xs.flatMap fun a => zs.map (ψ a)) := by
  intro A hA s F S E
  rw [eval_ListComp]
  refine wpAny_comprehension_free rfl (hs env) hclos hkind (namesOk_iff hnames) (wpAny_mono (hsrc A hA s F S E) (fun xv s₁ h₁ => wpAny_mono h₁ (fun it s₂ h₂ => ?_) fun _ _ e => e) fun _ _ e => e)
  obtain ⟨F₂, I, fp, wr, P, SS, rfl, x₂, W, hst, hP, hwr, hfp, hob, hI⟩ := h₂
  refine wpAny_newObj_type (newCompEnv ?_)
  simp only [List.length_map] at W
  have hszp : (s₂.heap.push { cls := .type "list", data := .seq ([] : List Value).toArray }).objs.size = s₂.heap.objs.size + 1 := Heap.size_push ..
  dsimp only
  rw [hszp]
  generalize hH : pushCells ((s₂.heap.push { cls := .type "list", data := .seq ([] : List Value).toArray }).push { cls := .type "dict", data := .dict #[] }) scope.names = H3
  have hkeep : ∀ b o, ((s₂.heap.push { cls := .type "list", data := .seq ([] : List Value).toArray }).push { cls := .type "dict", data := .dict #[] }).get? b = some o → H3.get? b = some o := fun b o e => hH ▸ pushCells_keeps _ _ b o e
  have hold : ∀ b o, s₂.heap.get? b = some o → H3.get? b = some o := fun b o e => hkeep b o (Heap.get?_push_of_some _ (Heap.get?_push_of_some _ e))
  have hD3 : H3.PlainList s₂.heap.objs.size #[] := ⟨0, hkeep _ _ (Heap.get?_push_of_some _ (Heap.get?_push_size _ rfl))⟩
  have hC3 : H3.Ns (s₂.heap.objs.size + 1) (fun _ => none) := by
    have := Heap.Ns.new (s₂.heap.push { cls := .type "list", data := .seq ([] : List Value).toArray }) (.type "dict")
    rw [hszp] at this
    exact this.keeps hkeep
  have fresh : ∀ a, s₂.heap.objs.size ≤ a → s₂.heap.get? a = none := fun a ha => Heap.get?_none_of_le ha
  have hF₂ : ∀ a, s₂.heap.objs.size ≤ a → F₂ a = none := fun a ha => x₂.sub.none_of (fresh a ha)
  have hs0 : ∀ a, s₂.heap.objs.size ≤ a → s.heap.get? a = none := fun a ha => by
    cases q : s.heap.get? a with
    | none => rfl
    | some o => have := x₂.keep _ _ q; rw [fresh a ha] at this; cases this
  have keep₀ : ∀ b o, s.heap.get? b = some o → H3.get? b = some o ∧ b ≠ s₂.heap.objs.size + 1 ∧ b ≠ s₂.heap.objs.size ∧ b ∉ wr := fun b o e => by
    have e2 := x₂.keep b o e
    have lt := Heap.lt_size e2
    refine ⟨hold b o e2, Nat.ne_of_lt (Nat.lt_succ_of_lt lt), Nat.ne_of_lt lt, fun hb => ?_⟩
    rw [(hwr b hb).2.2] at e; cases e
  have okc : EnvOk (compEnvC scope (cellsFrom (s₂.heap.objs.size + 1 + 1) scope.names cl) (s₂.heap.objs.size + 1) env) := ⟨hkind, ok.glob, ok.blt⟩
  have loop : codeAny (model prog w) A (.compLoop (.ListComp elt [⟨.Name x px, it1, [], 0⟩, ⟨.Name y py, it2, [], 0⟩] scope pos) 0 (.ref I) (.ref s₂.heap.objs.size) (compEnvC scope (cellsFrom (s₂.heap.objs.size + 1 + 1) scope.names cl) (s₂.heap.objs.size + 1) env))
      (compPost (model prog w) A E none (fun v s' => ∃ F' a vs, v = .ref a ∧ Ext s F s' F' ∧ F' a = none ∧ s.heap.get? a = none ∧ s'.heap.PlainList a (List.toArray vs) ∧ InAll F' vs (xs.flatMap fun a => zs.map (ψ a))) (.ref s₂.heap.objs.size) (s₂.heap.objs.size + 1)) { s₂ with heap := H3 } := by
    refine outer_loop (hb := hb) (h₀ := s.heap) (F := F₂) (ρf := ρf) (s := { s₂ with heap := H3 }) xs φ zs χ ψ hA hsz W (fun i v a hi ha => hP i v _ hi (by simp [ha])) okc (lookup_relabel_local hly) (lookup_relabel_local hlx) hxy hC3 (fun b o e => hold b o (x₂.sub b o e)) (S.base.trans x₂.le)
      (W.frame _ _ _ hst fun b _ o e => hold b o e) hD3 (Nat.lt_of_lt_of_le S.tok x₂.toks) hob (hF₂ _ (Nat.le_succ _)) (hF₂ _ (Nat.le_refl _))
      (fun b hb => ⟨(hwr b hb).1, by obtain ⟨o, ho⟩ := Option.isSome_iff_exists.mp (hwr b hb).2.1; show (H3.get? b).isSome = true; rw [hold b o ho]; rfl⟩)
      (Nat.succ_ne_self _) (fun hm => Nat.lt_irrefl _ (Nat.lt_of_succ_lt (hfp _ hm).2)) (fun hm => Nat.lt_irrefl _ (hfp _ hm).2) keep₀ ?_ (hsrc2 _ _ rfl) (helt _ _ rfl) (hs2 _) ?_
    · intro q hq
      obtain ⟨hm, fo⟩ := hf.all q hq
      obtain ⟨v, hv, iv⟩ := S.vars q hm
      refine ⟨v, ?_, iv.mono x₂.le⟩
      cases hv with
      | loc hk _ _ => rcases fo.k with h | h <;> rw [h] at hk <;> cases hk
      | cell hk hc hvv => exact .cell fo.k' ((fo.c _).trans hc) hvv
    · rintro h' tk F' ys ⟨hl, hys, ⟨m, Cns⟩, hle, hsub, hap, hk, htk⟩
      have hk' : ∀ b o, s.heap.get? b = some o → h'.get? b = some o := fun b o e => by
        obtain ⟨e1, n1, n2, n3⟩ := keep₀ b o e
        exact hk b o n1 n2 n3 e1
      have D' : F' s₂.heap.objs.size = none := hap _ (hF₂ _ (Nat.le_refl _)) (by obtain ⟨k, e⟩ := hD3; show (H3.get? _).isSome = true; rw [e]; rfl)
      have C' : F' (s₂.heap.objs.size + 1) = none := hap _ (hF₂ _ (Nat.le_succ _)) (by obtain ⟨o, es, ep, e, _⟩ := hC3; show (H3.get? _).isSome = true; rw [e]; rfl)
      obtain ⟨⟨h2, t2, e2⟩, k2, l2, s2, a2, tk2⟩ := x₂
      subst e2
      refine ⟨m, Cns, fun h'' hs' => ⟨F', h2.objs.size, ys, rfl, ?_, D', hs0 _ (Nat.le_refl _), hl.extBut hs'.extBut (Nat.ne_of_lt (Nat.lt_succ_self _)), hys⟩⟩
      refine ⟨⟨h'', tk, rfl⟩, fun b o e => hs'.extBut b o (fun q => ?_) (hk' b o e), l2.trans hle, fun b o e => hs'.extBut b o (fun q => by rw [q] at e; have C'' : F' (h2.objs.size + 1) = none := C'; rw [C''] at e; cases e) (hsub b o e), fun a e1 e2 => hap a (a2 a e1 e2) ?_, Nat.le_trans tk2 htk⟩
      · have e' : s.heap.get? b = some o := e
        rw [q, hs0 _ (Nat.le_succ _)] at e'; cases e'
      · obtain ⟨o, ho⟩ := Option.isSome_iff_exists.mp e2
        show (H3.get? a).isSome = true
        rw [(keep₀ a o ho).1]; rfl
  exact codeAny_compStart_list loop (W.self 0 _ _ _ (W.frame _ _ _ hst fun b _ o e => hold b o e) loop)
end
end Mine
end
section
open PySem PySem.W PySem.Calls PyProof.Rows
set_option maxRecDepth 100000
namespace Mine
/-- texts as lists of signs -/
def ofL (l : List Nat) : Str := ⟨l.toArray⟩
theorem ofL_inj {a b : List Nat} : ofL a = ofL b ↔ a = b := by
  constructor
  · intro h; injection h with h; simpa using h
  · rintro rfl; rfl
theorem ofL_beq (a b : List Nat) : (ofL a == ofL b) = (a == b) := by
  rw [Bool.eq_iff_iff, beq_iff_eq, beq_iff_eq, ofL_inj]
theorem ofL_app (a b : List Nat) : ofL a ++ ofL b = ofL (a ++ b) := by
  show Str.append (ofL a) (ofL b) = ofL (a ++ b)
  simp [Str.append, ofL]
theorem ofL_len (a : List Nat) : (ofL a).length = a.length := by simp [ofL, Str.length]
theorem dot_L : (("." : String) : Str) = ofL [46] := by decide +kernel
def upL (l : List Nat) : List Nat := l.map up1
def loL (l : List Nat) : List Nat := l.map lo1
def ascL (l : List Nat) : Bool := l.all fun c => decide (c < 128)
theorem upper_L {l : List Nat} (h : ascL l = true) : Txt.upper (ofL l) = ofL (upL l) := by
  rw [upper_ascii (x := ofL l) (fun c hc => of_decide_eq_true (List.all_eq_true.mp h c (by simpa [ofL] using hc)))]; simp [ofL, upL]
theorem lower_L {l : List Nat} (h : ascL l = true) : Txt.lower (ofL l) = ofL (loL l) := by
  rw [lower_ascii (x := ofL l) (fun c hc => of_decide_eq_true (List.all_eq_true.mp h c (by simpa [ofL] using hc)))]; simp [ofL, loL]
def jn : List Nat → List (List Nat) → List Nat
  | _, [] => []
  | s, x :: r => r.foldl (fun acc p => acc ++ s ++ p) x
theorem foldl_L (s : List Nat) : ∀ (r : List (List Nat)) (x : List Nat), (r.map ofL).foldl (fun acc p => acc ++ s.toArray ++ p.cps) x.toArray = (r.foldl (fun acc p => acc ++ s ++ p) x).toArray
  | [], x => rfl
  | p :: r, x => by
    rw [List.map_cons, List.foldl_cons, List.foldl_cons, ← foldl_L s r (x ++ s ++ p)]
    simp [ofL]
theorem join_L (s : List Nat) (hl : List (List Nat)) : Txt.join (ofL s) (hl.map ofL) = ofL (jn s hl) := by
  cases hl with
  | nil => rfl
  | cons x r => exact congrArg Str.mk (foldl_L s r x)
theorem extract_L (l : List Nat) (i k : Nat) : l.toArray.extract i (i + k) = ((l.drop i).take k).toArray := by
  simp [List.extract_eq_take_drop]
theorem beq_L (a b : List Nat) : (a.toArray == b.toArray) = (a == b) := by
  rw [Bool.eq_iff_iff, beq_iff_eq, beq_iff_eq]; simp
def startsL (a b : List Nat) : Bool := decide (b.length ≤ a.length) && (a.take b.length == b)
def endsL (a b : List Nat) : Bool := decide (b.length ≤ a.length) && (a.drop (a.length - b.length) == b)
theorem starts_L (a b : List Nat) : Txt.startswith (ofL a) (ofL b) = startsL a b := by
  unfold Txt.startswith Builtin.Str.subAt startsL
  rw [ofL_len, ofL_len, Nat.zero_add]
  show (_ && (a.toArray.extract 0 (b.length) == b.toArray)) = _
  have e := extract_L a 0 b.length
  rw [Nat.zero_add] at e
  rw [e, beq_L, List.drop_zero]
theorem ends_L (a b : List Nat) : Txt.endswith (ofL a) (ofL b) = endsL a b := by
  unfold Txt.endswith Builtin.Str.subAt endsL
  rw [ofL_len, ofL_len, Nat.zero_add]
  show (_ && (a.toArray.extract (a.length - b.length) (a.length - b.length + b.length) == b.toArray)) = _
  rw [extract_L, beq_L, List.take_of_length_le (by rw [List.length_drop]; omega)]
def e7 (l : List Nat) : Bool := decide (2 ≤ l.length) && (l.getD (l.length - 2) 0 == 46 && Sre.isDigit (l.getD (l.length - 1) 0))
theorem getD_L (l : List Nat) (i : Nat) : l.toArray.getD i 0 = l.getD i 0 := by
  rw [List.getD_eq_getElem?_getD, Array.getD_eq_getD_getElem?]; simp
theorem e7_L (l : List Nat) : ends7 (ofL l).cps = e7 l := by
  unfold ends7 e7 ofL
  simp only [List.size_toArray, getD_L]
def tameL : List Nat → Bool
  | a :: b :: r => (!Sre.isDigit a || (!Sre.isDigit b && b != 10)) && tameL (b :: r)
  | _ => true
theorem tame_L : ∀ (l : List Nat), tameL l = true → Tame l.toArray
  | [], _, i, hi, _ => by simp at hi
  | [a], _, i, hi, _ => by simp at hi
  | a :: b :: r, h, i, hi, hd => by
    simp only [tameL, Bool.and_eq_true] at h
    rw [getD_L] at hd
    rw [getD_L]
    cases i with
    | zero =>
      have hd' : Sre.isDigit a = true := hd
      have h1 := h.1
      rw [hd'] at h1
      simpa using h1
    | succ i =>
      have := tame_L (b :: r) h.2 i (by simpa using hi) (by rw [getD_L]; exact hd)
      rw [getD_L] at this
      exact this
def tokL (l : List Nat) : Bool := tameL l && (decide (l.length ≤ 100) && ascL l)
theorem tok_L {l : List Nat} (h : tokL l = true) : TOk (ofL l) ∧ l.length ≤ 100 ∧ ascL l = true := by
  simp only [tokL, Bool.and_eq_true, decide_eq_true_eq] at h
  exact ⟨⟨tame_L l h.1, by rw [ofL_len]; omega⟩, h.2.1, h.2.2⟩
def udmL (a b : List Nat) : Bool :=
  if !(!e7 a && (!e7 b && true)) then a == b else (startsL b [46] && (endsL a b && true)) || (!startsL b [46] && ((a == b) && true))
theorem udm_L (a b : List Nat) : udmB (ofL a) (ofL b) = udmL a b := by
  unfold udmB udmL
  rw [e7_L, e7_L, ofL_beq, dot_L, starts_L, ends_L]
/-- names as lists -/
def labsL : List (List Nat) := [[97], [108, 111, 99, 97, 108], [98, 97]]
def topsL : List (List Nat) := [[111, 114, 103], [99, 111, 109], [55], [108, 111, 99, 97, 108]]
def frontsL : List (List (List Nat)) := (labsL.map fun x => [x]) ++ (labsL.flatMap fun x => labsL.map fun y => [x, y]) ++ (labsL.flatMap fun x => labsL.flatMap fun y => labsL.map fun z => [x, y, z])
def hostsL : List (List (List Nat)) := frontsL.flatMap fun l => topsL.map fun t => l ++ [t]
def bareL (h : List (List Nat)) : Bool := (h.getLastD [] == [55]) || ((h.drop 1 == [[99, 111, 109]]) || (h.drop 1 == [[111, 114, 103]]))
def namesL (h : List (List Nat)) : List (List Nat) := if bareL h then h else h.drop 1
/-- a zone: with a dot ahead or not, its names -/
abbrev Zn := Bool × List (List Nat)
def znL (h : List (List Nat)) : Zn := (!bareL h, namesL h)
def bstrL (z : Zn) : List Nat := jn [46] z.2
def zstrL (z : Zn) : List Nat := if z.1 then 46 :: bstrL z else bstrL z
def lowL (z : Zn) : List Nat := if z.1 then [119, 46] ++ bstrL z else bstrL z
def greatL (z : Zn) : List Nat := if z.1 then [87, 46] ++ upL (bstrL z) else upL (bstrL z)
def lastL (z : Zn) : List Nat := z.2.getLastD []
def zonesL : List Zn := (hostsL.map znL).eraseDups
def holdsL (z y : Zn) : Bool := (z == y) || (z.1 && (decide (z.2.length < y.2.length) && (y.2.drop (y.2.length - z.2.length) == z.2)))
def chkZone (z : Zn) : Bool :=
  let b := bstrL z
  let s := zstrL z
  ((tokL b && tokL s) && (((loL (upL s) == s) && (loL s == s)) && ((ascL (upL s) && ascL (greatL z)) && udmL s s))) &&
  ((((loL ([87, 46] ++ upL b) == [119, 46] ++ b) && tokL ([119, 46] ++ b)) && ((loL b == b) && !udmL ([119, 46] ++ b) b)) &&
  (((((loL (greatL z ++ [46, 88]) == lowL z ++ [46, 120]) && tokL (lowL z ++ [46, 120])) && !udmL (lowL z ++ [46, 120]) s)) &&
  (((loL (greatL z) == lowL z) && tokL (lowL z)) && (((loL (46 :: lastL z) == 46 :: lastL z) && tokL (46 :: lastL z)) && (udmL (lowL z) (46 :: lastL z) == (lastL z != [55]))))))
theorem zones_chk : zonesL.all chkZone = true := by decide +kernel
theorem zones_all : hostsL.all (fun h => zonesL.contains (znL h)) = true := by decide +kernel
end Mine
end
section
open PySem PySem.W PySem.Calls PyProof.Rows
set_option maxRecDepth 100000
namespace Mine
theorem pairs_chk : zonesL.all (fun z => zonesL.all fun y => udmL (lowL z) (zstrL y) == holdsL y z) = true := by decide +kernel
def aS : Str := ofL [97]
def bigA : Str := ofL [65]
def chkRep (z : Zn) : Bool := let l := (Txt.replace (ofL (zstrL z)) (ofL [97]) (ofL [65])).cps.toList; (loL l == zstrL z) && (ascL l && decide (l.length ≤ 100))
theorem reps_chk : zonesL.all chkRep = true := by decide +kernel
def ndotB (x : Str) : Bool := !(x == ofL []) && ((Txt.charAt x 0).isSome && ((Txt.charAt x (-1)).isSome && (!(Txt.item x 0 == ofL [46]) && !(Txt.item x (-1) == ofL [46]))))
def chkHost (h : List (List Nat)) : Bool :=
  let x := ofL (jn [46] h)
  (tokL (jn [46] h) && ndotB x) && ((decide (0 ≤ Txt.find x (ofL [46])) && decide ((Txt.find x (ofL [46])) ≤ 100)) && ((reachB x == ofL (zstrL (znL h))) && ((bareB (h.map ofL) == bareL h) && (JoinOk (ofL [46]) (h.map ofL) && JoinOk (ofL [46]) ((namesL h).map ofL)))))
theorem hosts_chk0 : (hostsL.take 52).all chkHost = true := by decide +kernel
theorem hosts_chk1 : ((hostsL.drop 52).take 52).all chkHost = true := by decide +kernel
theorem hosts_chk2 : (hostsL.drop 104).all chkHost = true := by decide +kernel
end Mine
end
section
open PySem PySem.W PySem.Calls PyProof.Rows
set_option maxRecDepth 100000
namespace Mine
/-- paths as lists -/
def piecesL : List (List Nat) := [[97], [65], [97, 98]]
def runsL : List (List (List Nat)) := [[]] ++ (piecesL.map fun x => [x]) ++ (piecesL.flatMap fun x => piecesL.map fun y => [x, y])
def stepsL : List (List (List Nat)) := runsL ++ runsL.map fun s => s ++ [[]]
def wayL (s : List (List Nat)) : List Nat := jn [] (s.map fun p => [47] ++ p)
def preL (l : List Nat) : List Nat := if endsL l [47] then l else l ++ [47]
def underL (p q : List Nat) : Bool := (p == q) || startsL q (preL p)
def solidL (s : List (List Nat)) : List (List Nat) := s.filter fun x => x != []
def coversL (s o : List (List Nat)) : Bool := (s == o) || ((o.take (solidL s).length == solidL s) && decide ((solidL s).length < o.length))
def chkPre (l : List Nat) : Bool := preS (ofL l) == ofL (preL l)
theorem pre_chk : stepsL.all (fun s => chkPre (wayL s) && chkPre (wayL s ++ [47])) = true := by decide +kernel
theorem pre_chkA : chkPre [47, 65] = true := by decide +kernel
theorem paths_chk : stepsL.all (fun s => stepsL.all fun t => underL (wayL s) (wayL t) == coversL s t) = true := by decide +kernel
theorem slash_chk : stepsL.all (fun s => !underL (wayL s ++ [47]) (wayL s) && !underL [47, 65] ([47, 97] ++ wayL s)) = true := by decide +kernel
theorem ways_chk : stepsL.all (fun s => ascL (wayL s) && (decide ((wayL s).length ≤ 100) && (JoinOk (ofL []) ((s.map fun p => [47] ++ p).map ofL) && decide (s.length ≤ 3)))) = true := by decide +kernel
theorem strOk_L {l : List Nat} (h : ascL l = true) : PyData.strOk (ofL l) = true := by
  unfold PyData.strOk ofL
  rw [List.all_toArray]
  refine List.all_eq_true.mpr fun c hc => ?_
  have := of_decide_eq_true (List.all_eq_true.mp h c hc)
  exact decide_eq_true (by omega)
theorem suburi_L (a b : Str) {p q : List Nat} (h : chkPre p = true) : suburiB a (ofL p) b (ofL q) = (decide (a = b) && underL p q) := by
  have e : preS (ofL p) = ofL (preL p) := by simpa [chkPre] using h
  unfold suburiB underL
  rw [e, starts_L]
  by_cases hab : a = b
  · simp only [hab, true_and, decide_true, Bool.true_and, ofL_inj]
    congr 1
    rw [Bool.eq_iff_iff, decide_eq_true_iff, beq_iff_eq]
  · simp [hab]
theorem map_ofL_inj {a b : List (List Nat)} : a.map ofL = b.map ofL ↔ a = b := by
  constructor
  · exact fun h => (List.map_inj_right (fun x y e => ofL_inj.mp e)).mp h
  · rintro rfl; rfl
theorem nil_L : (("" : String) : Str) = ofL [] := by decide +kernel
theorem pieces_L (s : List (List Nat)) : pieces (s.map ofL) = (solidL s).map ofL := by
  unfold pieces solidL
  rw [nil_L, List.filter_map]
  congr 1
  refine List.filter_congr fun x _ => ?_
  show (!(ofL x == ofL [])) = !(x == [])
  rw [ofL_beq]
theorem covers_L (s o : List (List Nat)) : coversB (s.map ofL) (o.map ofL) = coversL s o := by
  unfold coversB coversL
  rw [pieces_L, List.length_map, List.length_map, ← List.map_take]
  congr 1
  · rw [Bool.eq_iff_iff, decide_eq_true_iff, beq_iff_eq, map_ofL_inj]
  · congr 1
    rw [Bool.eq_iff_iff, decide_eq_true_iff, beq_iff_eq, map_ofL_inj]
/-- zones -/
theorem bare_L {h : List (List Nat)} (hc : chkHost h = true) : bareB (h.map ofL) = bareL h := by
  simp only [chkHost, Bool.and_eq_true, beq_iff_eq] at hc
  exact hc.2.2.2.1
theorem hosts_chk {h : List (List Nat)} (hh : h ∈ hostsL) : chkHost h = true := by
  rw [← List.take_append_drop 52 hostsL, ← List.take_append_drop 52 (hostsL.drop 52), List.drop_drop] at hh
  rcases List.mem_append.mp hh with h1 | h1
  · exact List.all_eq_true.mp hosts_chk0 _ h1
  · rcases List.mem_append.mp h1 with h1 | h1
    · exact List.all_eq_true.mp hosts_chk1 _ h1
    · exact List.all_eq_true.mp hosts_chk2 _ h1
theorem zoneN_L {h : List (List Nat)} (hh : h ∈ hostsL) : zoneN (h.map ofL) = (namesL h).map ofL := by
  unfold zoneN namesL
  rw [bare_L (hosts_chk hh)]
  split
  · rfl
  · rw [List.map_drop]
theorem zoneK_L {h : List (List Nat)} (hh : h ∈ hostsL) : zoneK (h.map ofL) = if bareL h then Str.ofString "bare" else Str.ofString "dotted" := by
  unfold zoneK
  rw [bare_L (hosts_chk hh)]
theorem kinds_ne : (("bare" : String) : Str) ≠ (("dotted" : String) : Str) := by decide +kernel
theorem zone_mem {h : List (List Nat)} (hh : h ∈ hostsL) : znL h ∈ zonesL := by
  have := List.all_eq_true.mp zones_all h hh
  simpa using this
theorem holds_L {h o : List (List Nat)} (hh : h ∈ hostsL) (ho : o ∈ hostsL) : holdsB (h.map ofL) (o.map ofL) = holdsL (znL h) (znL o) := by
  unfold holdsB holdsL
  rw [zoneN_L hh, zoneN_L ho, zoneK_L hh, zoneK_L ho, List.length_map, List.length_map, ← List.map_drop]
  simp only [znL]
  congr 1
  · rw [Bool.eq_iff_iff, decide_eq_true_iff, beq_iff_eq, map_ofL_inj, Prod.mk.injEq]
    have k := kinds_ne
    cases bareL h <;> cases bareL o <;> simp [k, k.symm, eq_comm]
  · congr 1
    · have k := kinds_ne
      cases bareL h <;> simp [k]
    · congr 1
      rw [Bool.eq_iff_iff, decide_eq_true_iff, beq_iff_eq, map_ofL_inj]
end Mine
end
section
open PySem PySem.W PySem.Calls PyProof.Rows
set_option maxRecDepth 100000
namespace Mine
local macro_rules | `(tactic| kqd_in) => `(tactic| first | (with_reducible exact List.mem_cons_self) | (refine List.mem_cons_of_mem _ ?_; kqd_in))
local macro_rules | `(tactic| kqd_all) => `(tactic| first
  | (with_reducible exact EJ.cint) | (with_reducible exact EJ.cstr) | (with_reducible exact EJ.cbool) | (with_reducible exact EJ.cnone)
  | ((with_reducible refine EJ.name ?_ ?_ ?_ ?_); exact okEnvS; kqd_in; decide; decide)
  | (with_reducible exact AJ.nil)
  | ((with_reducible refine AJ.cons ?_ ?_ ?_); kqd_all; kqd_all; (intro _; rfl))
  | ((with_reducible refine EJ.un ?_ ?_); kqd_all; exact un_neg)
  | ((with_reducible refine EJ.tup ?_ ?_); kqd_all; exact Nat.le_of_ble_eq_true rfl)
  | ((with_reducible refine EJ.list ?_ ?_); kqd_all; exact Nat.le_of_ble_eq_true rfl)
  | ((refine EJ.list ?_ ?_); kqd_all; exact Nat.le_of_ble_eq_true rfl)
  | ((refine AJ.cons ?_ ?_ ?_); kqd_all; kqd_all; (intro _; rfl))
  | ((refine EJ.tup ?_ ?_); kqd_all; exact Nat.le_of_ble_eq_true rfl)
  | exact AJ.nil | exact EJ.cstr | exact EJ.cint | exact EJ.cbool)
/-- a rule, as lists -/
structure RL where
  host : List (List Nat)
  steps : List (List Nat)
  au : Str
structure RL.Ok (l : RL) : Prop where
  h : l.host ∈ hostsL
  s : l.steps ∈ stepsL
  a : PyData.strOk l.au = true
def RL.toR (l : RL) : R := ⟨l.host.map ofL, l.steps.map ofL, l.au⟩
abbrev RL.zn (l : RL) : Zn := znL l.host
abbrev ruleE (l : RL) : D := ruleD l.toR
abbrev zoneE (l : RL) : D := .str (ofL (zstrL l.zn))
abbrev placeE (l : RL) : D := placeD l.au (ofL (wayL l.steps))
def meetL (l o : RL) : Bool := decide (l.au = o.au) && ((holdsL l.zn o.zn || holdsL o.zn l.zn) && (coversL l.steps o.steps || coversL o.steps l.steps))
def upathL (p q : RL) : Bool := decide (p.au = q.au) && coversL p.steps q.steps
def nearI (ls : List RL) (l : RL) : Int := maskN (ls.map (meetL l))
def askI (ls : List RL) (l : RL) : Int := maskN (ls.map fun o => holdsL o.zn l.zn)
def belI (ls : List RL) (q : RL) : Int := maskN (ls.map fun p => upathL p q)
theorem ndot_of {x : Str} (h : ndotB x = true) : NDot x := by
  simp only [ndotB, Bool.and_eq_true, Bool.not_eq_true'] at h
  rw [← dot_L, ← nil_L] at h
  exact ⟨h.1, h.2.1, h.2.2.1, h.2.2.2.1, h.2.2.2.2⟩
theorem labs_asc : hostsL.all (fun h => h.all (fun l => ascL l) && (decide (2 ≤ h.length) && decide (h.length ≤ 8))) = true := by decide +kernel
theorem steps_asc : stepsL.all (fun h => h.all (fun l => ascL l) && decide (h.length ≤ 8)) = true := by decide +kernel
theorem RL.Ok.toR {l : RL} (ok : l.Ok) : l.toR.Ok := by
  have h1 := List.all_eq_true.mp labs_asc _ ok.h
  have h2 := List.all_eq_true.mp steps_asc _ ok.s
  simp only [Bool.and_eq_true, decide_eq_true_eq] at h1 h2
  refine ⟨fun x hx => ?_, fun x hx => ?_, ok.a, ?_, ?_, ?_⟩
  · obtain ⟨y, hy, rfl⟩ := List.mem_map.mp hx
    exact strOk_L (List.all_eq_true.mp h1.1 y hy)
  · obtain ⟨y, hy, rfl⟩ := List.mem_map.mp hx
    exact strOk_L (List.all_eq_true.mp h2.1 y hy)
  · show 2 ≤ (l.host.map ofL).length; rw [List.length_map]; exact h1.2.1
  · show (l.host.map ofL).length ≤ 8; rw [List.length_map]; exact h1.2.2
  · show (l.steps.map ofL).length ≤ 8; rw [List.length_map]; exact h2.2
theorem meet_L {l o : RL} (hl : l.Ok) (ho : o.Ok) : meetB l.toR o.toR = meetL l o := by
  unfold meetB meetL RL.toR
  simp only
  rw [holds_L hl.h ho.h, holds_L ho.h hl.h, covers_L, covers_L]
section
variable {prog : Program} {w : World} {hb : Heap} {mg mb : Str → Option Value} {n : Nat} {env : Env} {ρ : Rho} {Ω : Owns} {K : Frag} {fI fS : Addr}
theorem Bs.mask (B : Bs hb mg mb) {e : Expr} {np pos : Pos} {bs : List Bool} {i : Int} (ok : EnvOk env) (he : EJ prog w hb n env ρ e (.list (bs.map D.bool))) (hl : bs.length = 6) (hi : maskN bs = i) (hk : env.kindOf "_law_mask" = some .globalImplicit := by rfl) (hn : 3 ≤ n := by decide)
    (hs : ∀ env, starEach [e] env = (false, eval e env) :: starEach [] env := by intro _; rfl) : EJ prog w hb n env ρ (.Call (.Name "_law_mask" np) [e] [] pos) (.int i) :=
  hi ▸ EJ.callF B.W ok hk B.g10 B.f10 (AJ.cons he AJ.nil (he := hs)) ((mask_call B bs hl).mono hn) hs
/-- the zones -/
theorem law_zones (B : Bs hb mg mb) (I : IpAt hb) (q : Str) (c : Value) (L : Addr) (ls : List RL) (hl6 : ls.length = 6) (hok : ∀ l ∈ ls, l.Ok) (ρ : Rho) (hm : (("rules" : Str), D.list (ls.map ruleE)) ∈ ρ) (hz : (ρ.all fun p => p.1 != ("zones" : Str)) = true) :
    SJ prog w hb 5 (envS (pst 17) q c L 162) ρ [] (((bodyOf (pst 17))[2]?).getD default) (.next ρ [("zones", true, ls.map zoneE)]) := by
  have e : ls.map zoneE = (ls.filter fun _ => true).map zoneE := by rw [List.filter_eq_self.mpr (fun _ _ => rfl)]
  rw [e]
  show SJ prog w hb 5 _ _ _ (Stmt.Assign _ _ _) _
  refine SJ.setComp ls ruleE (fun _ => true) zoneE okEnvS .nil (by omega) (SrcJ.list (EJ.name okEnvS hm)) (fun _ _ _ _ _ => TJ.none) ?_ hz
  intro C cs hcs l hl _
  have ok := hok l hl
  have hc := hosts_chk ok.h
  simp only [chkHost, Bool.and_eq_true, beq_iff_eq, decide_eq_true_eq] at hc
  obtain ⟨⟨h1, h2⟩, ⟨h3, h3'⟩, h4, h5, h6, h7⟩ := hc
  refine EJ.cast (d := .str (reachB (ofL (jn [46] l.host)))) (by rw [h4]) ?_
  refine EJ.callF B.W (okC okEnvS) rfl B.g4 B.f4 (ds := [.str (ofL (jn [46] l.host))]) (AJ.cons ?_ AJ.nil) ((reach_call B I _ (tok_L h1).1 (ndot_of h2) (by rw [dot_L]; exact h3) ?_).mono (by decide))
  · refine EJ.cast (d := .str (Txt.join "." (l.host.map ofL))) (by rw [dot_L, join_L]) ?_
    refine EJ.meth (a := .str ".") (ds := [strD (l.host.map ofL)]) EJ.cstr (meth_str PySem.F.slot_str_join PySem.F.type_str_join) (AJ.cons ?_ AJ.nil) ((call_join (by rw [dot_L]; exact h6)).mono (Nat.zero_le _))
    exact EJ.tupAt (ds := [strD (l.host.map ofL), strD (l.steps.map ofL), .str l.au]) (EJ.name (okC okEnvS) (.head _))
  · have e1 := Txt.slice_le (ofL (jn [46] l.host)) (some (Txt.find (ofL (jn [46] l.host)) "." + 1)) none
    have e2 := (tok_L h1).1.short
    exact Nat.le_trans e1 e2
end
end Mine
end
section
open PySem PySem.W PySem.Calls PyProof.Rows
set_option maxRecDepth 100000
namespace Mine
local macro_rules | `(tactic| kqd_in) => `(tactic| first | (with_reducible exact List.mem_cons_self) | (refine List.mem_cons_of_mem _ ?_; kqd_in))
local macro_rules | `(tactic| kqd_all) => `(tactic| first
  | (with_reducible exact EJ.cint) | (with_reducible exact EJ.cstr) | (with_reducible exact EJ.cbool) | (with_reducible exact EJ.cnone)
  | ((with_reducible refine EJ.name ?_ ?_ ?_ ?_); exact okEnvS; kqd_in; decide; decide)
  | (with_reducible exact AJ.nil)
  | ((with_reducible refine AJ.cons ?_ ?_ ?_); kqd_all; kqd_all; (intro _; rfl))
  | ((with_reducible refine EJ.un ?_ ?_); kqd_all; exact un_neg)
  | ((with_reducible refine EJ.tup ?_ ?_); kqd_all; exact Nat.le_of_ble_eq_true rfl)
  | ((with_reducible refine EJ.list ?_ ?_); kqd_all; exact Nat.le_of_ble_eq_true rfl)
  | ((refine EJ.list ?_ ?_); kqd_all; exact Nat.le_of_ble_eq_true rfl)
  | ((refine AJ.cons ?_ ?_ ?_); kqd_all; kqd_all; (intro _; rfl))
  | ((refine EJ.tup ?_ ?_); kqd_all; exact Nat.le_of_ble_eq_true rfl)
  | exact AJ.nil | exact EJ.cstr | exact EJ.cint | exact EJ.cbool)
section
variable {prog : Program} {w : World} {hb : Heap} {mg mb : Str → Option Value} {n : Nat} {env : Env} {ρ : Rho} {Ω : Owns} {K : Frag} {fI fS : Addr}
theorem SJ.setNewC {x : Str} {px pos : Pos} {e : Expr} {ds : List D} (he : NJ prog w hb n env ρ e ds) (ok : EnvOk env) (h1 : (ρ.all fun p => p.1 != x) = true) (h2 : (Ω.all fun p => p.1 != x) = true) (hx : StoreOK env x := by exact .inr ⟨rfl, _, rfl⟩)
    (hs : swapsWith e (some (Expr.Name x px)) pos.line env = pure false := by rfl) : SJ prog w hb n env ρ Ω (.Assign [.Name x px] e pos) (.next ρ ((x, true, ds) :: Ω)) := by
  intro A hA G s F f E
  refine wpAny_Assign_Name (wpAny_mono (he A hA s F f.st E) (fun v s₁ h₁ => ?_) fun _ _ e => e) hs
  obtain ⟨F₁, a, vs, rfl, x₁, aF, aN, hl, i₁⟩ := h₁
  exact wpAny_mono (f.storeOwn ok hx (fun p hp => ⟨hp, by simpa using List.all_eq_true.mp h1 p hp⟩) (fun q hq => ⟨hq, by simpa using List.all_eq_true.mp h2 q hq⟩) x₁ hl i₁ aF aN) (fun _ s₂ h₂ => ⟨F₁, h₂.1, rfl, h₂.2.1⟩) fun _ _ e => e
theorem slash_L : (("/" : String) : Str) = ofL [47] := by decide +kernel
theorem steps_small : stepsL.all (fun s => s.all fun p => decide (p.length ≤ 2)) = true := by decide +kernel
theorem law_places (B : Bs hb mg mb) (q : Str) (c : Value) (L : Addr) (ls : List RL) (hl6 : ls.length = 6) (hok : ∀ l ∈ ls, l.Ok) (ρ : Rho) (hm : (("rules" : Str), D.list (ls.map ruleE)) ∈ ρ) (hz : (ρ.all fun p => p.1 != ("places" : Str)) = true) :
    SJ prog w hb 5 (envS (pst 17) q c L 162) ρ [] (((bodyOf (pst 17))[3]?).getD default) (.next ρ [("places", true, ls.map placeE)]) := by
  show SJ prog w hb 5 _ _ _ (Stmt.Assign _ _ _) _
  refine SJ.setNewC (NJ.mapL ls ruleE placeE okEnvS .nil (by omega) (SrcJ.list (EJ.name okEnvS hm)) ?_) okEnvS hz rfl
  intro C cs hcs l hl
  have ok := hok l hl
  have hw := List.all_eq_true.mp ways_chk _ ok.s
  have hs := List.all_eq_true.mp steps_small _ ok.s
  simp only [Bool.and_eq_true, decide_eq_true_eq] at hw
  obtain ⟨w1, w2, w3, w4⟩ := hw
  refine EJ.tup (AJ.cons (d := .str l.au) ?_ (AJ.cons (d := .str (ofL (wayL l.steps))) ?_ AJ.nil)) (Nat.le_of_ble_eq_true rfl)
  · exact EJ.tupAt (ds := [strD (l.host.map ofL), strD (l.steps.map ofL), .str l.au]) (EJ.name (okC okEnvS) (.head _))
  · refine EJ.cast (d := .str (Txt.join "" ((l.steps.map fun p => [47] ++ p).map ofL))) (by rw [nil_L, join_L]; rfl) ?_
    refine EJ.meth (a := .str "") (ds := [strD ((l.steps.map fun p => [47] ++ p).map ofL)]) EJ.cstr (meth_str PySem.F.slot_str_join PySem.F.type_str_join) (AJ.cons ?_ AJ.nil) ((call_join (by rw [nil_L]; exact w3)).mono (Nat.zero_le _))
    rw [show strD ((l.steps.map fun p => [47] ++ p).map ofL) = .list (l.steps.map fun p => D.str (ofL ([47] ++ p))) from by rw [strD, List.map_map, List.map_map]; rfl]
    refine NJ.ej (NJ.mapL l.steps (fun p => D.str (ofL p)) (fun p => D.str (ofL ([47] ++ p))) (okC okEnvS) .nil (by omega) (SrcJ.list ?_) ?_)
    · refine EJ.cast (d := strD (l.steps.map ofL)) (by rw [strD, List.map_map]; rfl) ?_
      exact EJ.tupAt (ds := [strD (l.host.map ofL), strD (l.steps.map ofL), .str l.au]) (EJ.name (okC okEnvS) (.head _))
    · intro C2 cs2 hcs2 p hp
      have hpl := of_decide_eq_true (List.all_eq_true.mp hs p hp)
      refine EJ.cast (d := .str ("/" ++ ofL p)) (by rw [slash_L, ofL_app]) ?_
      refine EJ.bin (a := .str "/") (b := .str (ofL p)) EJ.cstr (EJ.name (okC (okC okEnvS)) (.head _)) (bin_add_str ?_)
      rw [slash_L, ofL_len, ofL_len, sizeLine_eq]
      show 1 + _ ≤ _
      omega
end
end Mine
end
section
open PySem PySem.W PySem.Calls PyProof.Rows
set_option maxRecDepth 100000
namespace Mine
local macro_rules | `(tactic| kqd_in) => `(tactic| first | (with_reducible exact List.mem_cons_self) | (refine List.mem_cons_of_mem _ ?_; kqd_in))
local macro_rules | `(tactic| kqd_all) => `(tactic| first
  | (with_reducible exact EJ.cint) | (with_reducible exact EJ.cstr) | (with_reducible exact EJ.cbool) | (with_reducible exact EJ.cnone)
  | ((with_reducible refine EJ.name ?_ ?_ ?_ ?_); exact okEnvS; kqd_in; decide; decide)
  | (with_reducible exact AJ.nil)
  | ((with_reducible refine AJ.cons ?_ ?_ ?_); kqd_all; kqd_all; (intro _; rfl))
  | ((with_reducible refine EJ.un ?_ ?_); kqd_all; exact un_neg)
  | ((with_reducible refine EJ.tup ?_ ?_); kqd_all; exact Nat.le_of_ble_eq_true rfl)
  | ((with_reducible refine EJ.list ?_ ?_); kqd_all; exact Nat.le_of_ble_eq_true rfl)
  | ((refine EJ.list ?_ ?_); kqd_all; exact Nat.le_of_ble_eq_true rfl)
  | ((refine AJ.cons ?_ ?_ ?_); kqd_all; kqd_all; (intro _; rfl))
  | ((refine EJ.tup ?_ ?_); kqd_all; exact Nat.le_of_ble_eq_true rfl)
  | exact AJ.nil | exact EJ.cstr | exact EJ.cint | exact EJ.cbool)
section
variable {prog : Program} {w : World} {hb : Heap} {mg mb : Str → Option Value} {n : Nat} {env : Env} {ρ : Rho} {Ω : Owns} {K : Frag} {fI fS : Addr}
theorem law_near (B : Bs hb mg mb) (q : Str) (c : Value) (L : Addr) (ls : List RL) (hl6 : ls.length = 6) (hok : ∀ l ∈ ls, l.Ok) (ρ : Rho) (hm : (("rules" : Str), D.list (ls.map ruleE)) ∈ ρ) (hz : (ρ.all fun p => p.1 != ("near" : Str)) = true) :
    SJ prog w hb 5 (envS (pst 17) q c L 162) ρ [] (((bodyOf (pst 17))[4]?).getD default) (.next ρ [("near", true, ls.map fun l => D.int (nearI ls l))]) := by
  have e : (ls.map fun l => D.int (nearI ls l)) = (ls.filter fun _ => true).map fun l => D.int (nearI ls l) := by rw [List.filter_eq_self.mpr (fun _ _ => rfl)]
  rw [e]
  show SJ prog w hb 5 _ _ _ (Stmt.Assign _ _ _) _
  have fr : ∀ {scope : Scope} {cl : List (Str × Addr)}, FreeOK (envS (pst 17) q c L 162) scope cl "rules" → Frees (envS (pst 17) q c L 162) scope cl ρ [("rules", D.list (ls.map ruleE))] := fun h => .cons hm h .nil
  refine SJ.setComp (cl := [("rules", L + 1)]) ls ruleE (fun _ => true) (fun l => D.int (nearI ls l)) okEnvS (fr ⟨.inl rfl, fun N => rfl, .inl rfl⟩) (by omega) (SrcJ.list (EJ.name okEnvS hm)) (fun _ _ _ _ _ => TJ.none) ?_ hz (hx := .cell rfl (fun _ _ => rfl) (fun _ => rfl))
  intro C cs hcs l hl _
  subst hcs
  have ok := hok l hl
  refine B.mask (bs := ls.map (meetL l)) (okC okEnvS) (NJ.ej ?_) (by rw [List.length_map]; exact hl6) rfl
  rw [List.map_map]
  refine NJ.mapL (cl := [("rule", C + 1)]) ls ruleE (fun o => D.bool (meetL l o)) (okC okEnvS) (.cons (.head _) ⟨.inl rfl, fun N => rfl, .inl rfl⟩ .nil) (by omega) (SrcJ.list (EJ.name (okC okEnvS) (.tail _ (.head _)))) ?_
  intro C2 cs2 hcs2 o ho
  refine EJ.cast (d := .bool (meetB l.toR o.toR)) (by rw [meet_L ok (hok o ho)]) ?_
  exact EJ.callF B.W (okC (okC okEnvS)) rfl B.g9 B.f9 (AJ.cons (EJ.name (okC (okC okEnvS)) (.tail _ (.head _))) (AJ.cons (EJ.name (okC (okC okEnvS)) (.head _)) AJ.nil)) ((meet_call B l.toR o.toR ok.toR (hok o ho).toR).mono (by decide))
end
end Mine
end
section
open PySem PySem.W PySem.Calls PyProof.Rows
set_option maxRecDepth 100000
namespace Mine
local macro_rules | `(tactic| kqd_in) => `(tactic| first | (with_reducible exact List.mem_cons_self) | (refine List.mem_cons_of_mem _ ?_; kqd_in))
local macro_rules | `(tactic| kqd_all) => `(tactic| first
  | (with_reducible exact EJ.cint) | (with_reducible exact EJ.cstr) | (with_reducible exact EJ.cbool) | (with_reducible exact EJ.cnone)
  | ((with_reducible refine EJ.name ?_ ?_ ?_ ?_); exact okEnvS; kqd_in; decide; decide)
  | (with_reducible exact AJ.nil)
  | ((with_reducible refine AJ.cons ?_ ?_ ?_); kqd_all; kqd_all; (intro _; rfl))
  | ((with_reducible refine EJ.un ?_ ?_); kqd_all; exact un_neg)
  | ((with_reducible refine EJ.tup ?_ ?_); kqd_all; exact Nat.le_of_ble_eq_true rfl)
  | ((with_reducible refine EJ.list ?_ ?_); kqd_all; exact Nat.le_of_ble_eq_true rfl)
  | ((refine EJ.list ?_ ?_); kqd_all; exact Nat.le_of_ble_eq_true rfl)
  | ((refine AJ.cons ?_ ?_ ?_); kqd_all; kqd_all; (intro _; rfl))
  | ((refine EJ.tup ?_ ?_); kqd_all; exact Nat.le_of_ble_eq_true rfl)
  | exact AJ.nil | exact EJ.cstr | exact EJ.cint | exact EJ.cbool)
section
variable {prog : Program} {w : World} {hb : Heap} {mg mb : Str → Option Value} {n : Nat} {env : Env} {ρ : Rho} {Ω : Owns} {K : Frag} {fI fS : Addr}
theorem law_below (B : Bs hb mg mb) (k : Kc K hb fI fS) (q : Str) (c : Value) (L : Addr) (ls : List RL) (hl6 : ls.length = 6) (hok : ∀ l ∈ ls, l.Ok) (ρ : Rho) (hm : (("places" : Str), D.list (ls.map placeE)) ∈ ρ) (hm2 : (("manager" : Str), D.mgr) ∈ ρ) (hz : (ρ.all fun p => p.1 != ("below" : Str)) = true) :
    SJ prog w hb 5 (envS (pst 17) q c L 162) ρ [] (((bodyOf (pst 17))[7]?).getD default) (.next ρ [("below", true, ls.map fun l => D.int (belI ls l))]) := by
  show SJ prog w hb 5 _ _ _ (Stmt.Assign _ _ _) _
  have fr : ∀ {scope : Scope} {cl : List (Str × Addr)}, FreeOK (envS (pst 17) q c L 162) scope cl "manager" → FreeOK (envS (pst 17) q c L 162) scope cl "places" → Frees (envS (pst 17) q c L 162) scope cl ρ [("manager", D.mgr), ("places", D.list (ls.map placeE))] := fun h h' => .cons hm2 h (.cons hm h' .nil)
  refine SJ.setNewC (NJ.mapL (cl := [("places", L + 1 + 1 + 1), ("manager", L + 1 + 1)]) ls placeE (fun l => D.int (belI ls l)) okEnvS (fr ⟨.inl rfl, fun N => rfl, .inl rfl⟩ ⟨.inl rfl, fun N => rfl, .inl rfl⟩) (by omega) (SrcJ.list (EJ.name okEnvS hm)) ?_ (hx := .cell rfl (fun _ _ => rfl) (fun _ => rfl))) okEnvS hz rfl
  intro C cs hcs l hl
  subst hcs
  have ok := hok l hl
  refine B.mask (bs := ls.map fun p => upathL p l) (okC okEnvS) (NJ.ej ?_) (by rw [List.length_map]; exact hl6) rfl
  rw [List.map_map]
  refine NJ.mapL (cl := [("wanted", C + 1), ("manager", L + 1 + 1)]) ls placeE (fun p => D.bool (upathL p l)) (okC okEnvS) (.cons (.tail _ (.head _)) ⟨.inl rfl, fun N => rfl, .inl rfl⟩ (.cons (.head _) ⟨.inl rfl, fun N => rfl, .inl rfl⟩ .nil)) (by omega) (SrcJ.list (EJ.name (okC okEnvS) (.tail _ (.tail _ (.head _))))) ?_
  intro C2 cs2 hcs2 p hp
  have okp := hok p hp
  have hw := List.all_eq_true.mp ways_chk _ ok.s
  have hwp := List.all_eq_true.mp ways_chk _ okp.s
  simp only [Bool.and_eq_true, decide_eq_true_eq] at hw hwp
  have hpre := List.all_eq_true.mp pre_chk _ okp.s
  simp only [Bool.and_eq_true] at hpre
  have hpair := List.all_eq_true.mp (List.all_eq_true.mp paths_chk _ okp.s) _ ok.s
  refine EJ.cast (d := .bool (suburiB p.au (ofL (wayL p.steps)) l.au (ofL (wayL l.steps)))) ?_ ?_
  · rw [suburi_L _ _ hpre.1, beq_iff_eq.mp hpair]; rfl
  exact EJ.suburi k (EJ.name (okC (okC okEnvS)) (.tail _ (.head _))) (AJ.cons (EJ.name (okC (okC okEnvS)) (.head _)) (AJ.cons (EJ.name (okC (okC okEnvS)) (.tail _ (.tail _ (.head _)))) AJ.nil))
    ((suburi_call B.W k _ _ _ _ okp.a (strOk_L hwp.1) ok.a (strOk_L hw.1) (by rw [ofL_len]; omega)).mono (by decide))
end
end Mine
end
section
open PySem PySem.W PySem.Calls PyProof.Rows
set_option maxRecDepth 100000
namespace Mine
local macro_rules | `(tactic| kqd_in) => `(tactic| first | (with_reducible exact List.mem_cons_self) | (refine List.mem_cons_of_mem _ ?_; kqd_in))
local macro_rules | `(tactic| kqd_all) => `(tactic| first
  | (with_reducible exact EJ.cint) | (with_reducible exact EJ.cstr) | (with_reducible exact EJ.cbool) | (with_reducible exact EJ.cnone)
  | ((with_reducible refine EJ.name ?_ ?_ ?_ ?_); exact okEnvS; kqd_in; decide; decide)
  | (with_reducible exact AJ.nil)
  | ((with_reducible refine AJ.cons ?_ ?_ ?_); kqd_all; kqd_all; (intro _; rfl))
  | ((with_reducible refine EJ.un ?_ ?_); kqd_all; exact un_neg)
  | ((with_reducible refine EJ.tup ?_ ?_); kqd_all; exact Nat.le_of_ble_eq_true rfl)
  | ((with_reducible refine EJ.list ?_ ?_); kqd_all; exact Nat.le_of_ble_eq_true rfl)
  | ((refine EJ.list ?_ ?_); kqd_all; exact Nat.le_of_ble_eq_true rfl)
  | ((refine AJ.cons ?_ ?_ ?_); kqd_all; kqd_all; (intro _; rfl))
  | ((refine EJ.tup ?_ ?_); kqd_all; exact Nat.le_of_ble_eq_true rfl)
  | exact AJ.nil | exact EJ.cstr | exact EJ.cint | exact EJ.cbool)
section
variable {prog : Program} {w : World} {hb : Heap} {mg mb : Str → Option Value} {n : Nat} {env : Env} {ρ : Rho} {Ω : Owns} {K : Frag} {fI fS : Addr}
theorem nm {x y : Str} {d : D} (h : (x != y) = true) (t : (ρ.all fun p => p.1 != y) = true) : (((x, d) :: ρ).all fun p => p.1 != y) = true := by rw [List.all_cons, h, t]; rfl
theorem nmO {x y : Str} {d : Bool × List D} (h : (x != y) = true) (t : (Ω.all fun p => p.1 != y) = true) : (((x, d) :: Ω).all fun p => p.1 != y) = true := by rw [List.all_cons, h, t]; rfl
theorem asc_lo {x : List Nat} (h : ascL (loL x) = true) : ascL x = true := by
  refine List.all_eq_true.mpr fun c hc => ?_
  have := of_decide_eq_true (List.all_eq_true.mp h (lo1 c) (List.mem_map.mpr ⟨c, hc, rfl⟩))
  unfold lo1 at this
  refine decide_eq_true ?_
  split at this <;> omega
theorem Bs.udm (B : Bs hb mg mb) (I : IpAt hb) {e e' : Expr} {np pos : Pos} {x y a b : List Nat} {r : Bool} (ok : EnvOk env) (he : EJ prog w hb n env ρ e (.str (ofL x))) (he' : EJ prog w hb n env ρ e' (.str (ofL y)))
    (ea : (loL x == a) = true) (eb : (loL y == b) = true) (ta : tokL a = true) (tb : tokL b = true) (hr : udmL a b = r) (hk : env.kindOf "user_domain_match" = some .globalImplicit := by rfl) (hn : 3 ≤ n := by decide)
    (hs : ∀ env, starEach [e, e'] env = (false, eval e env) :: starEach [e'] env := by intro _; rfl) (hs' : ∀ env, starEach [e'] env = (false, eval e' env) :: starEach [] env := by intro _; rfl) :
    EJ prog w hb n env ρ (.Call (.Name "user_domain_match" np) [e, e'] [] pos) (.bool r) := by
  have ea := beq_iff_eq.mp ea
  have eb := beq_iff_eq.mp eb
  obtain ⟨t1, l1, a1⟩ := tok_L ta
  obtain ⟨t2, l2, a2⟩ := tok_L tb
  have ax : ascL x = true := asc_lo (by rw [ea]; exact a1)
  have ay : ascL y = true := asc_lo (by rw [eb]; exact a2)
  have lx : x.length = a.length := by rw [← ea]; simp [loL]
  have ly : y.length = b.length := by rw [← eb]; simp [loL]
  rw [← hr, ← udm_L]
  exact EJ.callF B.W ok hk B.g3 B.f3 (AJ.cons he (AJ.cons he' AJ.nil (he := hs')) (he := hs)) ((udm_call B I (ofL x) (ofL y) (ofL a) (ofL b) (by rw [ofL_len]; omega) (by rw [ofL_len]; omega) (by rw [lower_L ax, ea]) (by rw [lower_L ay, eb]) t1 t2).mono hn) hs
theorem EJ.upper {o : Expr} {apos pos : Pos} {x : List Nat} (hx : EJ prog w hb n env ρ o (.str (ofL x))) (ha : ascL x = true) (hl : x.length ≤ 1000)
    (he : ∀ env, ∃ pl, eval (.Call (.Attribute o "upper" apos) [] [] pos) env = (do
      let ov ← eval o env
      standAt apos.atName
      let (f, first) ← holding [ov] (getMethod ov "upper" pl)
      callWith pos f first (backTo pos (starEach [] env)) []) := by intro _; exact ⟨_, rfl⟩) : EJ prog w hb n env ρ (.Call (.Attribute o "upper" apos) [] [] pos) (.str (ofL (upL x))) := by
  rw [← upper_L ha]
  exact EJ.meth0 (a := .str (ofL x)) hx (meth_str PySem.F.slot_str_upper PySem.F.type_str_upper) ((call_upper (by rw [ofL_len]; omega)).mono (Nat.zero_le _)) he
theorem EJ.replace {o : Expr} {apos pos p1 p2 : Pos} {k1 k2 : Nat} {x y z : Str} (hx : EJ prog w hb n env ρ o (.str x)) (hyz : (y == z) = false) (hl : x.length ≤ 1000) (hz : z.length ≤ 14)
    (he : ∀ env, ∃ pl, eval (.Call (.Attribute o "replace" apos) [.Constant (.str y) k1 p1, .Constant (.str z) k2 p2] [] pos) env = (do
      let ov ← eval o env
      standAt apos.atName
      let (f, first) ← holding [ov] (getMethod ov "replace" pl)
      callWith pos f first (backTo pos (starEach [.Constant (.str y) k1 p1, .Constant (.str z) k2 p2] env)) []) := by intro _; exact ⟨_, rfl⟩) :
    EJ prog w hb n env ρ (.Call (.Attribute o "replace" apos) [.Constant (.str y) k1 p1, .Constant (.str z) k2 p2] [] pos) (.str (Txt.replace x y z)) := by
  intro A hA s F S E
  obtain ⟨pl, he⟩ := he env
  refine MethodCall_ (pl := pl) (wpAny_mono (hx A hA s F S E) (fun v s₁ h₁ => ?_) fun _ _ e => e) he
  obtain ⟨F₁, x₁, i₁⟩ := h₁
  have S₁ := S.ext x₁
  have hm : MethOK prog w hb (.str x) "replace" (.builtin "str.replace") := meth_str PySem.F.slot_str_replace PySem.F.type_str_replace
  refine hm A s₁ F₁ S₁.sub S₁.base v i₁ pl _ _ ?_
  refine PyProof.Rows.callWith_method1 ?_ rfl rfl
  refine args_cons (wpAny_Constant_str ?_) rfl
  refine args_cons (wpAny_Constant_str ?_) rfl
  refine args_nil ?_
  cases i₁
  rename_i t
  have h0 := S₁.tok
  refine wpAny_toksE (SC.replaceW (Nat.pos_iff_ne_zero.mp h0) (Nat.succ_ne_zero _) (Nat.ne_of_lt (Nat.lt_succ_self _)) hyz (by omega) hz fun t' k ht => ?_)
  have ht : s₁.toks + 1 + 1 ≤ k := ht
  exact ⟨F₁, x₁.trans (Ext.tok x₁.sub (by omega)), .str _ _⟩
theorem w_L : (("W." : String) : Str) = ofL [87, 46] := by decide +kernel
theorem x_L : ((".X" : String) : Str) = ofL [46, 88] := by decide +kernel
theorem seven_L : (("7" : String) : Str) = ofL [55] := by decide +kernel
theorem a_L : (("a" : String) : Str) = ofL [97] := by decide +kernel
theorem bigA_L : (("A" : String) : Str) = ofL [65] := by decide +kernel
def kindS (z : Zn) : Str := if z.1 then Str.ofString "dotted" else Str.ofString "bare"
theorem kindS_L {h : List (List Nat)} (hh : h ∈ hostsL) : zoneK (h.map ofL) = kindS (znL h) := by
  rw [zoneK_L hh, kindS, znL]; cases bareL h <;> rfl
theorem kindS_dotted (z : Zn) : (kindS z == Str.ofString "dotted") = z.1 := by
  unfold kindS
  cases z.1
  · decide +kernel
  · decide +kernel
theorem last_L (h : List (List Nat)) : (h.map ofL).getLastD (("" : String) : Str) = ofL (h.getLastD []) := by
  rw [nil_L, List.getLastD_eq_getLast?, List.getLastD_eq_getLast?, List.getLast?_map]
  cases h.getLast? <;> rfl
theorem wk {x y : Str} {d : D} {r : Rho} (hm : (y, d) ∈ ρ) (h : (y != x) = true) (t : ∀ p ∈ r, p ∈ ρ ∧ p.1 ≠ x) : ∀ p ∈ ((y, d) :: r), p ∈ ρ ∧ p.1 ≠ x := fun p hp => by
  rcases List.mem_cons.mp hp with rfl | hp
  · exact ⟨hm, bne_iff_ne.mp h⟩
  · exact t p hp
end
end Mine
end
section
open PySem PySem.W PySem.Calls PyProof.Rows
set_option maxRecDepth 100000
namespace Mine
local macro_rules | `(tactic| kqd_in) => `(tactic| first | (with_reducible exact List.mem_cons_self) | (refine List.mem_cons_of_mem _ ?_; kqd_in))
local macro_rules | `(tactic| kqd_all) => `(tactic| first
  | (with_reducible exact EJ.cint) | (with_reducible exact EJ.cstr) | (with_reducible exact EJ.cbool) | (with_reducible exact EJ.cnone)
  | ((with_reducible refine EJ.name ?_ ?_ ?_ ?_); exact okEnvS; kqd_in; decide; decide)
  | (with_reducible exact AJ.nil)
  | ((with_reducible refine AJ.cons ?_ ?_ ?_); kqd_all; kqd_all; (intro _; rfl))
  | ((with_reducible refine EJ.un ?_ ?_); kqd_all; exact un_neg)
  | ((with_reducible refine EJ.tup ?_ ?_); kqd_all; exact Nat.le_of_ble_eq_true rfl)
  | ((with_reducible refine EJ.list ?_ ?_); kqd_all; exact Nat.le_of_ble_eq_true rfl)
  | ((refine EJ.list ?_ ?_); kqd_all; exact Nat.le_of_ble_eq_true rfl)
  | ((refine AJ.cons ?_ ?_ ?_); kqd_all; kqd_all; (intro _; rfl))
  | ((refine EJ.tup ?_ ?_); kqd_all; exact Nat.le_of_ble_eq_true rfl)
  | exact AJ.nil | exact EJ.cstr | exact EJ.cint | exact EJ.cbool)
section
variable {prog : Program} {w : World} {hb : Heap} {mg mb : Str → Option Value} {n : Nat} {env : Env} {ρ : Rho} {Ω : Owns} {K : Frag} {fI fS : Addr}
theorem znames_ok : zonesL.all (fun z => z.2.all (fun l => ascL l && decide (l.length ≤ 5)) && (decide (1 ≤ z.2.length) && (decide (z.2.length ≤ 8) && JoinOk (ofL [46]) (z.2.map ofL)))) = true := by decide +kernel
set_option maxHeartbeats 4000000 in
/-- the first four statements, and the turn at dotted zones -/
theorem ask_head (B : Bs hb mg mb) (q : Str) (c : Value) (L : Addr) (ls : List RL) (l : RL) (i : Nat) (ok : l.Ok) (hi : ls[i]? = some l) (hi6 : i < 6) (ρ : Rho) (Ω : Owns) (o : Out)
    (hm : (("rules" : Str), D.list (ls.map ruleE)) ∈ ρ) (hz : ∀ x ∈ ([Str.ofString "which", Str.ofString "kind", Str.ofString "names", Str.ofString "bare", Str.ofString "zone", Str.ofString "host"] : List Str), (ρ.all fun p => p.1 != x) = true ∧ (Ω.all fun p => p.1 != x) = true)
    (h : XJ prog w hb 5 (envS (pst 17) q c L 162) (("host", .str (ofL (greatL l.zn))) :: ("zone", .str (ofL (zstrL l.zn))) :: ("bare", .str (ofL (bstrL l.zn))) :: ("names", strD (l.zn.2.map ofL)) :: ("kind", .str (kindS l.zn)) :: ("which", .int i) :: ρ) Ω ((loopAt 17 6).drop 5) o) :
    XJ prog w hb 5 (envS (pst 17) q c L 162) (("which", .int i) :: ρ) Ω (loopAt 17 6) o := by
  have hzm := zone_mem ok.h
  have hn := List.all_eq_true.mp znames_ok _ hzm
  have hc := List.all_eq_true.mp zones_chk _ hzm
  simp only [Bool.and_eq_true, decide_eq_true_eq] at hn
  simp only [chkZone, Bool.and_eq_true] at hc
  obtain ⟨n1, n2, n3, n4⟩ := hn
  obtain ⟨⟨⟨tb, ts⟩, _⟩, _⟩ := hc
  have ab := (tok_L tb).2.2
  have lb := (tok_L tb).2.1
  have z1 := hz _ (.head _)
  have z2 := hz _ (.tail _ (.head _))
  have z3 := hz _ (.tail _ (.tail _ (.head _)))
  have z4 := hz _ (.tail _ (.tail _ (.tail _ (.head _))))
  have z5 := hz _ (.tail _ (.tail _ (.tail _ (.tail _ (.head _)))))
  have z6 := hz _ (.tail _ (.tail _ (.tail _ (.tail _ (.tail _ (.head _))))))
  refine XJ.cons (ρ' := ("names", strD (l.zn.2.map ofL)) :: ("kind", .str (kindS l.zn)) :: ("which", .int i) :: ρ) (Ω' := Ω) ?_ ?_
  · refine SJ.assignT (d := .tup [.str (kindS l.zn), strD (l.zn.2.map ofL)]) (VJ.of (EJ.cast (d := zoneD l.toR.host) ?_ ?_)) ?_
    · show zoneD (l.host.map ofL) = _
      rw [zoneD, zoneN_L ok.h, kindS_L ok.h]; rfl
    · refine B.zone okEnvS ok.toR (EJ.sub (a := .list (ls.map ruleE)) (b := .int i) (EJ.name okEnvS (.tail _ hm)) (EJ.name okEnvS (.head _)) (get_list (by omega) (by omega) ?_))
      rw [Int.toNat_natCast, List.getElem?_map, hi]; rfl
    · exact AsJ.pair (AsJ.set okEnvS (.inl rfl) (nm (by decide +kernel) z2.1) z2.2) (AsJ.set okEnvS (.inl rfl) (nm (by decide +kernel) (nm (by decide +kernel) z3.1)) z3.2)
  refine XJ.cons (ρ' := ("bare", .str (ofL (bstrL l.zn))) :: ("names", strD (l.zn.2.map ofL)) :: ("kind", .str (kindS l.zn)) :: ("which", .int i) :: ρ) (Ω' := Ω) ?_ ?_
  · refine SJ.set okEnvS (VJ.of (EJ.cast (d := .str (Txt.join "." (l.zn.2.map ofL))) (by rw [dot_L, join_L]; rfl) ?_)) (.inl rfl) (nm (by decide +kernel) (nm (by decide +kernel) (nm (by decide +kernel) z4.1))) z4.2
    exact EJ.meth (a := .str ".") (ds := [strD (l.zn.2.map ofL)]) EJ.cstr (meth_str PySem.F.slot_str_join PySem.F.type_str_join) (AJ.cons (EJ.name okEnvS (.head _)) AJ.nil) ((call_join (by rw [dot_L]; exact n4)).mono (Nat.zero_le _))
  refine XJ.cons (ρ' := ("zone", .str (ofL (bstrL l.zn))) :: ("bare", .str (ofL (bstrL l.zn))) :: ("names", strD (l.zn.2.map ofL)) :: ("kind", .str (kindS l.zn)) :: ("which", .int i) :: ρ) (Ω' := Ω) ?_ ?_
  · exact SJ.set okEnvS (VJ.of (EJ.name okEnvS (.head _))) (.inl rfl) (nm (by decide +kernel) (nm (by decide +kernel) (nm (by decide +kernel) (nm (by decide +kernel) z5.1)))) z5.2
  refine XJ.cons (ρ' := ("host", .str (ofL (upL (bstrL l.zn)))) :: ("zone", .str (ofL (bstrL l.zn))) :: ("bare", .str (ofL (bstrL l.zn))) :: ("names", strD (l.zn.2.map ofL)) :: ("kind", .str (kindS l.zn)) :: ("which", .int i) :: ρ) (Ω' := Ω) ?_ ?_
  · refine SJ.set okEnvS (VJ.of (EJ.upper (EJ.name okEnvS (.tail _ (.head _))) ab (Nat.le_trans lb (by decide)))) (.inr ⟨rfl, _, rfl⟩) (nm (by decide +kernel) (nm (by decide +kernel) (nm (by decide +kernel) (nm (by decide +kernel) (nm (by decide +kernel) z6.1))))) z6.2
  refine XJ.cons (ρ' := ("host", .str (ofL (greatL l.zn))) :: ("zone", .str (ofL (zstrL l.zn))) :: ("bare", .str (ofL (bstrL l.zn))) :: ("names", strD (l.zn.2.map ofL)) :: ("kind", .str (kindS l.zn)) :: ("which", .int i) :: ρ) (Ω' := Ω) ?_ h
  have lup : (upL (bstrL l.zn)).length ≤ 100 := by rw [upL, List.length_map]; exact lb
  refine SJ.ite (b := l.zn.1) (CJ.of (BJ.cast (b := kindS l.zn == Str.ofString "dotted") (kindS_dotted _) (BJ.cmp (a := .str (kindS l.zn)) (b := .str (Str.ofString "dotted")) (EJ.name okEnvS (.tail _ (.tail _ (.tail _ (.tail _ (.head _)))))) EJ.cstr cmp_eq_str))) (fun e => ?_) (fun e => ?_)
  · refine XJ.cons (ρ' := ("zone", .str (ofL (zstrL l.zn))) :: ("host", .str (ofL (upL (bstrL l.zn)))) :: ("bare", .str (ofL (bstrL l.zn))) :: ("names", strD (l.zn.2.map ofL)) :: ("kind", .str (kindS l.zn)) :: ("which", .int i) :: ρ) (Ω' := Ω) ?_ (XJ.cons ?_ XJ.nil)
    · refine SJ.assign (VJ.of (EJ.cast (d := .str ("." ++ ofL (bstrL l.zn))) (by rw [dot_L, ofL_app, zstrL, e]; rfl) (EJ.bin (a := .str ".") (b := .str (ofL (bstrL l.zn))) EJ.cstr (EJ.name okEnvS (.tail _ (.tail _ (.head _)))) (bin_add_str ?_)))) okEnvS (.inl rfl) ?_ (fun q hq => ⟨hq, by simpa using List.all_eq_true.mp z5.2 q hq⟩) (fun _ => rfl)
      · rw [dot_L, ofL_len, ofL_len, sizeLine_eq]; exact Nat.le_trans (Nat.add_le_add_left lb 1) (by decide)
      · refine wk (.head _) (by decide +kernel) (wk (.tail _ (.tail _ (.head _))) (by decide +kernel) (wk (.tail _ (.tail _ (.tail _ (.head _)))) (by decide +kernel) (wk (.tail _ (.tail _ (.tail _ (.tail _ (.head _))))) (by decide +kernel) (wk (.tail _ (.tail _ (.tail _ (.tail _ (.tail _ (.head _)))))) (by decide +kernel) fun p hp => ⟨.tail _ (.tail _ (.tail _ (.tail _ (.tail _ (.tail _ hp))))), by simpa using List.all_eq_true.mp z5.1 p hp⟩))))
    · refine SJ.assign (VJ.of (EJ.cast (d := .str ("W." ++ ofL (upL (bstrL l.zn)))) (by rw [w_L, ofL_app, greatL, e]; rfl) (EJ.bin (a := .str "W.") (b := .str (ofL (upL (bstrL l.zn)))) EJ.cstr (EJ.name okEnvS (.tail _ (.head _))) (bin_add_str ?_)))) okEnvS (.inr ⟨rfl, _, rfl⟩) ?_ (fun q hq => ⟨hq, by simpa using List.all_eq_true.mp z6.2 q hq⟩) (fun _ => rfl)
      · rw [w_L, ofL_len, ofL_len, sizeLine_eq]; exact Nat.le_trans (Nat.add_le_add_left lup 2) (by decide)
      · refine wk (.head _) (by decide +kernel) (wk (.tail _ (.tail _ (.head _))) (by decide +kernel) (wk (.tail _ (.tail _ (.tail _ (.head _)))) (by decide +kernel) (wk (.tail _ (.tail _ (.tail _ (.tail _ (.head _))))) (by decide +kernel) (wk (.tail _ (.tail _ (.tail _ (.tail _ (.tail _ (.head _)))))) (by decide +kernel) fun p hp => ⟨.tail _ (.tail _ (.tail _ (.tail _ (.tail _ (.tail _ hp))))), by simpa using List.all_eq_true.mp z6.1 p hp⟩))))
  · rw [show greatL l.zn = upL (bstrL l.zn) from by rw [greatL, e]; rfl, show zstrL l.zn = bstrL l.zn from by rw [zstrL, e]; rfl]
    exact XJ.nil
end
end Mine
end
section
open PySem PySem.W PySem.Calls PyProof.Rows
set_option maxRecDepth 100000
namespace Mine
local macro_rules | `(tactic| kqd_in) => `(tactic| first | (with_reducible exact List.mem_cons_self) | (refine List.mem_cons_of_mem _ ?_; kqd_in))
local macro_rules | `(tactic| kqd_all) => `(tactic| first
  | (with_reducible exact EJ.cint) | (with_reducible exact EJ.cstr) | (with_reducible exact EJ.cbool) | (with_reducible exact EJ.cnone)
  | ((with_reducible refine EJ.name ?_ ?_ ?_ ?_); exact okEnvS; kqd_in; decide; decide)
  | (with_reducible exact AJ.nil)
  | ((with_reducible refine AJ.cons ?_ ?_ ?_); kqd_all; kqd_all; (intro _; rfl))
  | ((with_reducible refine EJ.un ?_ ?_); kqd_all; exact un_neg)
  | ((with_reducible refine EJ.tup ?_ ?_); kqd_all; exact Nat.le_of_ble_eq_true rfl)
  | ((with_reducible refine EJ.list ?_ ?_); kqd_all; exact Nat.le_of_ble_eq_true rfl)
  | ((refine EJ.list ?_ ?_); kqd_all; exact Nat.le_of_ble_eq_true rfl)
  | ((refine AJ.cons ?_ ?_ ?_); kqd_all; kqd_all; (intro _; rfl))
  | ((refine EJ.tup ?_ ?_); kqd_all; exact Nat.le_of_ble_eq_true rfl)
  | exact AJ.nil | exact EJ.cstr | exact EJ.cint | exact EJ.cbool)
section
variable {prog : Program} {w : World} {hb : Heap} {mg mb : Str → Option Value} {n : Nat} {env : Env} {ρ : Rho} {Ω : Owns} {K : Frag} {fI fS : Addr}
theorem ofL_bne (a b : List Nat) : (ofL a != ofL b) = (a != b) := by unfold bne; rw [ofL_beq]
theorem ofL_self (x : Str) : ofL x.cps.toList = x := by cases x; simp [ofL]
set_option maxHeartbeats 4000000 in
theorem ask_mask (B : Bs hb mg mb) (I : IpAt hb) (q : Str) (c : Value) (L : Addr) (ls : List RL) (l : RL) (hl6 : ls.length = 6) (hok : ∀ l ∈ ls, l.Ok) (ok : l.Ok) (ρ ρ₀ : Rho) (old : List D) (hol : old.length ≤ 6)
    (hm : (("zones" : Str), D.list (ls.map zoneE)) ∈ ρ) (hh : (("host" : Str), D.str (ofL (greatL l.zn))) ∈ ρ) (hsub : ∀ p ∈ ρ₀, p ∈ ρ) :
    XJ prog w hb 5 (envS (pst 17) q c L 162) ρ [("asked", true, old)] ((loopAt 17 6).drop 8) (.next ρ₀ [("asked", true, old ++ [D.int (askI ls l)])]) := by
  have hzm := zone_mem ok.h
  have hc := List.all_eq_true.mp zones_chk _ hzm
  simp only [chkZone, Bool.and_eq_true] at hc
  obtain ⟨⟨⟨tb, ts⟩, ⟨c1, c2⟩, ⟨c3, c4⟩, c5⟩, ⟨⟨c6, c7⟩, c8, c9⟩, ⟨⟨c10, c11⟩, c12⟩, ⟨c13, c14⟩, ⟨c15, c16⟩, c17⟩ := hc
  refine XJ.weaken (ρ₁ := ρ) (Ω₁ := [("asked", true, old ++ [D.int (askI ls l)])]) (XJ.cons ?_ XJ.nil) hsub (fun q hq => hq)
  refine SJ.append (Ω' := []) okEnvS (.head _) (fun q hq => nomatch hq) (VJ.of ?_) (by rw [sizeLine_eq]; omega) (hi := rfl)
  refine B.mask (bs := ls.map fun o => holdsL o.zn l.zn) okEnvS (NJ.ej ?_) (by rw [List.length_map]; exact hl6) rfl
  rw [List.map_map]
  have fr : ∀ {scope : Scope} {cl : List (Str × Addr)}, FreeOK (envS (pst 17) q c L 162) scope cl "host" → Frees (envS (pst 17) q c L 162) scope cl ρ [("host", D.str (ofL (greatL l.zn)))] := fun h => .cons hh h .nil
  refine NJ.mapL (cl := [("host", L + 1 + 1 + 1 + 1)]) ls zoneE (fun o => D.bool (holdsL o.zn l.zn)) okEnvS (fr ⟨.inl rfl, fun N => rfl, .inl rfl⟩) (by omega) (SrcJ.list (EJ.name okEnvS hm)) ?_
  intro C cs hcs o ho
  subst hcs
  have oko := hok o ho
  have hzo := zone_mem oko.h
  have hr := List.all_eq_true.mp reps_chk _ hzo
  have hp := List.all_eq_true.mp (List.all_eq_true.mp pairs_chk _ hzm) _ hzo
  have hco := List.all_eq_true.mp zones_chk _ hzo
  simp only [chkRep, Bool.and_eq_true] at hr
  simp only [chkZone, Bool.and_eq_true] at hco
  have tso := hco.1.1.2
  refine B.udm I (okC okEnvS) (EJ.name (okC okEnvS) (.tail _ (.head _))) (y := (Txt.replace (ofL (zstrL o.zn)) (ofL [97]) (ofL [65])).cps.toList) ?_ c13 hr.1 c14 tso (beq_iff_eq.mp hp)
  rw [ofL_self, ← a_L, ← bigA_L]
  exact EJ.replace (EJ.name (okC okEnvS) (.head _)) (by decide +kernel) (by rw [ofL_len]; exact Nat.le_trans (tok_L tso).2.1 (by decide)) (by rw [bigA_L, ofL_len]; decide)
set_option maxHeartbeats 4000000 in
theorem ask_tests (B : Bs hb mg mb) (I : IpAt hb) (q : Str) (c : Value) (L : Addr) (ls : List RL) (l : RL) (i : Nat) (ok : l.Ok) (hi : ls[i]? = some l) (hi6 : i < 6) (ρ : Rho) (Ω : Owns) (o : Out)
    (hm : (("zones" : Str), D.list (ls.map zoneE)) ∈ ρ)
    (h : XJ prog w hb 5 (envS (pst 17) q c L 162) (("host", .str (ofL (greatL l.zn))) :: ("zone", .str (ofL (zstrL l.zn))) :: ("bare", .str (ofL (bstrL l.zn))) :: ("names", strD (l.zn.2.map ofL)) :: ("kind", .str (kindS l.zn)) :: ("which", .int i) :: ρ) Ω ((loopAt 17 6).drop 8) o) :
    XJ prog w hb 5 (envS (pst 17) q c L 162) (("host", .str (ofL (greatL l.zn))) :: ("zone", .str (ofL (zstrL l.zn))) :: ("bare", .str (ofL (bstrL l.zn))) :: ("names", strD (l.zn.2.map ofL)) :: ("kind", .str (kindS l.zn)) :: ("which", .int i) :: ρ) Ω ((loopAt 17 6).drop 5) o := by
  have hzm := zone_mem ok.h
  have hn := List.all_eq_true.mp znames_ok _ hzm
  have hc := List.all_eq_true.mp zones_chk _ hzm
  simp only [Bool.and_eq_true, decide_eq_true_eq] at hn
  simp only [chkZone, Bool.and_eq_true, Bool.not_eq_true'] at hc
  obtain ⟨n1, n2, n3, n4⟩ := hn
  obtain ⟨⟨⟨tb, ts⟩, ⟨c1, c2⟩, ⟨c3, c4⟩, c5⟩, ⟨⟨c6, c7⟩, c8, c9⟩, ⟨⟨c10, c11⟩, c12⟩, ⟨c13, c14⟩, ⟨c15, c16⟩, c17⟩ := hc
  have lb := (tok_L tb).2.1
  have lz := (tok_L ts).2.1
  have lup : (upL (bstrL l.zn)).length ≤ 100 := by rw [upL, List.length_map]; exact lb
  have lgr : (greatL l.zn).length ≤ 200 := by
    have h1 := (tok_L c14).2.1
    have h2 : (loL (greatL l.zn)).length = (greatL l.zn).length := by rw [loL, List.length_map]
    rw [beq_iff_eq.mp c13] at h2
    exact Nat.le_trans (Nat.le_of_eq h2.symm) (Nat.le_trans h1 (by decide))
  refine XJ.cons (ρ' := ("host", .str (ofL (greatL l.zn))) :: ("zone", .str (ofL (zstrL l.zn))) :: ("bare", .str (ofL (bstrL l.zn))) :: ("names", strD (l.zn.2.map ofL)) :: ("kind", .str (kindS l.zn)) :: ("which", .int i) :: ρ) (Ω' := Ω) ?_ (XJ.cons (ρ' := ("host", .str (ofL (greatL l.zn))) :: ("zone", .str (ofL (zstrL l.zn))) :: ("bare", .str (ofL (bstrL l.zn))) :: ("names", strD (l.zn.2.map ofL)) :: ("kind", .str (kindS l.zn)) :: ("which", .int i) :: ρ) (Ω' := Ω) ?_ (XJ.cons (ρ' := ("host", .str (ofL (greatL l.zn))) :: ("zone", .str (ofL (zstrL l.zn))) :: ("bare", .str (ofL (bstrL l.zn))) :: ("names", strD (l.zn.2.map ofL)) :: ("kind", .str (kindS l.zn)) :: ("which", .int i) :: ρ) (Ω' := Ω) ?_ h))
  · refine SJ.ite (b := false) (CJ.of (BJ.cast (b := (ofL (zstrL l.zn) != ofL (zstrL l.zn)) || ((true != true) || false)) (by simp) (BJ.bool ?_))) (fun h => nomatch h) (fun _ => XJ.nil)
    refine AllB.or ?_ fun _ => AllB.or ?_ fun _ => AllB.or0
    · refine BJ.cmp (a := .str (ofL (zstrL l.zn))) (b := .str (ofL (zstrL l.zn))) (EJ.sub (a := .list (ls.map zoneE)) (b := .int i) (EJ.name okEnvS (.tail _ (.tail _ (.tail _ (.tail _ (.tail _ (.tail _ hm))))))) (EJ.name okEnvS (.tail _ (.tail _ (.tail _ (.tail _ (.tail _ (.head _))))))) (get_list (by omega) (by omega) ?_)) (EJ.name okEnvS (.tail _ (.head _))) cmp_ne_str
      rw [Int.toNat_natCast, List.getElem?_map, hi]; rfl
    · refine BJ.cmp (a := .bool true) (b := .bool true) (B.udm I okEnvS (EJ.upper (EJ.name okEnvS (.tail _ (.head _))) (tok_L ts).2.2 (Nat.le_trans lz (by decide))) (EJ.name okEnvS (.tail _ (.head _))) c1 c2 ts ts c5) EJ.cbool cmp_isNot_bool
  · refine SJ.ite (b := false) (CJ.of (BJ.cast (b := (false != false) || ((false != false) || false)) (by simp) (BJ.bool ?_))) (fun h => nomatch h) (fun _ => XJ.nil)
    refine AllB.or ?_ fun _ => AllB.or ?_ fun _ => AllB.or0
    · refine BJ.cmp (a := .bool false) (b := .bool false) (B.udm I okEnvS (EJ.cast (d := .str ("W." ++ ofL (upL (bstrL l.zn)))) (by rw [w_L, ofL_app]) (EJ.bin (a := .str "W.") (b := .str (ofL (upL (bstrL l.zn)))) EJ.cstr (EJ.upper (EJ.name okEnvS (.tail _ (.tail _ (.head _)))) (tok_L tb).2.2 (Nat.le_trans lb (by decide))) (bin_add_str ?_))) (EJ.name okEnvS (.tail _ (.tail _ (.head _)))) c6 c8 c7 tb c9) EJ.cbool cmp_isNot_bool
      rw [w_L, ofL_len, ofL_len, sizeLine_eq]; exact Nat.le_trans (Nat.add_le_add_left lup 2) (by decide)
    · refine BJ.cmp (a := .bool false) (b := .bool false) (B.udm I okEnvS (EJ.cast (d := .str (ofL (greatL l.zn) ++ ".X")) (by rw [x_L, ofL_app]) (EJ.bin (a := .str (ofL (greatL l.zn))) (b := .str ".X") (EJ.name okEnvS (.head _)) EJ.cstr (bin_add_str ?_))) (EJ.name okEnvS (.tail _ (.head _))) c10 c2 c11 ts c12) EJ.cbool cmp_isNot_bool
      rw [x_L, ofL_len, ofL_len, sizeLine_eq]; exact Nat.le_trans (Nat.add_le_add_right lgr 2) (by decide)
  · have hlast : ∀ {p1 p2 p3 p4 : Pos}, EJ prog w hb 5 (envS (pst 17) q c L 162) (("host", .str (ofL (greatL l.zn))) :: ("zone", .str (ofL (zstrL l.zn))) :: ("bare", .str (ofL (bstrL l.zn))) :: ("names", strD (l.zn.2.map ofL)) :: ("kind", .str (kindS l.zn)) :: ("which", .int i) :: ρ) (.Subscript (.Name "names" p1) (.UnaryOp .USub (.Constant (.int 1) 0 p2) p3) p4) (.str (ofL (lastL l.zn))) := by
      intro p1 p2 p3 p4
      refine EJ.sub (a := strD (l.zn.2.map ofL)) (EJ.name okEnvS (.tail _ (.tail _ (.tail _ (.head _))))) (EJ.un EJ.cint un_neg) (get_list_neg (by decide) ?_ (by decide) ?_)
      · rw [List.length_map, List.length_map]; have n2' : 1 ≤ l.zn.2.length := n2; omega
      · rw [lastL, ← last_L]; exact last_get (by rw [List.length_map]; exact n2)
    refine SJ.ite (b := false) (CJ.of (BJ.cast (b := (lastL l.zn != [55]) != (lastL l.zn != [55])) (by simp) ?_)) (fun h => nomatch h) (fun _ => XJ.nil)
    refine BJ.cmp (a := .bool (lastL l.zn != [55])) (b := .bool (lastL l.zn != [55])) (B.udm I okEnvS (EJ.name okEnvS (.head _)) (y := 46 :: lastL l.zn) (EJ.cast (d := .str ("." ++ ofL (lastL l.zn))) (by rw [dot_L, ofL_app]; rfl) (EJ.bin (a := .str ".") (b := .str (ofL (lastL l.zn))) EJ.cstr hlast (bin_add_str ?_))) c13 c15 c14 c16 (beq_iff_eq.mp c17)) (EJ.cast (d := .bool (ofL (lastL l.zn) != "7")) (by rw [seven_L, ofL_bne]) (EJ.cmp (a := .str (ofL (lastL l.zn))) (b := .str "7") hlast EJ.cstr cmp_ne_str)) cmp_isNot_bool
    have h1 := (tok_L c16).2.1
    have h1 : (lastL l.zn).length + 1 ≤ 100 := h1
    rw [dot_L, ofL_len, ofL_len, sizeLine_eq]
    show 1 + (lastL l.zn).length ≤ 16777216
    omega
end
end Mine
end
section
open PySem PySem.W PySem.Calls PyProof.Rows
set_option maxRecDepth 100000
namespace Mine
local macro_rules | `(tactic| kqd_in) => `(tactic| first | (with_reducible exact List.mem_cons_self) | (refine List.mem_cons_of_mem _ ?_; kqd_in))
local macro_rules | `(tactic| kqd_all) => `(tactic| first
  | (with_reducible exact EJ.cint) | (with_reducible exact EJ.cstr) | (with_reducible exact EJ.cbool) | (with_reducible exact EJ.cnone)
  | ((with_reducible refine EJ.name ?_ ?_ ?_ ?_); exact okEnvS; kqd_in; decide; decide)
  | (with_reducible exact AJ.nil)
  | ((with_reducible refine AJ.cons ?_ ?_ ?_); kqd_all; kqd_all; (intro _; rfl))
  | ((with_reducible refine EJ.un ?_ ?_); kqd_all; exact un_neg)
  | ((with_reducible refine EJ.tup ?_ ?_); kqd_all; exact Nat.le_of_ble_eq_true rfl)
  | ((with_reducible refine EJ.list ?_ ?_); kqd_all; exact Nat.le_of_ble_eq_true rfl)
  | ((refine EJ.list ?_ ?_); kqd_all; exact Nat.le_of_ble_eq_true rfl)
  | ((refine AJ.cons ?_ ?_ ?_); kqd_all; kqd_all; (intro _; rfl))
  | ((refine EJ.tup ?_ ?_); kqd_all; exact Nat.le_of_ble_eq_true rfl)
  | exact AJ.nil | exact EJ.cstr | exact EJ.cint | exact EJ.cbool)
section
variable {prog : Program} {w : World} {hb : Heap} {mg mb : Str → Option Value} {n : Nat} {env : Env} {ρ : Rho} {Ω : Owns} {K : Frag} {fI fS : Addr}
set_option maxHeartbeats 1000000 in
theorem ask_loop (B : Bs hb mg mb) (I : IpAt hb) (q : Str) (c : Value) (L : Addr) (ls : List RL) (hl6 : ls.length = 6) (hok : ∀ l ∈ ls, l.Ok) (ρ : Rho)
    (hm : (("rules" : Str), D.list (ls.map ruleE)) ∈ ρ) (hm2 : (("zones" : Str), D.list (ls.map zoneE)) ∈ ρ)
    (hz : ∀ x ∈ ([Str.ofString "which", Str.ofString "kind", Str.ofString "names", Str.ofString "bare", Str.ofString "zone", Str.ofString "host"] : List Str), (ρ.all fun p => p.1 != x) = true) :
    SJ prog w hb 5 (envS (pst 17) q c L 162) ρ [("asked", true, [])] (((bodyOf (pst 17))[6]?).getD default) (.next ρ [("asked", true, ls.map fun l => D.int (askI ls l))]) := by
  have hz' : ∀ (ds : List D), ∀ x ∈ ([Str.ofString "which", Str.ofString "kind", Str.ofString "names", Str.ofString "bare", Str.ofString "zone", Str.ofString "host"] : List Str), (ρ.all fun p => p.1 != x) = true ∧ (([("asked", true, ds)] : Owns).all fun p => p.1 != x) = true := by
    intro ds x hx
    refine ⟨hz x hx, ?_⟩
    refine nmO ?_ rfl
    have : ([Str.ofString "which", Str.ofString "kind", Str.ofString "names", Str.ofString "bare", Str.ofString "zone", Str.ofString "host"] : List Str).all (fun x => Str.ofString "asked" != x) = true := by decide +kernel
    exact List.all_eq_true.mp this x hx
  show SJ prog w hb 5 _ _ _ (Stmt.For _ _ _ _ _) _
  with_reducible refine SJ.forL (ds := intD 6) 6 (fun _ => ρ) (fun i => [("asked", true, (ls.take i).map fun l => D.int (askI ls l))]) (fun i => ("which", .int i) :: ρ) (fun i => [("asked", true, (ls.take i).map fun l => D.int (askI ls l))]) ?_ ?_ ?_ ?_ ?_ ?_ ?_ ?_ ?_
  · exact SrcJ.range (k := 6) B.W okEnvS rfl (B.bi rfl) EJ.cint (by decide)
  · rfl
  · rfl
  · rfl
  · intro i d hd
    have hi : i < 6 := by
      rcases Nat.lt_or_ge i 6 with h | h
      · exact h
      · rw [List.getElem?_eq_none (by simpa [intD] using h)] at hd; cases hd
    have e : d = .int (i : Int) := by simpa [intD, hi] using hd.symm
    rw [e]; exact AsJ.set okEnvS (.inl rfl) (hz _ (.head _)) (hz' _ _ (.head _)).2
  · intro i d hd
    have hi : i < 6 := by
      rcases Nat.lt_or_ge i 6 with h | h
      · exact h
      · rw [List.getElem?_eq_none (by simpa [intD] using h)] at hd; cases hd
    have hil : i < ls.length := by omega
    have hli : ls[i]? = some ls[i] := List.getElem?_eq_getElem hil
    have hmem : ls[i] ∈ ls := List.getElem_mem hil
    have hlast : (ls.take (i + 1)).map (fun l => D.int (askI ls l)) = (ls.take i).map (fun l => D.int (askI ls l)) ++ [D.int (askI ls ls[i])] := by
      rw [List.take_add_one, hli, Option.toList_some, List.map_append]; rfl
    rw [hlast]
    generalize hold : (ls.take i).map (fun l => D.int (askI ls l)) = old
    have hol : old.length ≤ 6 := by rw [← hold, List.length_map, List.length_take]; omega
    have hf := hz' old
    generalize ls[i] = l at hli hmem ⊢
    have ok := hok _ hmem
    refine ask_head B q c L ls l i ok hli hi ρ [("asked", true, old)] _ hm hf ?_
    refine ask_tests B I q c L ls l i ok hli hi ρ [("asked", true, old)] _ hm2 ?_
    exact ask_mask B I q c L ls l hl6 hok ok _ ρ old hol (.tail _ (.tail _ (.tail _ (.tail _ (.tail _ (.tail _ hm2)))))) (.head _) (fun p hp => .tail _ (.tail _ (.tail _ (.tail _ (.tail _ (.tail _ hp))))))
  · rfl
  · show [(_, _, _)] = _
    rw [List.take_of_length_le (by omega)]
  · intro _ _; rfl
end
end Mine
end
section
open PySem PySem.W PySem.Calls PyProof.Rows
set_option maxRecDepth 100000
namespace Mine
local macro_rules | `(tactic| kqd_in) => `(tactic| first | (with_reducible exact List.mem_cons_self) | (refine List.mem_cons_of_mem _ ?_; kqd_in))
local macro_rules | `(tactic| kqd_all) => `(tactic| first
  | (with_reducible exact EJ.cint) | (with_reducible exact EJ.cstr) | (with_reducible exact EJ.cbool) | (with_reducible exact EJ.cnone)
  | ((with_reducible refine EJ.name ?_ ?_ ?_ ?_); exact okEnvS; kqd_in; decide; decide)
  | (with_reducible exact AJ.nil)
  | ((with_reducible refine AJ.cons ?_ ?_ ?_); kqd_all; kqd_all; (intro _; rfl))
  | ((with_reducible refine EJ.un ?_ ?_); kqd_all; exact un_neg)
  | ((with_reducible refine EJ.tup ?_ ?_); kqd_all; exact Nat.le_of_ble_eq_true rfl)
  | ((with_reducible refine EJ.list ?_ ?_); kqd_all; exact Nat.le_of_ble_eq_true rfl)
  | ((refine EJ.list ?_ ?_); kqd_all; exact Nat.le_of_ble_eq_true rfl)
  | ((refine AJ.cons ?_ ?_ ?_); kqd_all; kqd_all; (intro _; rfl))
  | ((refine EJ.tup ?_ ?_); kqd_all; exact Nat.le_of_ble_eq_true rfl)
  | exact AJ.nil | exact EJ.cstr | exact EJ.cint | exact EJ.cbool)
section
variable {prog : Program} {w : World} {hb : Heap} {mg mb : Str → Option Value} {n : Nat} {env : Env} {ρ : Rho} {Ω : Owns} {K : Frag} {fI fS : Addr}
theorem slash_L2 : (("/" : String) : Str) = ofL [47] := by decide +kernel
theorem slA_L : (("/A" : String) : Str) = ofL [47, 65] := by decide +kernel
theorem sla_L : (("/a" : String) : Str) = ofL [47, 97] := by decide +kernel
theorem turn_L : (([0, 1] : List Nat)).length = 2 := rfl
def testsD (l : RL) : List D := [.tup [placeD l.au (ofL (wayL l.steps ++ [47])), placeD l.au (ofL (wayL l.steps))], .tup [placeD l.au (ofL [47, 65]), placeD l.au (ofL ([47, 97] ++ wayL l.steps))]]
def bt (l : RL) (j : Nat) : D × D := if j = 0 then (placeD l.au (ofL (wayL l.steps ++ [47])), placeD l.au (ofL (wayL l.steps))) else (placeD l.au (ofL [47, 65]), placeD l.au (ofL ([47, 97] ++ wayL l.steps)))
set_option maxHeartbeats 1000000 in
theorem way_inner (B : Bs hb mg mb) (k : Kc K hb fI fS) (q : Str) (c : Value) (L : Addr) (l : RL) (ok : l.Ok) (ρ : Rho) (Ω : Owns) (hmg : (("manager" : Str), D.mgr) ∈ ρ) (hmn : (("name" : Str), D.str l.au) ∈ ρ) (hmw : (("way" : Str), D.str (ofL (wayL l.steps))) ∈ ρ)
    (hz : ∀ x ∈ ([Str.ofString "base", Str.ofString "test"] : List Str), (ρ.all fun p => p.1 != x) = true ∧ (Ω.all fun p => p.1 != x) = true) :
    SJ prog w hb 5 (envS (pst 17) q c L 162) ρ Ω (((loopAt 17 8)[0]?).getD default) (.next ρ Ω) := by
  have hw := List.all_eq_true.mp ways_chk _ ok.s
  simp only [Bool.and_eq_true, decide_eq_true_eq] at hw
  obtain ⟨w1, w2, w3, w4⟩ := hw
  have hpre := List.all_eq_true.mp pre_chk _ ok.s
  have hsl := List.all_eq_true.mp slash_chk _ ok.s
  simp only [Bool.and_eq_true, Bool.not_eq_true'] at hpre hsl
  have z1 := hz _ (.head _)
  have z2 := hz _ (.tail _ (.head _))
  show SJ prog w hb 5 _ _ _ (Stmt.For _ _ _ _ _) _
  with_reducible refine SJ.forL (ds := testsD l) 2 (fun _ => ρ) (fun _ => Ω) (fun j => ("test", (bt l j).2) :: ("base", (bt l j).1) :: ρ) (fun _ => Ω) ?_ ?_ ?_ ?_ ?_ ?_ ?_ ?_ ?_
  · refine SrcJ.list ?_
    refine EJ.list (AJ.cons (EJ.tup (AJ.cons (EJ.tup (AJ.cons (EJ.name okEnvS hmn) (AJ.cons (EJ.cast (d := .str (ofL (wayL l.steps) ++ "/")) (by rw [slash_L2, ofL_app]) (EJ.bin (a := .str (ofL (wayL l.steps))) (b := .str "/") (EJ.name okEnvS hmw) EJ.cstr (bin_add_str ?_))) AJ.nil)) (Nat.le_of_ble_eq_true rfl)) (AJ.cons (EJ.tup (AJ.cons (EJ.name okEnvS hmn) (AJ.cons (EJ.name okEnvS hmw) AJ.nil)) (Nat.le_of_ble_eq_true rfl)) AJ.nil)) (Nat.le_of_ble_eq_true rfl))
      (AJ.cons (EJ.tup (AJ.cons (EJ.tup (AJ.cons (EJ.name okEnvS hmn) (AJ.cons (EJ.cast (d := .str "/A") (by rw [slA_L]) EJ.cstr) AJ.nil)) (Nat.le_of_ble_eq_true rfl)) (AJ.cons (EJ.tup (AJ.cons (EJ.name okEnvS hmn) (AJ.cons (EJ.cast (d := .str ("/a" ++ ofL (wayL l.steps))) (by rw [sla_L, ofL_app]) (EJ.bin (a := .str "/a") (b := .str (ofL (wayL l.steps))) EJ.cstr (EJ.name okEnvS hmw) (bin_add_str ?_))) AJ.nil)) (Nat.le_of_ble_eq_true rfl)) AJ.nil)) (Nat.le_of_ble_eq_true rfl)) AJ.nil)) (Nat.le_of_ble_eq_true rfl)
    · rw [slash_L2, ofL_len, ofL_len, sizeLine_eq]; exact Nat.le_trans (Nat.add_le_add_right w2 1) (by decide)
    · rw [sla_L, ofL_len, ofL_len, sizeLine_eq]; exact Nat.le_trans (Nat.add_le_add_left w2 2) (by decide)
  · rfl
  · rfl
  · rfl
  · intro j d hd
    have hj : d = .tup [(bt l j).1, (bt l j).2] := by
      match j, hd with
      | 0, hd => injection hd with hd; exact hd.symm
      | 1, hd => injection hd with hd; exact hd.symm
    rw [hj]
    exact AsJ.pair (AsJ.set okEnvS (.inl rfl) z1.1 z1.2) (AsJ.set okEnvS (.inl rfl) (nm (by decide +kernel) z2.1) z2.2)
  · intro j d hd
    have hs : ∃ p r : List Nat, bt l j = (placeD l.au (ofL p), placeD l.au (ofL r)) ∧ chkPre p = true ∧ underL p r = false ∧ ascL p = true ∧ ascL r = true ∧ p.length ≤ 1000 := by
      match j, hd with
      | 0, hd => exact ⟨_, _, rfl, hpre.2, hsl.1, by rw [ascL, List.all_append, Bool.and_eq_true]; exact ⟨w1, by decide⟩, w1, by rw [List.length_append]; exact Nat.le_trans (Nat.add_le_add_right w2 1) (by decide)⟩
      | 1, hd => exact ⟨_, _, rfl, pre_chkA, hsl.2, by decide, by rw [ascL, List.all_append, Bool.and_eq_true]; exact ⟨by decide, w1⟩, by decide⟩
    obtain ⟨p, r, hb', h1, h2, h3, h4, h5⟩ := hs
    refine XJ.weaken (ρ₁ := ("test", (bt l j).2) :: ("base", (bt l j).1) :: ρ) (Ω₁ := Ω) (XJ.cons ?_ XJ.nil) (fun p hp => .tail _ (.tail _ hp)) (fun q hq => hq)
    rw [hb']
    refine SJ.ite (b := false) (CJ.of (BJ.cast (b := false != false) rfl ?_)) (fun h => nomatch h) (fun _ => XJ.nil)
    refine BJ.cmp (a := .bool false) (b := .bool false) (EJ.cast (d := .bool (suburiB l.au (ofL p) l.au (ofL r))) ?_ ?_) EJ.cbool cmp_isNot_bool
    · rw [suburi_L _ _ h1, h2, Bool.and_false]
    · exact EJ.suburi k (EJ.name okEnvS (.tail _ (.tail _ hmg))) (AJ.cons (EJ.name okEnvS (.tail _ (.head _))) (AJ.cons (EJ.name okEnvS (.head _)) AJ.nil)) ((suburi_call B.W k _ _ _ _ ok.a (strOk_L h3) ok.a (strOk_L h4) (by rw [ofL_len]; exact h5)).mono (by decide))
  · rfl
  · rfl
  · intro _ _; rfl
def wayT (ls : List RL) (ρ : Rho) (i : Nat) : Rho := match ls[i]? with | some l => ("way", .str (ofL (wayL l.steps))) :: ("name", .str l.au) :: ρ | none => ρ
set_option maxHeartbeats 1000000 in
theorem way_loop (B : Bs hb mg mb) (k : Kc K hb fI fS) (q : Str) (c : Value) (L : Addr) (ls : List RL) (hok : ∀ l ∈ ls, l.Ok) (ρ : Rho) (Ω : Owns) (hmg : (("manager" : Str), D.mgr) ∈ ρ) (hmp : (("places" : Str), D.list (ls.map placeE)) ∈ ρ)
    (hz : ∀ x ∈ ([Str.ofString "name", Str.ofString "way", Str.ofString "base", Str.ofString "test"] : List Str), (ρ.all fun p => p.1 != x) = true ∧ (Ω.all fun p => p.1 != x) = true) :
    SJ prog w hb 5 (envS (pst 17) q c L 162) ρ Ω (((bodyOf (pst 17))[8]?).getD default) (.next ρ Ω) := by
  have z1 := hz _ (.head _)
  have z2 := hz _ (.tail _ (.head _))
  have z3 := hz _ (.tail _ (.tail _ (.head _)))
  have z4 := hz _ (.tail _ (.tail _ (.tail _ (.head _))))
  show SJ prog w hb 5 _ _ _ (Stmt.For _ _ _ _ _) _
  with_reducible refine SJ.forL (ds := ls.map placeE) ls.length (fun _ => ρ) (fun _ => Ω) (wayT ls ρ) (fun _ => Ω) ?_ ?_ ?_ ?_ ?_ ?_ ?_ ?_ ?_
  · exact SrcJ.list (EJ.name okEnvS hmp)
  · rw [List.length_map]
  · rfl
  · rfl
  · intro i d hd
    rw [List.getElem?_map] at hd
    cases hl : ls[i]? with
    | none => rw [hl] at hd; cases hd
    | some l =>
      rw [hl] at hd
      injection hd with hd
      rw [← hd, wayT, hl]
      exact AsJ.pair (AsJ.set okEnvS (.inl rfl) z1.1 z1.2) (AsJ.set okEnvS (.inl rfl) (nm (by decide +kernel) z2.1) z2.2)
  · intro i d hd
    rw [List.getElem?_map] at hd
    cases hl : ls[i]? with
    | none => rw [hl] at hd; cases hd
    | some l =>
      rw [wayT, hl]
      refine XJ.weaken (ρ₁ := ("way", .str (ofL (wayL l.steps))) :: ("name", .str l.au) :: ρ) (Ω₁ := Ω) (XJ.cons (way_inner B k q c L l (hok l (List.mem_of_getElem? hl)) _ Ω (.tail _ (.tail _ hmg)) (.tail _ (.head _)) (.head _) ?_) XJ.nil) (fun p hp => .tail _ (.tail _ hp)) (fun q hq => hq)
      intro x hx
      rcases List.mem_cons.mp hx with rfl | hx
      · exact ⟨nm (by decide +kernel) (nm (by decide +kernel) z3.1), z3.2⟩
      · rw [List.mem_singleton.mp hx]
        exact ⟨nm (by decide +kernel) (nm (by decide +kernel) z4.1), z4.2⟩
  · rfl
  · rfl
  · intro _ _; rfl
end
end Mine
end
section
open PySem PySem.W PySem.Calls PyProof.Rows
set_option maxRecDepth 100000
namespace Mine
local macro_rules | `(tactic| kqd_in) => `(tactic| first | (with_reducible exact List.mem_cons_self) | (refine List.mem_cons_of_mem _ ?_; kqd_in))
local macro_rules | `(tactic| kqd_all) => `(tactic| first
  | (with_reducible exact EJ.cint) | (with_reducible exact EJ.cstr) | (with_reducible exact EJ.cbool) | (with_reducible exact EJ.cnone)
  | ((with_reducible refine EJ.name ?_ ?_ ?_ ?_); exact okEnvS; kqd_in; decide; decide)
  | (with_reducible exact AJ.nil)
  | ((with_reducible refine AJ.cons ?_ ?_ ?_); kqd_all; kqd_all; (intro _; rfl))
  | ((with_reducible refine EJ.un ?_ ?_); kqd_all; exact un_neg)
  | ((with_reducible refine EJ.tup ?_ ?_); kqd_all; exact Nat.le_of_ble_eq_true rfl)
  | ((with_reducible refine EJ.list ?_ ?_); kqd_all; exact Nat.le_of_ble_eq_true rfl)
  | ((refine EJ.list ?_ ?_); kqd_all; exact Nat.le_of_ble_eq_true rfl)
  | ((refine AJ.cons ?_ ?_ ?_); kqd_all; kqd_all; (intro _; rfl))
  | ((refine EJ.tup ?_ ?_); kqd_all; exact Nat.le_of_ble_eq_true rfl)
  | exact AJ.nil | exact EJ.cstr | exact EJ.cint | exact EJ.cbool)
section
variable {prog : Program} {w : World} {hb : Heap} {mg mb : Str → Option Value} {n : Nat} {env : Env} {ρ : Rho} {Ω : Owns} {K : Frag} {fI fS : Addr}
def natI (ns : List Nat) : List D := ns.map fun (n : Nat) => D.int (n : Int)
theorem natI_map (ns : List Nat) : natI ns = (ns.map fun (n : Nat) => (n : Int)).map D.int := by rw [natI, List.map_map]; rfl
def pairsN (A Bl : List Nat) : List Nat := A.flatMap fun a => Bl.map fun b => a &&& b
def ddup (P : List Nat) : List Nat := P.foldl (fun m x => if m.contains x then m else m ++ [x]) []
theorem ddup_succ {P : List Nat} {i : Nat} {x : Nat} (h : P[i]? = some x) : ddup (P.take (i + 1)) = if (ddup (P.take i)).contains x then ddup (P.take i) else ddup (P.take i) ++ [x] := by
  rw [ddup, List.take_add_one, h, Option.toList_some, List.foldl_append]; rfl
theorem ddup_len (P : List Nat) : ∀ i, (ddup (P.take i)).length ≤ i := by
  intro i
  induction i with
  | zero => simp [ddup]
  | succ i ih =>
    cases h : P[i]? with
    | none =>
      have h' := List.getElem?_eq_none_iff.mp h
      rw [List.take_of_length_le (by omega)]
      rw [List.take_of_length_le h'] at ih
      omega
    | some x =>
      rw [ddup_succ h]
      split
      · omega
      · rw [List.length_append]; show _ + 1 ≤ _; omega
theorem contains_cast (ns : List Nat) (x : Nat) : (ns.map fun (n : Nat) => (n : Int)).contains (x : Int) = ns.contains x := by
  rw [Bool.eq_iff_iff, List.contains_iff_mem, List.contains_iff_mem, List.mem_map]
  constructor
  · rintro ⟨y, hy, e⟩; rw [← show y = x from by omega]; exact hy
  · intro h; exact ⟨x, h, rfl⟩
set_option maxHeartbeats 1000000 in
theorem mask_loop (B : Bs hb mg mb) (q : Str) (c : Value) (L : Addr) (A Bl : List Nat) (hA : A.length = 6) (hB : Bl.length = 6) (ρ : Rho) (hma : (("asked" : Str), D.list (natI A)) ∈ ρ) (hmb : (("below" : Str), D.list (natI Bl)) ∈ ρ)
    (hz : (ρ.all fun p => p.1 != ("mask" : Str)) = true) :
    SJ prog w hb 5 (envS (pst 17) q c L 162) ρ [("masks", true, [])] (((bodyOf (pst 17))[10]?).getD default) (.next ρ [("masks", true, natI (ddup (pairsN A Bl)))]) := by
  have hP : (pairsN A Bl).length = 36 := by
    rw [pairsN, List.length_flatMap]
    match A, hA with
    | [a, b, c, d, e, f], _ => simp [hB]
  show SJ prog w hb 5 _ _ _ (Stmt.For _ _ _ _ _) _
  with_reducible refine SJ.forL (ds := natI (pairsN A Bl)) 36 (fun _ => ρ) (fun i => [("masks", true, natI (ddup ((pairsN A Bl).take i)))]) (fun i => ("mask", .int (((pairsN A Bl).getD i 0 : Nat) : Int)) :: ρ) (fun i => [("masks", true, natI (ddup ((pairsN A Bl).take i)))]) ?_ ?_ ?_ ?_ ?_ ?_ ?_ ?_ ?_
  · refine SrcJ.list (NJ.ej ?_)
    have e : natI (pairsN A Bl) = A.flatMap fun a => Bl.map fun b => D.int ((a &&& b : Nat) : Int) := by
      rw [natI, pairsN, List.map_flatMap]
      congr 1; funext a; rw [List.map_map]; rfl
    rw [e]
    have fr : ∀ {scope : Scope} {cl : List (Str × Addr)}, FreeOK (envS (pst 17) q c L 162) scope cl "below" → Frees (envS (pst 17) q c L 162) scope cl ρ [("below", D.list (natI Bl))] := fun h => .cons hmb h .nil
    refine NJ.comp2 (cl := [("below", L + 1 + 1 + 1 + 1 + 1)]) A (fun a => D.int (a : Int)) Bl (fun b => D.int (b : Int)) (fun a b => D.int ((a &&& b : Nat) : Int)) okEnvS (fr ⟨.inl rfl, fun N => rfl, .inl rfl⟩) (by rw [hA, hB]; decide) (SrcJ.list (EJ.name okEnvS hma)) ?_ ?_ (by decide +kernel)
    · intro C cs hcs a ha
      subst hcs
      exact SrcJ.list (EJ.name (okC okEnvS) (.tail _ (.head _)))
    · intro C cs hcs a ha b hb
      have h := bin_and_int (prog := prog) (w := w) (a := (a : Int)) (b := (b : Int))
      rw [bitAnd_pp (by omega) (by omega), Int.toNat_natCast, Int.toNat_natCast] at h
      exact EJ.bin (EJ.name (okC okEnvS) (.tail _ (.head _))) (EJ.name (okC okEnvS) (.head _)) h
  · rw [natI, List.length_map]; exact hP
  · rfl
  · rfl
  · intro i d hd
    rw [natI, List.getElem?_map] at hd
    cases hx : (pairsN A Bl)[i]? with
    | none => rw [hx] at hd; cases hd
    | some x =>
      rw [hx] at hd
      injection hd with hd
      rw [← hd, List.getD_eq_getElem?_getD, hx]
      exact AsJ.set okEnvS (.inl rfl) hz (nmO (by decide +kernel) rfl)
  · intro i d hd
    rw [natI, List.getElem?_map] at hd
    cases hx : (pairsN A Bl)[i]? with
    | none => rw [hx] at hd; cases hd
    | some x =>
      have hi : i < 36 := by rw [← hP]; exact (List.getElem?_eq_some_iff.mp hx).1
      have hlen := ddup_len (pairsN A Bl) i
      rw [List.getD_eq_getElem?_getD, hx, ddup_succ hx]
      generalize ddup ((pairsN A Bl).take i) = m at hlen ⊢
      refine XJ.weaken (ρ₁ := ("mask", .int (x : Int)) :: ρ) (Ω₁ := [("masks", true, natI (if m.contains x then m else m ++ [x]))]) (XJ.cons ?_ XJ.nil) (fun p hp => .tail _ hp) (fun q hq => hq)
      refine SJ.ite (b := !m.contains x) (CJ.lend (BJ.cast (b := !(m.map fun (n : Nat) => (n : Int)).contains (x : Int)) (by rw [contains_cast]) (BJ.cmp (a := .int (x : Int)) (b := .list (natI m)) (EJ.name okEnvS (.head _)) (EJ.name okEnvS (List.mem_append_right _ (.head _))) (by rw [natI_map]; exact cmp_notIn_ints)))) (fun e => ?_) (fun e => ?_)
      · rw [if_neg (by simpa using e)]
        rw [show natI (m ++ [x]) = natI m ++ [D.int (x : Int)] from by rw [natI, List.map_append]; rfl]
        exact XJ.cons (SJ.append (Ω' := []) okEnvS (.head _) (fun q hq => nomatch hq) (VJ.of (EJ.name okEnvS (.head _))) (by rw [natI, List.length_map, sizeLine_eq]; omega) (hi := rfl)) XJ.nil
      · rw [if_pos (by simpa using e)]
        exact XJ.nil
  · rfl
  · show [(_, _, _)] = _
    rw [List.take_of_length_le (by omega)]
  · intro _ _; rfl
end
end Mine
end
section
open PySem PySem.W PySem.Calls PyProof.Rows
set_option maxRecDepth 100000
namespace Mine
local macro_rules | `(tactic| kqd_in) => `(tactic| first | (with_reducible exact List.mem_cons_self) | (refine List.mem_cons_of_mem _ ?_; kqd_in))
local macro_rules | `(tactic| kqd_all) => `(tactic| first
  | (with_reducible exact EJ.cint) | (with_reducible exact EJ.cstr) | (with_reducible exact EJ.cbool) | (with_reducible exact EJ.cnone)
  | ((with_reducible refine EJ.name ?_ ?_ ?_ ?_); exact okEnvS; kqd_in; decide; decide)
  | (with_reducible exact AJ.nil)
  | ((with_reducible refine AJ.cons ?_ ?_ ?_); kqd_all; kqd_all; (intro _; rfl))
  | ((with_reducible refine EJ.un ?_ ?_); kqd_all; exact un_neg)
  | ((with_reducible refine EJ.tup ?_ ?_); kqd_all; exact Nat.le_of_ble_eq_true rfl)
  | ((with_reducible refine EJ.list ?_ ?_); kqd_all; exact Nat.le_of_ble_eq_true rfl)
  | ((refine EJ.list ?_ ?_); kqd_all; exact Nat.le_of_ble_eq_true rfl)
  | ((refine AJ.cons ?_ ?_ ?_); kqd_all; kqd_all; (intro _; rfl))
  | ((refine EJ.tup ?_ ?_); kqd_all; exact Nat.le_of_ble_eq_true rfl)
  | exact AJ.nil | exact EJ.cstr | exact EJ.cint | exact EJ.cbool)
section
variable {prog : Program} {w : World} {hb : Heap} {mg mb : Str → Option Value} {n : Nat} {env : Env} {ρ : Rho} {Ω : Owns} {K : Frag} {fI fS : Addr}
def hitsN (M : List Nat) (f : Nat) : List Nat := M.filter fun m => m.testBit f
def off (t m : Nat) : Nat := t - (t &&& m)
def feN (M : List Nat) (f : Nat) (l : List Nat) (t : Nat) : Nat := 1 + ((hitsN M f).map fun m => l.getD (off t m) 0).foldl min 6
def moN (N : List Nat) (f r : Nat) (l : List Nat) (t : Nat) : Nat := max (l.getD r 0) (1 + l.getD (off t (N.getD f 0)) 0)
def feT (M : List Nat) : Nat → List Nat
  | 0 => [0]
  | t + 1 => feT M t ++ [feN M (Nat.log2 (t + 1)) (feT M t) (t + 1)]
def moT (N : List Nat) : Nat → List Nat
  | 0 => [0]
  | t + 1 => moT N t ++ [moN N (Nat.log2 (t + 1)) (t + 1 - 2 ^ Nat.log2 (t + 1)) (moT N t) (t + 1)]
theorem feT_len (M : List Nat) : ∀ t, (feT M t).length = t + 1
  | 0 => rfl
  | t + 1 => by rw [feT, List.length_append, feT_len M t]; rfl
theorem moT_len (N : List Nat) : ∀ t, (moT N t).length = t + 1
  | 0 => rfl
  | t + 1 => by rw [moT, List.length_append, moT_len N t]; rfl
theorem log2_at {f r : Nat} (h : r < 2 ^ f) : Nat.log2 (2 ^ f + r) = f := by
  have := Nat.two_pow_pos f
  refine (Nat.log2_eq_iff (by omega)).mpr ⟨by omega, ?_⟩
  rw [Nat.pow_succ]; omega
theorem idx_cast (t m : Nat) : Builtin.bitAnd (t : Int) (Builtin.bitNot (m : Int)) = ((off t m : Nat) : Int) := by
  rw [bitAnd_not, bitAnd_pp (by omega) (by omega), Int.toNat_natCast, Int.toNat_natCast]
  have := @Nat.and_le_left t m
  unfold off
  omega
theorem bit_top {f r : Nat} (h : r < 2 ^ f) : (2 ^ f + r).testBit f = true := by
  rw [Nat.testBit_two_pow_add_eq, Nat.testBit_lt_two_pow h]; rfl
theorem off_lt {t m f : Nat} (ht : t.testBit f = true) (hm : m.testBit f = true) : off t m < t := by
  have h1 : (t &&& m).testBit f = true := by rw [Nat.testBit_and, ht, hm]; rfl
  have h2 := Nat.ge_two_pow_of_testBit h1
  have h3 := Nat.two_pow_pos f
  have h4 := @Nat.and_le_left t m
  unfold off
  omega
theorem natI_get {l : List Nat} {k : Nat} (h : k < l.length) : (natI l)[k]? = some (D.int ((l.getD k 0 : Nat) : Int)) := by
  rw [natI, List.getElem?_map, List.getD_eq_getElem?_getD, List.getElem?_eq_getElem h]; rfl
theorem foldl_min6 : ∀ (l : List Nat) (x : Nat), l.foldl min x ∈ x :: l ∧ ∀ a ∈ x :: l, l.foldl min x ≤ a
  | [], x => ⟨.head _, fun a h => by rw [List.mem_singleton.mp h]; exact Nat.le_refl _⟩
  | y :: l, x => by
    obtain ⟨h1, h2⟩ := foldl_min6 l (min x y)
    rw [List.foldl_cons]
    refine ⟨?_, fun a ha => ?_⟩
    · rcases List.mem_cons.mp h1 with e | h
      · rw [e]
        by_cases hxy : x ≤ y
        · rw [Nat.min_eq_left hxy]; exact .head _
        · rw [Nat.min_eq_right (by omega)]; exact .tail _ (.head _)
      · exact .tail _ (.tail _ h)
    · rcases List.mem_cons.mp ha with rfl | ha
      · exact Nat.le_trans (h2 _ (.head _)) (Nat.min_le_left _ _)
      · rcases List.mem_cons.mp ha with rfl | ha
        · exact Nat.le_trans (h2 _ (.head _)) (Nat.min_le_right _ _)
        · exact h2 a (.tail _ ha)
theorem EJ.min {e : Expr} {np pos : Pos} {ns : List Nat} {m : Nat} (B : Bs hb mg mb) (ok : EnvOk env) (he : EJ prog w hb n env ρ e (.list (natI ns))) (hm : m ∈ ns) (hl : ∀ a ∈ ns, m ≤ a) (hk : env.kindOf "min" = some .globalImplicit := by rfl)
    (hs : ∀ env, starEach [e] env = (false, eval e env) :: starEach [] env := by intro _; rfl) : EJ prog w hb n env ρ (.Call (.Name "min" np) [e] [] pos) (.int (m : Int)) := by
  refine EJ.callBi B.W ok hk (B.bi (v := .builtin "min") rfl) (AJ.cons he AJ.nil (he := hs)) (CallOK.mono ?_ (Nat.zero_le _)) hs
  rw [natI_map]
  refine call_min (List.mem_map.mpr ⟨m, hm, rfl⟩) fun a ha => ?_
  obtain ⟨x, hx, rfl⟩ := List.mem_map.mp ha
  exact Int.ofNat_le.mpr (hl x hx)
set_option maxHeartbeats 4000000 in
theorem dp_turn (B : Bs hb mg mb) (q : Str) (c : Value) (L : Addr) (M N lf lm : List Nat) (f r : Nat) (hf : f < 6) (hr : r < 2 ^ f) (hlf : lf.length = 2 ^ f + r) (hlm : lm.length = 2 ^ f + r) (hM : M.length ≤ 36) (hN : N.length = 6) (hNf : (N.getD f 0).testBit f = true) (ρ : Rho)
    (hmh : (("hits" : Str), D.list (natI (hitsN M f))) ∈ ρ) (hm1 : (("first" : Str), D.int (f : Int)) ∈ ρ) (hmn : (("near" : Str), D.list (natI N)) ∈ ρ)
    (hz : (ρ.all fun p => p.1 != ("chosen" : Str)) = true) :
    XJ prog w hb 5 (envS (pst 17) q c L 162) (("rest", .int (r : Int)) :: ρ) [("most", true, natI lm), ("fewest", true, natI lf)] (loopOf (((loopAt 17 13)[1]?).getD default))
      (.next ρ [("most", true, natI (lm ++ [moN N f r lm (2 ^ f + r)])), ("fewest", true, natI (lf ++ [feN M f lf (2 ^ f + r)]))]) := by
  have hp : 2 ^ f ≤ 32 := by
    have : ∀ f, f < 6 → 2 ^ f ≤ 32 := by decide
    exact this f hf
  have hbt := bit_top hr
  refine XJ.weaken (ρ₁ := ("chosen", .int ((2 ^ f + r : Nat) : Int)) :: ("rest", .int (r : Int)) :: ρ) (Ω₁ := [("most", true, natI (lm ++ [moN N f r lm (2 ^ f + r)])), ("fewest", true, natI (lf ++ [feN M f lf (2 ^ f + r)]))]) ?_ (fun p hp => .tail _ (.tail _ hp)) (fun q hq => hq)
  refine XJ.cons (ρ' := ("chosen", .int ((2 ^ f + r : Nat) : Int)) :: ("rest", .int (r : Int)) :: ρ) (Ω' := [("most", true, natI lm), ("fewest", true, natI lf)]) ?_ ?_
  · refine SJ.set okEnvS (VJ.of (EJ.cast (d := .int ((2 : Int) ^ (f : Int).toNat + (r : Int))) ?_ (EJ.bin (a := .int ((2 : Int) ^ (f : Int).toNat)) (b := .int (r : Int)) (EJ.bin (a := .int 2) (b := .int (f : Int)) EJ.cint (EJ.name okEnvS (.tail _ hm1)) (bin_pow_int (by omega) ?_)) (EJ.name okEnvS (.head _)) bin_add_int))) (.inr ⟨rfl, _, rfl⟩) (nm (by decide +kernel) hz) (nmO (by decide +kernel) (nmO (by decide +kernel) rfl))
    · rw [Int.toNat_natCast]; simp
    · rw [show (Builtin.Int.intBits 2 : Int) = 2 from rfl]; omega
  generalize ht : 2 ^ f + r = t at hlf hlm hbt ⊢
  refine XJ.cons (ρ' := ("chosen", .int (t : Int)) :: ("rest", .int (r : Int)) :: ρ) (Ω' := [("fewest", true, natI (lf ++ [feN M f lf t])), ("most", true, natI lm)]) ?_ (XJ.cons (ρ' := ("chosen", .int (t : Int)) :: ("rest", .int (r : Int)) :: ρ) (Ω' := [("most", true, natI (lm ++ [moN N f r lm t])), ("fewest", true, natI (lf ++ [feN M f lf t]))]) ?_ XJ.nil)
  · rw [show natI (lf ++ [feN M f lf t]) = natI lf ++ [D.int ((feN M f lf t : Nat) : Int)] from by rw [natI, List.map_append]; rfl]
    refine SJ.append (Ω' := [("most", true, natI lm)]) okEnvS (.tail _ (.head _)) (fun q hq => ?_) (VJ.lend ?_ rfl) (by rw [natI, List.length_map, sizeLine_eq]; omega) (hi := rfl)
    · rw [List.mem_singleton.mp hq]; exact ⟨.head _, by show Str.ofString "most" ≠ Str.ofString "fewest"; decide +kernel⟩
    have hmf : (("fewest" : Str), D.list (natI lf)) ∈ ((("chosen", .int (t : Int)) :: ("rest", .int (r : Int)) :: ρ : Rho)) ++ owned [("most", true, natI lm), ("fewest", true, natI lf)] := List.mem_append_right _ (.tail _ (.head _))
    have hmc : (("chosen" : Str), D.int (t : Int)) ∈ ((("chosen", .int (t : Int)) :: ("rest", .int (r : Int)) :: ρ : Rho)) ++ owned [("most", true, natI lm), ("fewest", true, natI lf)] := .head _
    have hmh' : (("hits" : Str), D.list (natI (hitsN M f))) ∈ ((("chosen", .int (t : Int)) :: ("rest", .int (r : Int)) :: ρ : Rho)) ++ owned [("most", true, natI lm), ("fewest", true, natI lf)] := List.mem_append_left _ (.tail _ (.tail _ hmh))
    generalize ((("chosen", .int (t : Int)) :: ("rest", .int (r : Int)) :: ρ : Rho)) ++ owned [("most", true, natI lm), ("fewest", true, natI lf)] = ρx at hmf hmc hmh' ⊢
    have hmin := foldl_min6 ((hitsN M f).map fun m => lf.getD (off t m) 0) 6
    have hadd := bin_add_int (prog := prog) (w := w) (a := 1) (b := ((((hitsN M f).map fun m => lf.getD (off t m) 0).foldl min 6 : Nat) : Int))
    refine EJ.cast (d := .int (1 + ((((hitsN M f).map fun m => lf.getD (off t m) 0).foldl min 6 : Nat) : Int))) (by rw [feN, Int.natCast_add]; rfl) (EJ.bin EJ.cint (EJ.min B okEnvS ?_ hmin.1 hmin.2) hadd)
    have hh : (hitsN M f).length ≤ 36 := Nat.le_trans (List.length_filter_le _ _) hM
    refine EJ.cast (d := .list ([D.int 6] ++ (hitsN M f).map fun m => D.int ((lf.getD (off t m) 0 : Nat) : Int))) (by rw [natI, List.map_cons, List.map_map]; rfl) (EJ.bin (a := .list [D.int 6]) (EJ.list (AJ.cons EJ.cint AJ.nil) (Nat.le_of_ble_eq_true rfl)) (NJ.ej ?_) (bin_add_list (by rw [List.length_map, sizeLine_eq]; show 1 + _ ≤ _; omega)))
    have fr : ∀ {scope : Scope} {cl : List (Str × Addr)}, FreeOK (envS (pst 17) q c L 162) scope cl "chosen" → FreeOK (envS (pst 17) q c L 162) scope cl "fewest" → Frees (envS (pst 17) q c L 162) scope cl ρx [("chosen", D.int (t : Int)), ("fewest", D.list (natI lf))] := fun h h' => .cons hmc h (.cons hmf h' .nil)
    refine NJ.mapL (cl := [("fewest", L + 1 + 1 + 1 + 1 + 1 + 1), ("chosen", L + 1 + 1 + 1 + 1 + 1 + 1 + 1 + 1)]) (hitsN M f) (fun m => D.int (m : Int)) (fun m => D.int ((lf.getD (off t m) 0 : Nat) : Int)) okEnvS (fr ⟨.inl rfl, fun N => rfl, .inl rfl⟩ ⟨.inl rfl, fun N => rfl, .inl rfl⟩) (by omega) (SrcJ.list (EJ.name okEnvS hmh')) ?_
    intro C cs hcs m hm
    subst hcs
    have hmb : m.testBit f = true := (List.mem_filter.mp hm).2
    have hlt := off_lt hbt hmb
    refine EJ.sub (a := .list (natI lf)) (b := .int ((off t m : Nat) : Int)) (EJ.name (okC okEnvS) (.tail _ (.tail _ (.head _)))) (EJ.cast (d := .int (Builtin.bitAnd (t : Int) (Builtin.bitNot (m : Int)))) (by rw [idx_cast]) (EJ.bin (a := .int (t : Int)) (b := .int (Builtin.bitNot (m : Int))) (EJ.name (okC okEnvS) (.tail _ (.head _))) (EJ.un (a := .int (m : Int)) (EJ.name (okC okEnvS) (.head _)) un_inv) bin_and_int)) (get_list (by omega) (by omega) ?_)
    rw [Int.toNat_natCast]
    exact natI_get (by omega)
  · rw [show natI (lm ++ [moN N f r lm t]) = natI lm ++ [D.int ((moN N f r lm t : Nat) : Int)] from by rw [natI, List.map_append]; rfl]
    refine SJ.append (Ω' := [("fewest", true, natI (lf ++ [feN M f lf t]))]) okEnvS (.tail _ (.head _)) (fun q hq => ?_) (VJ.lend ?_ rfl) (by rw [natI, List.length_map, sizeLine_eq]; omega) (hi := rfl)
    · rw [List.mem_singleton.mp hq]; exact ⟨.head _, by show Str.ofString "fewest" ≠ Str.ofString "most"; decide +kernel⟩
    generalize natI (lf ++ [feN M f lf t]) = xf
    have hmm : (("most" : Str), D.list (natI lm)) ∈ ((("chosen", .int (t : Int)) :: ("rest", .int (r : Int)) :: ρ : Rho)) ++ owned [("fewest", true, xf), ("most", true, natI lm)] := List.mem_append_right _ (.tail _ (.head _))
    have hmc : (("chosen" : Str), D.int (t : Int)) ∈ ((("chosen", .int (t : Int)) :: ("rest", .int (r : Int)) :: ρ : Rho)) ++ owned [("fewest", true, xf), ("most", true, natI lm)] := .head _
    have hmr : (("rest" : Str), D.int (r : Int)) ∈ ((("chosen", .int (t : Int)) :: ("rest", .int (r : Int)) :: ρ : Rho)) ++ owned [("fewest", true, xf), ("most", true, natI lm)] := .tail _ (.head _)
    have hmn' : (("near" : Str), D.list (natI N)) ∈ ((("chosen", .int (t : Int)) :: ("rest", .int (r : Int)) :: ρ : Rho)) ++ owned [("fewest", true, xf), ("most", true, natI lm)] := List.mem_append_left _ (.tail _ (.tail _ hmn))
    have hm1' : (("first" : Str), D.int (f : Int)) ∈ ((("chosen", .int (t : Int)) :: ("rest", .int (r : Int)) :: ρ : Rho)) ++ owned [("fewest", true, xf), ("most", true, natI lm)] := List.mem_append_left _ (.tail _ (.tail _ hm1))
    generalize ((("chosen", .int (t : Int)) :: ("rest", .int (r : Int)) :: ρ : Rho)) ++ owned [("fewest", true, xf), ("most", true, natI lm)] = ρx at hmm hmc hmr hmn' hm1' ⊢
    have hlt := off_lt hbt hNf
    refine EJ.cast (d := .int (max ((lm.getD r 0 : Nat) : Int) (1 + ((lm.getD (off t (N.getD f 0)) 0 : Nat) : Int)))) (by rw [moN]; congr 1; omega) ?_
    refine EJ.callBi B.W okEnvS rfl (B.bi (v := .builtin "max") rfl) (AJ.cons (d := .int ((lm.getD r 0 : Nat) : Int)) ?_ (AJ.cons (d := .int (1 + ((lm.getD (off t (N.getD f 0)) 0 : Nat) : Int))) ?_ AJ.nil)) (call_max2.mono (Nat.zero_le _))
    · refine EJ.sub (a := .list (natI lm)) (b := .int (r : Int)) (EJ.name okEnvS hmm) (EJ.name okEnvS hmr) (get_list (by omega) (by omega) ?_)
      rw [Int.toNat_natCast]
      exact natI_get (by omega)
    · refine EJ.bin (a := .int 1) (b := .int ((lm.getD (off t (N.getD f 0)) 0 : Nat) : Int)) EJ.cint ?_ bin_add_int
      refine EJ.sub (a := .list (natI lm)) (b := .int ((off t (N.getD f 0) : Nat) : Int)) (EJ.name okEnvS hmm) (EJ.cast (d := .int (Builtin.bitAnd (t : Int) (Builtin.bitNot ((N.getD f 0 : Nat) : Int)))) (by rw [idx_cast]) (EJ.bin (a := .int (t : Int)) (b := .int (Builtin.bitNot ((N.getD f 0 : Nat) : Int))) (EJ.name okEnvS hmc) (EJ.un (a := .int ((N.getD f 0 : Nat) : Int)) (EJ.sub (a := .list (natI N)) (b := .int (f : Int)) (EJ.name okEnvS hmn') (EJ.name okEnvS hm1') (get_list (by omega) (by omega) ?_)) un_inv) bin_and_int)) (get_list (by omega) (by omega) ?_)
      · rw [Int.toNat_natCast]
        exact natI_get (by omega)
      · rw [Int.toNat_natCast]
        exact natI_get (by omega)
end
end Mine
end
section
open PySem PySem.W PySem.Calls PyProof.Rows
set_option maxRecDepth 100000
namespace Mine
local macro_rules | `(tactic| kqd_in) => `(tactic| first | (with_reducible exact List.mem_cons_self) | (refine List.mem_cons_of_mem _ ?_; kqd_in))
local macro_rules | `(tactic| kqd_all) => `(tactic| first
  | (with_reducible exact EJ.cint) | (with_reducible exact EJ.cstr) | (with_reducible exact EJ.cbool) | (with_reducible exact EJ.cnone)
  | ((with_reducible refine EJ.name ?_ ?_ ?_ ?_); exact okEnvS; kqd_in; decide; decide)
  | (with_reducible exact AJ.nil)
  | ((with_reducible refine AJ.cons ?_ ?_ ?_); kqd_all; kqd_all; (intro _; rfl))
  | ((with_reducible refine EJ.un ?_ ?_); kqd_all; exact un_neg)
  | ((with_reducible refine EJ.tup ?_ ?_); kqd_all; exact Nat.le_of_ble_eq_true rfl)
  | ((with_reducible refine EJ.list ?_ ?_); kqd_all; exact Nat.le_of_ble_eq_true rfl)
  | ((refine EJ.list ?_ ?_); kqd_all; exact Nat.le_of_ble_eq_true rfl)
  | ((refine AJ.cons ?_ ?_ ?_); kqd_all; kqd_all; (intro _; rfl))
  | ((refine EJ.tup ?_ ?_); kqd_all; exact Nat.le_of_ble_eq_true rfl)
  | exact AJ.nil | exact EJ.cstr | exact EJ.cint | exact EJ.cbool)
section
variable {prog : Program} {w : World} {hb : Heap} {mg mb : Str → Option Value} {n : Nat} {env : Env} {ρ : Rho} {Ω : Owns} {K : Frag} {fI fS : Addr}
theorem two_small {f : Nat} (hf : f < 6) : 2 ^ f ≤ 32 := by
  have : ∀ f, f < 6 → 2 ^ f ≤ 32 := by decide
  exact this f hf
theorem moT_step (N : List Nat) {f r : Nat} (h : r < 2 ^ f) : moT N (2 ^ f + (r + 1) - 1) = moT N (2 ^ f + r - 1) ++ [moN N f r (moT N (2 ^ f + r - 1)) (2 ^ f + r)] := by
  have hl := log2_at h
  have hp := Nat.two_pow_pos f
  have e1 : 2 ^ f + (r + 1) - 1 = (2 ^ f + r - 1) + 1 := by omega
  have e2 : (2 ^ f + r - 1) + 1 = 2 ^ f + r := by omega
  rw [e1, moT, e2, hl, Nat.add_sub_cancel_left]
theorem feT_step (M : List Nat) {f r : Nat} (h : r < 2 ^ f) : feT M (2 ^ f + (r + 1) - 1) = feT M (2 ^ f + r - 1) ++ [feN M f (feT M (2 ^ f + r - 1)) (2 ^ f + r)] := by
  have hl := log2_at h
  have hp := Nat.two_pow_pos f
  have e1 : 2 ^ f + (r + 1) - 1 = (2 ^ f + r - 1) + 1 := by omega
  have e2 : (2 ^ f + r - 1) + 1 = 2 ^ f + r := by omega
  rw [e1, feT, e2, hl]
theorem lt_of_some {α : Type} {l : List α} {i : Nat} {a : α} (h : l[i]? = some a) : i < l.length := (List.getElem?_eq_some_iff.mp h).1
theorem intD_at {k i : Nat} {d : D} (h : (intD k)[i]? = some d) : i < k ∧ d = .int (i : Int) := by
  have hi : i < k := by have := lt_of_some h; simpa [intD] using this
  exact ⟨hi, by simpa [intD, hi] using h.symm⟩
set_option maxHeartbeats 1000000 in
theorem dp_inner (B : Bs hb mg mb) (q : Str) (c : Value) (L : Addr) (M N : List Nat) (f : Nat) (hf : f < 6) (hM : M.length ≤ 36) (hN : N.length = 6) (hNf : (N.getD f 0).testBit f = true) (ρ : Rho)
    (hmh : (("hits" : Str), D.list (natI (hitsN M f))) ∈ ρ) (hm1 : (("first" : Str), D.int (f : Int)) ∈ ρ) (hmn : (("near" : Str), D.list (natI N)) ∈ ρ)
    (hz1 : (ρ.all fun p => p.1 != ("chosen" : Str)) = true) (hz2 : (ρ.all fun p => p.1 != ("rest" : Str)) = true) :
    SJ prog w hb 5 (envS (pst 17) q c L 162) ρ [("most", true, natI (moT N (2 ^ f - 1))), ("fewest", true, natI (feT M (2 ^ f - 1)))] (((loopAt 17 13)[1]?).getD default)
      (.next ρ [("most", true, natI (moT N (2 ^ (f + 1) - 1))), ("fewest", true, natI (feT M (2 ^ (f + 1) - 1)))]) := by
  have hp := two_small hf
  have hpos := Nat.two_pow_pos f
  show SJ prog w hb 5 _ _ _ (Stmt.For _ _ _ _ _) _
  with_reducible refine SJ.forL (ds := intD (2 ^ f)) (2 ^ f) (fun _ => ρ) (fun r => [("most", true, natI (moT N (2 ^ f + r - 1))), ("fewest", true, natI (feT M (2 ^ f + r - 1)))]) (fun r => ("rest", .int (r : Int)) :: ρ) (fun r => [("most", true, natI (moT N (2 ^ f + r - 1))), ("fewest", true, natI (feT M (2 ^ f + r - 1)))]) ?_ ?_ ?_ ?_ ?_ ?_ ?_ ?_ ?_
  · refine SrcJ.range (k := 2 ^ f) B.W okEnvS rfl (B.bi rfl) (EJ.cast (d := .int ((2 : Int) ^ (f : Int).toNat)) ?_ (EJ.bin (a := .int 2) (b := .int (f : Int)) EJ.cint (EJ.name okEnvS hm1) (bin_pow_int (by omega) ?_))) (by omega)
    · rw [Int.toNat_natCast]; simp
    · rw [show (Builtin.Int.intBits 2 : Int) = 2 from rfl]; omega
  · rw [intD, List.length_map, List.length_range]
  · rfl
  · rfl
  · intro r d hd
    obtain ⟨hr, e⟩ := intD_at hd
    rw [e]; exact AsJ.set okEnvS (.inl rfl) hz2 (nmO (by decide +kernel) (nmO (by decide +kernel) rfl))
  · intro r d hd
    obtain ⟨hr, e⟩ := intD_at hd
    show XJ _ _ _ _ _ _ _ _ (.next ρ [("most", true, natI (moT N (2 ^ f + (r + 1) - 1))), ("fewest", true, natI (feT M (2 ^ f + (r + 1) - 1)))])
    rw [moT_step N hr, feT_step M hr]
    have l1 := feT_len M (2 ^ f + r - 1)
    have l2 := moT_len N (2 ^ f + r - 1)
    generalize feT M (2 ^ f + r - 1) = lf at l1 ⊢
    generalize moT N (2 ^ f + r - 1) = lm at l2 ⊢
    exact dp_turn B q c L M N lf lm f r hf hr (by omega) (by omega) hM hN hNf ρ hmh hm1 hmn hz1
  · rfl
  · show [(_, _, _), (_, _, _)] = _
    rw [show 2 ^ f + 2 ^ f - 1 = 2 ^ (f + 1) - 1 from by rw [Nat.pow_succ]; omega]
  · intro _ _; rfl
theorem hit_cast (m f : Nat) : (Builtin.bitAnd ((m : Int).fdiv (2 ^ (f : Int).toNat)) 1 == 1) = m.testBit f := by
  have e : (m : Int).fdiv (2 ^ (f : Int).toNat) = ((m / 2 ^ f : Nat) : Int) := by
    rw [Int.toNat_natCast, Int.fdiv_eq_ediv_of_nonneg _ (by have := Nat.two_pow_pos f; exact Int.le_of_lt (by exact_mod_cast this))]
    simp
  rw [e, bitAnd_pp (Int.natCast_nonneg _) (by decide), Int.toNat_natCast, Nat.testBit_eq_decide_div_mod_eq]
  show (((m / 2 ^ f &&& 1 : Nat) : Int) == 1) = _
  generalize m / 2 ^ f = k
  rw [Nat.and_one_is_mod, Bool.eq_iff_iff, beq_iff_eq, decide_eq_true_iff]
  omega
set_option maxHeartbeats 1000000 in
theorem dp_loop (B : Bs hb mg mb) (q : Str) (c : Value) (L : Addr) (M N : List Nat) (hM : M.length ≤ 36) (hN : N.length = 6) (hNf : ∀ f, f < 6 → (N.getD f 0).testBit f = true) (ρ : Rho)
    (hmm : (("masks" : Str), D.list (natI M)) ∈ ρ) (hmn : (("near" : Str), D.list (natI N)) ∈ ρ)
    (hz : ∀ x ∈ ([Str.ofString "first", Str.ofString "hits", Str.ofString "rest", Str.ofString "chosen"] : List Str), (ρ.all fun p => p.1 != x) = true) :
    SJ prog w hb 5 (envS (pst 17) q c L 162) ρ [("most", true, natI [0]), ("fewest", true, natI [0])] (((bodyOf (pst 17))[13]?).getD default)
      (.next ρ [("most", true, natI (moT N 63)), ("fewest", true, natI (feT M 63))]) := by
  have z1 := hz _ (.head _)
  have z2 := hz _ (.tail _ (.head _))
  have z3 := hz _ (.tail _ (.tail _ (.head _)))
  have z4 := hz _ (.tail _ (.tail _ (.tail _ (.head _))))
  show SJ prog w hb 5 _ _ _ (Stmt.For _ _ _ _ _) _
  with_reducible refine SJ.forL (ds := intD 6) 6 (fun _ => ρ) (fun f => [("most", true, natI (moT N (2 ^ f - 1))), ("fewest", true, natI (feT M (2 ^ f - 1)))]) (fun f => ("first", .int (f : Int)) :: ρ) (fun f => [("most", true, natI (moT N (2 ^ f - 1))), ("fewest", true, natI (feT M (2 ^ f - 1)))]) ?_ ?_ ?_ ?_ ?_ ?_ ?_ ?_ ?_
  · exact SrcJ.range (k := 6) B.W okEnvS rfl (B.bi rfl) EJ.cint (by decide)
  · rfl
  · rfl
  · rfl
  · intro f d hd
    obtain ⟨hf, e⟩ := intD_at hd
    rw [e]; exact AsJ.set okEnvS (.inr ⟨rfl, _, rfl⟩) z1 (nmO (by decide +kernel) (nmO (by decide +kernel) rfl))
  · intro f d hd
    obtain ⟨hf, e⟩ := intD_at hd
    refine XJ.weaken (ρ₁ := ("hits", .list (natI (hitsN M f))) :: ("first", .int (f : Int)) :: ρ) (Ω₁ := [("most", true, natI (moT N (2 ^ (f + 1) - 1))), ("fewest", true, natI (feT M (2 ^ (f + 1) - 1)))]) ?_ (fun p hp => .tail _ (.tail _ hp)) (fun q hq => hq)
    have fr : ∀ {scope : Scope} {cl : List (Str × Addr)}, FreeOK (envS (pst 17) q c L 162) scope cl "first" → Frees (envS (pst 17) q c L 162) scope cl (("first", .int (f : Int)) :: ρ) [("first", D.int (f : Int))] := fun h => .cons (.head _) h .nil
    refine XJ.cons (ρ' := ("first", .int (f : Int)) :: ρ) (Ω' := [("hits", true, natI (hitsN M f)), ("most", true, natI (moT N (2 ^ f - 1))), ("fewest", true, natI (feT M (2 ^ f - 1)))]) ?_ (XJ.rest (XJ.cons (dp_inner B q c L M N f hf hM hN (hNf f hf) _ (.head _) (.tail _ (.head _)) (.tail _ (.tail _ hmn)) (nm (by decide +kernel) (nm (by decide +kernel) z4)) (nm (by decide +kernel) (nm (by decide +kernel) z3))) XJ.nil) (nmO (by decide +kernel) (nmO (by decide +kernel) rfl)))
    show SJ prog w hb 5 _ _ _ (Stmt.Assign _ _ _) _
    refine SJ.setComp (cl := [("first", L + 1 + 1 + 1 + 1 + 1 + 1 + 1)]) M (fun (m : Nat) => D.int (m : Int)) (fun m => m.testBit f) (fun (m : Nat) => D.int (m : Int)) okEnvS (fr ⟨.inl rfl, fun N => rfl, .inl rfl⟩) (by omega) (SrcJ.list (EJ.name okEnvS (.tail _ hmm))) ?_ ?_ (nm (by decide +kernel) z2) (nmO (by decide +kernel) (nmO (by decide +kernel) rfl))
    · intro C cs hcs m hm
      subst hcs
      refine TJ.one (BJ.cast (hit_cast m f) (BJ.cmp (a := .int (Builtin.bitAnd ((m : Int).fdiv (2 ^ (f : Int).toNat)) 1)) (b := .int 1) (EJ.bin (a := .int ((m : Int).fdiv (2 ^ (f : Int).toNat))) (b := .int 1) (EJ.bin (a := .int (m : Int)) (b := .int (f : Int)) (EJ.name (okC okEnvS) (.head _)) (EJ.name (okC okEnvS) (.tail _ (.head _))) (bin_shr_int (by omega))) EJ.cint bin_and_int) EJ.cint cmp_eq_int))
    · intro C cs hcs m hm _
      exact EJ.name (okC okEnvS) (.head _)
  · rfl
  · rfl
  · intro _ _; rfl
def maskU (bs : List Bool) : Nat := ((maskL bs).map fun i => 2 ^ i).sum
theorem sum_cast : ∀ (l : List Nat), ((l.map fun i => (2 : Int) ^ i).sum) = (((l.map fun i => 2 ^ i).sum : Nat) : Int)
  | [] => rfl
  | i :: l => by rw [List.map_cons, List.map_cons, List.sum_cons, List.sum_cons, sum_cast l]; simp
theorem maskN_U (bs : List Bool) : maskN bs = ((maskU bs : Nat) : Int) := sum_cast _
theorem okEs_nat (k : Nat) : ∀ (l : List Nat), okEs k (natI l) = true
  | [] => by rw [natI, List.map_nil, okEs]
  | i :: l => by
    have := okEs_nat k l
    simp only [natI, List.map_cons, okEs, okE, Bool.true_and] at this ⊢
    exact this
/-- the table's rows are alike -/
def Plain (ls : List RL) : Prop :=
  feT (ddup (pairsN (ls.map fun l => maskU (ls.map fun o => holdsL o.zn l.zn)) (ls.map fun l => maskU (ls.map fun p => upathL p l)))) 63 = moT (ls.map fun l => maskU (ls.map (meetL l))) 63
end
end Mine
end
section
open PySem PySem.W PySem.Calls PyProof.Rows
set_option maxRecDepth 100000
namespace Mine
def asksU (ls : List RL) : List Nat := ls.map fun l => maskU (ls.map fun o => holdsL o.zn l.zn)
def belsU (ls : List RL) : List Nat := ls.map fun l => maskU (ls.map fun p => upathL p l)
def nearsU (ls : List RL) : List Nat := ls.map fun l => maskU (ls.map (meetL l))
end Mine
end
section
open PySem PySem.W PySem.Calls PyProof.Rows
set_option maxRecDepth 100000
namespace Mine
local macro_rules | `(tactic| kqd_in) => `(tactic| first | (with_reducible exact List.mem_cons_self) | (refine List.mem_cons_of_mem _ ?_; kqd_in))
local macro_rules | `(tactic| kqd_all) => `(tactic| first
  | (with_reducible exact EJ.cint) | (with_reducible exact EJ.cstr) | (with_reducible exact EJ.cbool) | (with_reducible exact EJ.cnone)
  | ((with_reducible refine EJ.name ?_ ?_ ?_ ?_); exact okEnvS; kqd_in; decide; decide)
  | (with_reducible exact AJ.nil)
  | ((with_reducible refine AJ.cons ?_ ?_ ?_); kqd_all; kqd_all; (intro _; rfl))
  | ((with_reducible refine EJ.un ?_ ?_); kqd_all; exact un_neg)
  | ((with_reducible refine EJ.tup ?_ ?_); kqd_all; exact Nat.le_of_ble_eq_true rfl)
  | ((with_reducible refine EJ.list ?_ ?_); kqd_all; exact Nat.le_of_ble_eq_true rfl)
  | ((refine EJ.list ?_ ?_); kqd_all; exact Nat.le_of_ble_eq_true rfl)
  | ((refine AJ.cons ?_ ?_ ?_); kqd_all; kqd_all; (intro _; rfl))
  | ((refine EJ.tup ?_ ?_); kqd_all; exact Nat.le_of_ble_eq_true rfl)
  | exact AJ.nil | exact EJ.cstr | exact EJ.cint | exact EJ.cbool)
section
variable {prog : Program} {w : World} {hb : Heap} {mg mb : Str → Option Value} {n : Nat} {env : Env} {ρ : Rho} {Ω : Owns} {K : Frag} {fI fS : Addr}
theorem names_free {ρ : Rho} {xs : List Str} (ys : List Str) (e : ρ.map (·.1) = ys) (h : xs.all (fun x => ys.all fun y => y != x) = true) : ∀ x ∈ xs, (ρ.all fun p => p.1 != x) = true := by
  intro x hx
  have h1 := List.all_eq_true.mp h x hx
  rw [← e, List.all_map] at h1
  exact h1
theorem names_free1 {ρ : Rho} {x : Str} (ys : List Str) (e : ρ.map (·.1) = ys) (h : ys.all (fun y => y != x) = true) : (ρ.all fun p => p.1 != x) = true := by
  rw [← e, List.all_map] at h
  exact h
theorem asks_nat (ls : List RL) : (ls.map fun l => D.int (askI ls l)) = natI (asksU ls) := by
  rw [asksU, natI, List.map_map]; refine List.map_congr_left fun l _ => ?_; show D.int (askI ls l) = D.int _; rw [askI, maskN_U]
theorem bels_nat (ls : List RL) : (ls.map fun l => D.int (belI ls l)) = natI (belsU ls) := by
  rw [belsU, natI, List.map_map]; refine List.map_congr_left fun l _ => ?_; show D.int (belI ls l) = D.int _; rw [belI, maskN_U]
theorem nears_nat (ls : List RL) : (ls.map fun l => D.int (nearI ls l)) = natI (nearsU ls) := by
  rw [nearsU, natI, List.map_map]; refine List.map_congr_left fun l _ => ?_; show D.int (nearI ls l) = D.int _; rw [nearI, maskN_U]
theorem ddup_le (P : List Nat) : (ddup P).length ≤ P.length := by
  have := ddup_len P P.length
  rwa [List.take_length] at this
theorem pairs_len {A Bl : List Nat} (hA : A.length = 6) (hB : Bl.length = 6) : (pairsN A Bl).length = 36 := by
  rw [pairsN, List.length_flatMap]
  match A, hA with
  | [a, b, c, d, e, f], _ => simp [hB]
theorem XJ.at {body : List Stmt} {o : Out} {ρ' : Rho} {Ω' : Owns} (i : Nat) (hlt : i < body.length) (h : SJ prog w hb n env ρ Ω ((body[i]?).getD default) (.next ρ' Ω')) (hr : XJ prog w hb n env ρ' Ω' (body.drop (i + 1)) o) : XJ prog w hb n env ρ Ω (body.drop i) o := by
  rw [List.drop_eq_getElem_cons hlt]
  have e : (body[i]?).getD default = body[i] := by simp [hlt]
  rw [e] at h
  exact XJ.cons h hr
theorem body17 : (bodyOf (pst 17)).length = 15 := by rfl
theorem lt17 {i : Nat} (h : i < 15) : i < (bodyOf (pst 17)).length := by rw [body17]; exact h
set_option maxHeartbeats 4000000 in
theorem law_body (B : Bs hb mg mb) (I : IpAt hb) (k : Kc K hb fI fS) (q : Str) (c : Value) (L : Addr) (ns : List Int) (hn : ns.length ≤ 63) (ls : List RL) (hl6 : ls.length = 6) (hok : ∀ l ∈ ls, l.Ok) (hr : rulesN ns = ls.map RL.toR)
    (hNf : ∀ f, f < 6 → ((nearsU ls).getD f 0).testBit f = true) (hpl : feT (ddup (pairsN (asksU ls) (belsU ls))) 63 = moT (nearsU ls) 63) :
    XJ prog w hb 5 (envS (pst 17) q c L 162) [("script", .list (ns.map D.int))] [] (bodyOf (pst 17)) (.ret (.bool true)) := by
  show XJ prog w hb 5 _ _ _ ((bodyOf (pst 17)).drop 0) _
  refine XJ.at 0 (lt17 (by decide)) (ρ' := [("rules", .list (ls.map ruleE)), ("script", .list (ns.map D.int))]) (Ω' := []) ?_ ?_
  · show SJ prog w hb 5 _ _ _ (Stmt.Assign _ _ _) _
    refine SJ.set okEnvS (VJ.of ?_) (.inr ⟨rfl, _, rfl⟩) (names_free1 ["script"] rfl (by decide +kernel)) rfl
    refine EJ.cast (d := .list ((rulesN ns).map ruleD)) (by rw [hr, List.map_map]; rfl) ?_
    exact EJ.callF B.W okEnvS rfl B.g5 B.f5 (AJ.cons (EJ.name okEnvS (.head _)) AJ.nil) ((rules_call B ns hn).mono (by decide))
  refine XJ.at 1 (lt17 (by decide)) (ρ' := [("manager", .mgr), ("rules", .list (ls.map ruleE)), ("script", .list (ns.map D.int))]) (Ω' := []) ?_ ?_
  · show SJ prog w hb 5 _ _ _ (Stmt.Assign _ _ _) _
    refine SJ.set okEnvS (VJ.of ?_) (.inr ⟨rfl, _, rfl⟩) (names_free1 ["rules", "script"] rfl (by decide +kernel)) rfl
    exact EJ.newMgr B.W k B.g11 okEnvS
  have h2 := law_zones (prog := prog) (w := w) B I q c L ls hl6 hok [("manager", .mgr), ("rules", .list (ls.map ruleE)), ("script", .list (ns.map D.int))] (.tail _ (.head _)) (names_free1 ["manager", "rules", "script"] rfl (by decide +kernel))
  refine XJ.at 2 (lt17 (by decide)) h2 ?_
  clear h2
  refine XJ.rest ?_ rfl
  have h3 := law_places (prog := prog) (w := w) B q c L ls hl6 hok [("zones", .list (ls.map zoneE)), ("manager", .mgr), ("rules", .list (ls.map ruleE)), ("script", .list (ns.map D.int))] (.tail _ (.tail _ (.head _))) (names_free1 ["zones", "manager", "rules", "script"] rfl (by decide +kernel))
  refine XJ.at 3 (lt17 (by decide)) h3 ?_
  clear h3
  refine XJ.rest ?_ rfl
  have h4 := law_near (prog := prog) (w := w) B q c L ls hl6 hok [("places", .list (ls.map placeE)), ("zones", .list (ls.map zoneE)), ("manager", .mgr), ("rules", .list (ls.map ruleE)), ("script", .list (ns.map D.int))] (.tail _ (.tail _ (.tail _ (.head _)))) (names_free1 ["places", "zones", "manager", "rules", "script"] rfl (by decide +kernel))
  rw [nears_nat] at h4
  refine XJ.at 4 (lt17 (by decide)) h4 ?_
  clear h4
  refine XJ.rest ?_ rfl
  refine XJ.at 5 (lt17 (by decide)) (ρ' := [("near", .list (natI (nearsU ls))), ("places", .list (ls.map placeE)), ("zones", .list (ls.map zoneE)), ("manager", .mgr), ("rules", .list (ls.map ruleE)), ("script", .list (ns.map D.int))]) (Ω' := [("asked", true, [])]) ?_ ?_
  · show SJ prog w hb 5 _ _ _ (Stmt.Assign _ _ _) _
    exact SJ.setNew okEnvS (NJ.list AJ.nil (Nat.zero_le _)) (.inl rfl) (names_free1 ["near", "places", "zones", "manager", "rules", "script"] rfl (by decide +kernel)) rfl
  have h6 := ask_loop (prog := prog) (w := w) B I q c L ls hl6 hok [("near", .list (natI (nearsU ls))), ("places", .list (ls.map placeE)), ("zones", .list (ls.map zoneE)), ("manager", .mgr), ("rules", .list (ls.map ruleE)), ("script", .list (ns.map D.int))] (.tail _ (.tail _ (.tail _ (.tail _ (.head _))))) (.tail _ (.tail _ (.head _))) (names_free ["near", "places", "zones", "manager", "rules", "script"] rfl (by decide +kernel))
  rw [asks_nat] at h6
  refine XJ.at 6 (lt17 (by decide)) h6 ?_
  clear h6
  refine XJ.rest ?_ rfl
  have h7 := law_below (prog := prog) (w := w) B k q c L ls hl6 hok [("asked", .list (natI (asksU ls))), ("near", .list (natI (nearsU ls))), ("places", .list (ls.map placeE)), ("zones", .list (ls.map zoneE)), ("manager", .mgr), ("rules", .list (ls.map ruleE)), ("script", .list (ns.map D.int))] (.tail _ (.tail _ (.head _))) (.tail _ (.tail _ (.tail _ (.tail _ (.head _))))) (names_free1 ["asked", "near", "places", "zones", "manager", "rules", "script"] rfl (by decide +kernel))
  rw [bels_nat] at h7
  refine XJ.at 7 (lt17 (by decide)) h7 ?_
  clear h7
  refine XJ.rest ?_ rfl
  have h8 := way_loop (prog := prog) (w := w) B k q c L ls hok [("below", .list (natI (belsU ls))), ("asked", .list (natI (asksU ls))), ("near", .list (natI (nearsU ls))), ("places", .list (ls.map placeE)), ("zones", .list (ls.map zoneE)), ("manager", .mgr), ("rules", .list (ls.map ruleE)), ("script", .list (ns.map D.int))] [] (.tail _ (.tail _ (.tail _ (.tail _ (.tail _ (.head _)))))) (.tail _ (.tail _ (.tail _ (.head _)))) (fun x hx => ⟨names_free (xs := [Str.ofString "name", Str.ofString "way", Str.ofString "base", Str.ofString "test"]) ["below", "asked", "near", "places", "zones", "manager", "rules", "script"] rfl (by decide +kernel) x hx, rfl⟩)
  refine XJ.at 8 (lt17 (by decide)) h8 ?_
  clear h8
  refine XJ.at 9 (lt17 (by decide)) (ρ' := [("below", .list (natI (belsU ls))), ("asked", .list (natI (asksU ls))), ("near", .list (natI (nearsU ls))), ("places", .list (ls.map placeE)), ("zones", .list (ls.map zoneE)), ("manager", .mgr), ("rules", .list (ls.map ruleE)), ("script", .list (ns.map D.int))]) (Ω' := [("masks", true, [])]) ?_ ?_
  · show SJ prog w hb 5 _ _ _ (Stmt.Assign _ _ _) _
    exact SJ.setNew okEnvS (NJ.list AJ.nil (Nat.zero_le _)) (.inl rfl) (names_free1 ["below", "asked", "near", "places", "zones", "manager", "rules", "script"] rfl (by decide +kernel)) rfl
  have la : (asksU ls).length = 6 := by rw [asksU, List.length_map]; exact hl6
  have lb : (belsU ls).length = 6 := by rw [belsU, List.length_map]; exact hl6
  have ln : (nearsU ls).length = 6 := by rw [nearsU, List.length_map]; exact hl6
  have h10 := mask_loop (prog := prog) (w := w) B q c L (asksU ls) (belsU ls) la lb [("below", .list (natI (belsU ls))), ("asked", .list (natI (asksU ls))), ("near", .list (natI (nearsU ls))), ("places", .list (ls.map placeE)), ("zones", .list (ls.map zoneE)), ("manager", .mgr), ("rules", .list (ls.map ruleE)), ("script", .list (ns.map D.int))] (.tail _ (.head _)) (.head _) (names_free1 ["below", "asked", "near", "places", "zones", "manager", "rules", "script"] rfl (by decide +kernel))
  refine XJ.at 10 (lt17 (by decide)) h10 ?_
  clear h10
  refine XJ.rest ?_ rfl
  have lM : (ddup (pairsN (asksU ls) (belsU ls))).length ≤ 36 := by rw [← pairs_len la lb]; exact ddup_le _
  generalize ddup (pairsN (asksU ls) (belsU ls)) = M at lM hpl ⊢
  refine XJ.at 11 (lt17 (by decide)) (ρ' := [("masks", .list (natI M)), ("below", .list (natI (belsU ls))), ("asked", .list (natI (asksU ls))), ("near", .list (natI (nearsU ls))), ("places", .list (ls.map placeE)), ("zones", .list (ls.map zoneE)), ("manager", .mgr), ("rules", .list (ls.map ruleE)), ("script", .list (ns.map D.int))]) (Ω' := [("fewest", true, natI [0])]) ?_ ?_
  · show SJ prog w hb 5 _ _ _ (Stmt.Assign _ _ _) _
    exact SJ.setNewC (NJ.list (AJ.cons EJ.cint AJ.nil) (Nat.le_of_ble_eq_true rfl)) okEnvS (names_free1 ["masks", "below", "asked", "near", "places", "zones", "manager", "rules", "script"] rfl (by decide +kernel)) rfl
  refine XJ.at 12 (lt17 (by decide)) (ρ' := [("masks", .list (natI M)), ("below", .list (natI (belsU ls))), ("asked", .list (natI (asksU ls))), ("near", .list (natI (nearsU ls))), ("places", .list (ls.map placeE)), ("zones", .list (ls.map zoneE)), ("manager", .mgr), ("rules", .list (ls.map ruleE)), ("script", .list (ns.map D.int))]) (Ω' := [("most", true, natI [0]), ("fewest", true, natI [0])]) ?_ ?_
  · show SJ prog w hb 5 _ _ _ (Stmt.Assign _ _ _) _
    exact SJ.setNew okEnvS (NJ.list (AJ.cons EJ.cint AJ.nil) (Nat.le_of_ble_eq_true rfl)) (.inl rfl) (names_free1 ["masks", "below", "asked", "near", "places", "zones", "manager", "rules", "script"] rfl (by decide +kernel)) (nmO (by decide +kernel) rfl)
  have h13 := dp_loop (prog := prog) (w := w) B q c L M (nearsU ls) lM ln hNf [("masks", .list (natI M)), ("below", .list (natI (belsU ls))), ("asked", .list (natI (asksU ls))), ("near", .list (natI (nearsU ls))), ("places", .list (ls.map placeE)), ("zones", .list (ls.map zoneE)), ("manager", .mgr), ("rules", .list (ls.map ruleE)), ("script", .list (ns.map D.int))] (.head _) (.tail _ (.tail _ (.tail _ (.head _)))) (names_free ["masks", "below", "asked", "near", "places", "zones", "manager", "rules", "script"] rfl (by decide +kernel))
  rw [hpl] at h13
  refine XJ.at 13 (lt17 (by decide)) h13 ?_
  clear h13
  show XJ prog w hb 5 _ _ _ (Stmt.Return _ _ :: _) _
  generalize moT (nearsU ls) 63 = T
  refine XJ.ret (SJ.ret (VJ.lend ?_ rfl))
  refine EJ.cmp (a := .list (natI T)) (b := .list (natI T)) (EJ.name okEnvS (List.mem_append_right _ (.tail _ (.head _)))) (EJ.name okEnvS (List.mem_append_right _ (.head _))) (cmp_eq ?_ ?_ (by simp))
  · rw [okE]; exact okEs_nat _ _
  · rw [okE]; exact okEs_nat _ _
end
end Mine
end
section
set_option maxRecDepth 100000
namespace Mine
/-- a list without doubles whose items an injective-on map takes below n is no longer than n -/
theorem pigeon {A : List Nat} (hn : A.Nodup) (c : Nat → Nat) (n : Nat) (hc : ∀ x ∈ A, c x < n) (hi : ∀ x ∈ A, ∀ y ∈ A, c x = c y → x = y) : A.length ≤ n := by
  have h1 : (A.map c).Nodup := by
    rw [List.nodup_iff_pairwise_ne] at hn ⊢
    rw [List.pairwise_map]
    refine hn.imp_of_mem ?_
    intro a b ha hb hab e
    exact hab (hi a ha b hb e)
  have h2 : A.map c ⊆ List.range n := by
    intro y hy
    obtain ⟨x, hx, rfl⟩ := List.mem_map.mp hy
    exact List.mem_range.mpr (hc x hx)
  have := h1.length_le_of_subset h2
  simpa using this
/-- as long as n: every colour is met -/
theorem pigeon_all {A : List Nat} (hn : A.Nodup) (c : Nat → Nat) (n : Nat) (hc : ∀ x ∈ A, c x < n) (hi : ∀ x ∈ A, ∀ y ∈ A, c x = c y → x = y) (hl : A.length = n) (i : Nat) (h : i < n) : ∃ x ∈ A, c x = i := by
  refine Classical.byContradiction fun hno => ?_
  have hne : ∀ x ∈ A, c x ≠ i := fun x hx e => hno ⟨x, hx, e⟩
  -- send the colours behind i one down
  have := pigeon hn (fun x => if c x < i then c x else c x - 1) (n - 1) (fun x hx => by
    have h1 := hc x hx
    have h2 := hne x hx
    show (if c x < i then c x else c x - 1) < n - 1
    split <;> omega) (fun x hx y hy e => by
    have h2 := hne x hx
    have h3 := hne y hy
    refine hi x hx y hy ?_
    have e : (if c x < i then c x else c x - 1) = (if c y < i then c y else c y - 1) := e
    split at e <;> split at e <;> omega)
  omega
structure SOrd (lt : Nat → Nat → Prop) : Prop where
  irr : ∀ a, ¬ lt a a
  tr : ∀ a b c, lt a b → lt b c → lt a c
theorem SOrd.asymm {lt : Nat → Nat → Prop} (o : SOrd lt) {a b : Nat} (h : lt a b) : ¬ lt b a := fun h' => o.irr a (o.tr _ _ _ h h')
/-- an item that none of the list is above -/
theorem maximal {lt : Nat → Nat → Prop} (o : SOrd lt) : ∀ (S : List Nat), S ≠ [] → ∃ a ∈ S, ∀ x ∈ S, ¬ lt a x
  | [], h => absurd rfl h
  | [a], _ => ⟨a, .head _, fun x hx => by rw [List.mem_singleton.mp hx]; exact o.irr a⟩
  | a :: b :: r, _ => by
    obtain ⟨m, hm, hmax⟩ := maximal o (b :: r) (by simp)
    by_cases h : lt m a
    · refine ⟨a, .head _, fun x hx => ?_⟩
      rcases List.mem_cons.mp hx with rfl | hx
      · exact o.irr _
      · exact fun h' => hmax x hx (o.tr _ _ _ h h')
    · refine ⟨m, .tail _ hm, fun x hx => ?_⟩
      rcases List.mem_cons.mp hx with rfl | hx
      · exact h
      · exact hmax x hx
def Anti (lt : Nat → Nat → Prop) (A S : List Nat) : Prop := A.Nodup ∧ (∀ x ∈ A, x ∈ S) ∧ ∀ x ∈ A, ∀ y ∈ A, ¬ lt x y
def Color (lt : Nat → Nat → Prop) (S : List Nat) (n : Nat) (c : Nat → Nat) : Prop := (∀ x ∈ S, c x < n) ∧ ∀ x ∈ S, ∀ y ∈ S, c x = c y → x = y ∨ lt x y ∨ lt y x
theorem Anti.inj {lt : Nat → Nat → Prop} {A S : List Nat} {n : Nat} {c : Nat → Nat} (a : Anti lt A S) (k : Color lt S n c) : ∀ x ∈ A, ∀ y ∈ A, c x = c y → x = y := fun x hx y hy e => by
  rcases k.2 x (a.2.1 x hx) y (a.2.1 y hy) e with h | h | h
  · exact h
  · exact absurd h (a.2.2 x hx y hy)
  · exact absurd h (a.2.2 y hy x hx)
theorem Anti.le {lt : Nat → Nat → Prop} {A S : List Nat} {n : Nat} {c : Nat → Nat} (a : Anti lt A S) (k : Color lt S n c) : A.length ≤ n := pigeon a.1 c n (fun x hx => k.1 x (a.2.1 x hx)) (a.inj k)
theorem Anti.all {lt : Nat → Nat → Prop} {A S : List Nat} {n : Nat} {c : Nat → Nat} (a : Anti lt A S) (k : Color lt S n c) (hl : A.length = n) (i : Nat) (h : i < n) : ∃ x ∈ A, c x = i := pigeon_all a.1 c n (fun x hx => k.1 x (a.2.1 x hx)) (a.inj k) hl i h
/-- Dilworth -/
theorem dilworth {lt : Nat → Nat → Prop} (o : SOrd lt) : ∀ (m : Nat) (S : List Nat), S.length ≤ m → S.Nodup → ∃ n A c, Anti lt A S ∧ A.length = n ∧ Color lt S n c := by
  intro m
  induction m with
  | zero =>
    intro S hS hn
    have : S = [] := List.eq_nil_of_length_eq_zero (by omega)
    subst this
    exact ⟨0, [], fun _ => 0, ⟨List.nodup_nil, fun x h => (nomatch h), fun x h => (nomatch h)⟩, rfl, fun x h => (nomatch h), fun x h => (nomatch h)⟩
  | succ m ih =>
    intro S hS hn
    by_cases hnil : S = []
    · subst hnil
      exact ih [] (Nat.zero_le _) hn
    obtain ⟨a, ha, hmax⟩ := maximal o S hnil
    -- without a
    have hS' : (S.erase a).length ≤ m := by rw [List.length_erase_of_mem ha]; omega
    have memE : ∀ x, x ∈ S.erase a ↔ x ≠ a ∧ x ∈ S := fun x => by rw [hn.mem_erase_iff]
    obtain ⟨n, A0, c, anti0, len0, col⟩ := ih (S.erase a) hS' (hn.erase a)
    -- the items that lie in an antichain of n
    let M : Nat → Prop := fun x => ∃ A, Anti lt A (S.erase a) ∧ A.length = n ∧ x ∈ A
    have top : ∀ i, i < n → ∃ t, M t ∧ c t = i ∧ ∀ y, M y → c y = i → y = t ∨ lt y t := by
      intro i hi
      classical
      let L := (S.erase a).filter fun x => decide (M x ∧ c x = i)
      have hL : ∀ x, x ∈ L ↔ x ∈ S.erase a ∧ M x ∧ c x = i := fun x => by rw [List.mem_filter, decide_eq_true_iff]
      obtain ⟨x0, hx0, hc0⟩ := anti0.all col len0 i hi
      have hne : L ≠ [] := fun e => by
        have : x0 ∈ L := (hL x0).mpr ⟨anti0.2.1 x0 hx0, ⟨A0, anti0, len0, hx0⟩, hc0⟩
        rw [e] at this; cases this
      obtain ⟨t, ht, hmaxt⟩ := maximal o L hne
      obtain ⟨t1, t2, t3⟩ := (hL t).mp ht
      refine ⟨t, t2, t3, fun y hy hcy => ?_⟩
      have hyS : y ∈ S.erase a := by obtain ⟨A, hA, _, hyA⟩ := hy; exact hA.2.1 y hyA
      have hyL : y ∈ L := (hL y).mpr ⟨hyS, hy, hcy⟩
      rcases col.2 y hyS t t1 (hcy.trans t3.symm) with h | h | h
      · exact .inl h
      · exact .inr h
      · exact absurd h (hmaxt y hyL)
    -- one top for each colour
    have tops : ∃ T : Nat → Nat, ∀ i, i < n → M (T i) ∧ c (T i) = i ∧ ∀ y, M y → c y = i → y = T i ∨ lt y (T i) := by
      have h2 : ∀ i, ∃ t, i < n → M t ∧ c t = i ∧ ∀ y, M y → c y = i → y = t ∨ lt y t := fun i => by
        by_cases hi : i < n
        · obtain ⟨t, ht⟩ := top i hi
          exact ⟨t, fun _ => ht⟩
        · exact ⟨0, fun h => absurd h hi⟩
      exact Classical.axiomOfChoice h2
    obtain ⟨T, hT⟩ := tops
    have TS : ∀ i, i < n → T i ∈ S.erase a := fun i hi => by obtain ⟨⟨A, hA, _, h⟩, _⟩ := hT i hi; exact hA.2.1 _ h
    have Tanti : ∀ i, i < n → ∀ j, j < n → ¬ lt (T i) (T j) := by
      intro i hi j hj hlt
      obtain ⟨⟨A, hA, hAl, hAj⟩, cj, _⟩ := hT j hj
      obtain ⟨y, hy, hcy⟩ := hA.all col hAl i hi
      rcases (hT i hi).2.2 y ⟨A, hA, hAl, hy⟩ hcy with h | h
      · exact hA.2.2 y hy (T j) hAj (h ▸ hlt)
      · exact hA.2.2 y hy (T j) hAj (o.tr _ _ _ h hlt)
    by_cases hcmp : ∃ i, i < n ∧ lt (T i) a
    · obtain ⟨i, hi, hlt⟩ := hcmp
      classical
      -- take the chain off
      let K : Nat → Prop := fun x => x = a ∨ (c x = i ∧ (x = T i ∨ lt x (T i)))
      let S2 := S.filter fun x => decide (¬ K x)
      have hS2 : ∀ x, x ∈ S2 ↔ x ∈ S ∧ ¬ K x := fun x => by rw [List.mem_filter, decide_eq_true_iff]
      have sub2 : ∀ x ∈ S2, x ∈ S.erase a := fun x hx => by
        obtain ⟨h1, h2⟩ := (hS2 x).mp hx
        exact (memE x).mpr ⟨fun e => h2 (.inl e), h1⟩
      have nod2 : S2.Nodup := hn.filter _
      have len2 : S2.length ≤ m := by
        have : S2.length ≤ (S.erase a).length := nod2.length_le_of_subset sub2
        omega
      obtain ⟨k, B, c2, antiB, lenB, col2⟩ := ih S2 len2 nod2
      have antiB' : Anti lt B (S.erase a) := ⟨antiB.1, fun x hx => sub2 x (antiB.2.1 x hx), antiB.2.2⟩
      have hk : k ≤ n := lenB ▸ antiB'.le col
      have hkn : k ≠ n := fun e => by
        obtain ⟨y, hy, hcy⟩ := antiB'.all col (lenB.trans e) i hi
        have hno := ((hS2 y).mp (antiB.2.1 y hy)).2
        exact hno (.inr ⟨hcy, (hT i hi).2.2 y ⟨B, antiB', lenB.trans e, hy⟩ hcy⟩)
      refine ⟨n, A0, fun x => if K x then k else c2 x, ⟨anti0.1, fun x hx => ((memE x).mp (anti0.2.1 x hx)).2, anti0.2.2⟩, len0, fun x hx => ?_, fun x hx y hy e => ?_⟩
      · show (if K x then k else c2 x) < n
        split
        · omega
        · have := col2.1 x ((hS2 x).mpr ⟨hx, by assumption⟩); omega
      · have e : (if K x then k else c2 x) = (if K y then k else c2 y) := e
        by_cases hx1 : K x
        · by_cases hy1 : K y
          · -- both in the chain
            have inS : ∀ z, z ∈ S → z ≠ a → z ∈ S.erase a := fun z h1 h2 => (memE z).mpr ⟨h2, h1⟩
            rcases hx1 with rfl | ⟨cx, dx⟩
            · rcases hy1 with rfl | ⟨cy, dy⟩
              · exact .inl rfl
              · refine .inr (.inr ?_)
                rcases dy with rfl | dy
                · exact hlt
                · exact o.tr _ _ _ dy hlt
            · rcases hy1 with rfl | ⟨cy, dy⟩
              · refine .inr (.inl ?_)
                rcases dx with rfl | dx
                · exact hlt
                · exact o.tr _ _ _ dx hlt
              · by_cases hxa : x = a
                · subst hxa
                  rcases dx with rfl | dx
                  · exact absurd hlt (o.irr _)
                  · exact absurd (o.tr _ _ _ dx hlt) (o.irr _)
                · by_cases hya : y = a
                  · subst hya
                    rcases dy with rfl | dy
                    · exact absurd hlt (o.irr _)
                    · exact absurd (o.tr _ _ _ dy hlt) (o.irr _)
                  · exact col.2 x (inS x hx hxa) y (inS y hy hya) (cx.trans cy.symm)
          · rw [if_pos hx1, if_neg hy1] at e
            have := col2.1 y ((hS2 y).mpr ⟨hy, hy1⟩)
            omega
        · by_cases hy1 : K y
          · rw [if_neg hx1, if_pos hy1] at e
            have := col2.1 x ((hS2 x).mpr ⟨hx, hx1⟩)
            omega
          · rw [if_neg hx1, if_neg hy1] at e
            exact col2.2 x ((hS2 x).mpr ⟨hx, hx1⟩) y ((hS2 y).mpr ⟨hy, hy1⟩) e
    · -- a beside the tops
      have hno : ∀ i, i < n → ¬ lt (T i) a := fun i hi h => hcmp ⟨i, hi, h⟩
      have Tinj : ∀ i, i < n → ∀ j, j < n → T i = T j → i = j := fun i hi j hj e => by rw [← (hT i hi).2.1, ← (hT j hj).2.1, e]
      refine ⟨n + 1, a :: (List.range n).map T, fun x => if x = a then n else c x, ⟨?_, fun x hx => ?_, fun x hx y hy => ?_⟩, by simp, fun x hx => ?_, fun x hx y hy e => ?_⟩
      · rw [List.nodup_cons]
        refine ⟨fun h => ?_, ?_⟩
        · obtain ⟨i, hi, e⟩ := List.mem_map.mp h
          exact ((memE _).mp (TS i (List.mem_range.mp hi))).1 e
        · rw [List.nodup_iff_pairwise_ne, List.pairwise_map]
          have hr : (List.range n).Nodup := List.nodup_range
          rw [List.nodup_iff_pairwise_ne] at hr
          exact hr.imp_of_mem fun {i j} hi hj hij e => hij (Tinj i (List.mem_range.mp hi) j (List.mem_range.mp hj) e)
      · rcases List.mem_cons.mp hx with rfl | hx
        · exact ha
        · obtain ⟨i, hi, rfl⟩ := List.mem_map.mp hx
          exact ((memE _).mp (TS i (List.mem_range.mp hi))).2
      · rcases List.mem_cons.mp hx with rfl | hx
        · rcases List.mem_cons.mp hy with rfl | hy
          · exact o.irr _
          · obtain ⟨j, hj, rfl⟩ := List.mem_map.mp hy
            exact hmax _ ((memE _).mp (TS j (List.mem_range.mp hj))).2
        · obtain ⟨i, hi, rfl⟩ := List.mem_map.mp hx
          rcases List.mem_cons.mp hy with rfl | hy
          · exact hno i (List.mem_range.mp hi)
          · obtain ⟨j, hj, rfl⟩ := List.mem_map.mp hy
            exact Tanti i (List.mem_range.mp hi) j (List.mem_range.mp hj)
      · show (if x = a then n else c x) < n + 1
        split
        · omega
        · have := col.1 x ((memE x).mpr ⟨by assumption, hx⟩); omega
      · have e : (if x = a then n else c x) = (if y = a then n else c y) := e
        by_cases hxa : x = a
        · by_cases hya : y = a
          · exact .inl (hxa.trans hya.symm)
          · rw [if_pos hxa, if_neg hya] at e
            have := col.1 y ((memE y).mpr ⟨hya, hy⟩)
            omega
        · by_cases hya : y = a
          · rw [if_neg hxa, if_pos hya] at e
            have := col.1 x ((memE x).mpr ⟨hxa, hx⟩)
            omega
          · rw [if_neg hxa, if_neg hya] at e
            exact col.2 x ((memE x).mpr ⟨hxa, hx⟩) y ((memE y).mpr ⟨hya, hy⟩) e
end Mine
end
section
set_option maxRecDepth 100000
namespace Mine
/-- z i k: i's zone in k's; p j k: j's path below k's; e: one authority -/
structure Rel (z p e : Nat → Nat → Prop) : Prop where
  zr : ∀ a, z a a
  zt : ∀ a b c, z a b → z b c → z a c
  zc : ∀ i a b, z i a → z i b → z a b ∨ z b a
  pr : ∀ a, p a a
  pt : ∀ a b c, p a b → p b c → p a c
  pc : ∀ i a b, p i a → p i b → p a b ∨ p b a
  er : ∀ a, e a a
  es : ∀ a b, e a b → e b a
  et : ∀ a b c, e a b → e b c → e a c
section
variable {z p e : Nat → Nat → Prop}
def Meet (z p e : Nat → Nat → Prop) (a b : Nat) : Prop := e a b ∧ (z a b ∨ z b a) ∧ (p a b ∨ p b a)
theorem Meet.symm (r : Rel z p e) {a b : Nat} (h : Meet z p e a b) : Meet z p e b a := ⟨r.es _ _ h.1, h.2.1.symm, h.2.2.symm⟩
def Le (z p e : Nat → Nat → Prop) (a b : Nat) : Prop := e a b ∧ z a b ∧ p a b
def Dom (z p e : Nat → Nat → Prop) (a b : Nat) : Prop := Le z p e a b ∧ (¬ Le z p e b a ∨ a < b)
def Cross (z p e : Nat → Nat → Prop) (a b : Nat) : Prop := e a b ∧ z a b ∧ ¬ z b a ∧ p b a ∧ ¬ p a b
theorem Le.trans (r : Rel z p e) {a b c : Nat} (h : Le z p e a b) (k : Le z p e b c) : Le z p e a c := ⟨r.et _ _ _ h.1 k.1, r.zt _ _ _ h.2.1 k.2.1, r.pt _ _ _ h.2.2 k.2.2⟩
theorem Le.refl (r : Rel z p e) (a : Nat) : Le z p e a a := ⟨r.er a, r.zr a, r.pr a⟩
theorem dom_ord (r : Rel z p e) : SOrd (fun a b => Dom z p e b a) where
  irr := fun a h => by
    rcases h.2 with h' | h'
    · exact h' (Le.refl r a)
    · exact Nat.lt_irrefl _ h'
  tr := fun a b c h k => by
    refine ⟨k.1.trans r h.1, ?_⟩
    by_cases hl : Le z p e a c
    · right
      have h1 : b < a := by
        rcases h.2 with q | q
        · exact absurd (hl.trans r k.1) q
        · exact q
      have h2 : c < b := by
        rcases k.2 with q | q
        · exact absurd (h.1.trans r hl) q
        · exact q
      exact Nat.lt_trans h2 h1
    · exact .inl hl
theorem cross_ord (r : Rel z p e) : SOrd (Cross z p e) where
  irr := fun a h => h.2.2.1 (r.zr a)
  tr := fun a b c h k => ⟨r.et _ _ _ h.1 k.1, r.zt _ _ _ h.2.1 k.2.1, fun q => k.2.2.1 (r.zt _ _ _ q h.2.1), r.pt _ _ _ k.2.2.2.1 h.2.2.2.1, fun q => h.2.2.2.2 (r.pt _ _ _ q k.2.2.2.1)⟩
theorem cross_rev (r : Rel z p e) : SOrd (fun a b => Cross z p e b a) where
  irr := fun a h => (cross_ord r).irr a h
  tr := fun a b c h k => (cross_ord r).tr _ _ _ k h
/-- Dilworth and Helly: as many requests as rules that keep clear of each other -/
theorem cover (r : Rel z p e) (S : List Nat) (hn : S.Nodup) : ∃ (n : Nat) (A : List Nat) (f g : Nat → Nat), A.Nodup ∧ (∀ x ∈ A, x ∈ S) ∧ (∀ x ∈ A, ∀ y ∈ A, x ≠ y → ¬ Meet z p e x y) ∧ A.length = n ∧
    (∀ i, i < n → f i ∈ S ∧ g i ∈ S) ∧ ∀ v ∈ S, ∃ i, i < n ∧ z (f i) v ∧ e (g i) v ∧ p (g i) v := by
  classical
  let S0 := S.filter fun v => decide (¬ ∃ u ∈ S, Dom z p e u v)
  have hS0 : ∀ v, v ∈ S0 ↔ v ∈ S ∧ ¬ ∃ u ∈ S, Dom z p e u v := fun v => by rw [List.mem_filter, decide_eq_true_iff]
  have cr : ∀ x ∈ S0, ∀ y ∈ S0, x ≠ y → Meet z p e x y → Cross z p e x y ∨ Cross z p e y x := by
    intro x hx y hy hxy hm
    have nole : ∀ a ∈ S0, ∀ b ∈ S0, a ≠ b → ¬ Le z p e a b := by
      intro a ha b hb hab hl
      obtain ⟨a1, a2⟩ := (hS0 a).mp ha
      obtain ⟨b1, b2⟩ := (hS0 b).mp hb
      by_cases hl' : Le z p e b a
      · rcases Nat.lt_or_gt_of_ne hab with h | h
        · exact b2 ⟨a, a1, hl, .inr h⟩
        · exact a2 ⟨b, b1, hl', .inr h⟩
      · exact b2 ⟨a, a1, hl, .inl hl'⟩
    have n1 := nole x hx y hy hxy
    have n2 := nole y hy x hx (Ne.symm hxy)
    have e1 := hm.1
    have e2 := r.es _ _ e1
    by_cases zx : z x y
    · have np : ¬ p x y := fun q => n1 ⟨e1, zx, q⟩
      have py : p y x := hm.2.2.resolve_left np
      exact .inl ⟨e1, zx, fun q => n2 ⟨e2, q, py⟩, py, np⟩
    · have zy : z y x := hm.2.1.resolve_left zx
      have np : ¬ p y x := fun q => n2 ⟨e2, zy, q⟩
      have px : p x y := hm.2.2.resolve_right np
      exact .inr ⟨e2, zy, zx, px, np⟩
  obtain ⟨n, A, c, anti, lenA, col⟩ := dilworth (cross_ord r) S0.length S0 (Nat.le_refl _) (hn.filter _)
  have colMeet : ∀ i, i < n → ∃ f g, f ∈ S ∧ g ∈ S ∧ ∀ x ∈ S0, c x = i → z f x ∧ e g x ∧ p g x := by
    intro i hi
    let C := S0.filter fun x => decide (c x = i)
    have hC : ∀ x, x ∈ C ↔ x ∈ S0 ∧ c x = i := fun x => by rw [List.mem_filter, decide_eq_true_iff]
    obtain ⟨x0, hx0, hc0⟩ := anti.all col lenA i hi
    have hne : C ≠ [] := fun q => by
      have : x0 ∈ C := (hC x0).mpr ⟨anti.2.1 x0 hx0, hc0⟩
      rw [q] at this; cases this
    obtain ⟨f, hf, fmin⟩ := maximal (cross_rev r) C hne
    obtain ⟨g, hg, gmax⟩ := maximal (cross_ord r) C hne
    obtain ⟨f1, f2⟩ := (hC f).mp hf
    obtain ⟨g1, g2⟩ := (hC g).mp hg
    refine ⟨f, g, ((hS0 f).mp f1).1, ((hS0 g).mp g1).1, fun x hx hcx => ?_⟩
    have hxC : x ∈ C := (hC x).mpr ⟨hx, hcx⟩
    refine ⟨?_, ?_⟩
    · rcases col.2 f f1 x hx (f2.trans hcx.symm) with q | q | q
      · exact q ▸ r.zr _
      · exact q.2.1
      · exact absurd q (fmin x hxC)
    · rcases col.2 g g1 x hx (g2.trans hcx.symm) with q | q | q
      · exact q ▸ ⟨r.er _, r.pr _⟩
      · exact absurd q (gmax x hxC)
      · exact ⟨r.es _ _ q.1, q.2.2.2.1⟩
  have pick : ∀ i, ∃ fg : Nat × Nat, i < n → fg.1 ∈ S ∧ fg.2 ∈ S ∧ ∀ x ∈ S0, c x = i → z fg.1 x ∧ e fg.2 x ∧ p fg.2 x := fun i => by
    by_cases hi : i < n
    · obtain ⟨f, g, h⟩ := colMeet i hi
      exact ⟨(f, g), fun _ => h⟩
    · exact ⟨(0, 0), fun h => absurd h hi⟩
  obtain ⟨F, hF⟩ := Classical.axiomOfChoice pick
  refine ⟨n, A, fun i => (F i).1, fun i => (F i).2, anti.1, fun x hx => ((hS0 x).mp (anti.2.1 x hx)).1, fun x hx y hy hxy hm => ?_, lenA, fun i hi => ⟨(hF i hi).1, (hF i hi).2.1⟩, fun v hv => ?_⟩
  · rcases cr x (anti.2.1 x hx) y (anti.2.1 y hy) hxy hm with q | q
    · exact anti.2.2 x hx y hy q
    · exact anti.2.2 y hy x hx q
  · -- one of S0 at v or below
    let L := S.filter fun u => decide (u = v ∨ Dom z p e u v)
    have hL : ∀ u, u ∈ L ↔ u ∈ S ∧ (u = v ∨ Dom z p e u v) := fun u => by rw [List.mem_filter, decide_eq_true_iff]
    have hne : L ≠ [] := fun q => by
      have : v ∈ L := (hL v).mpr ⟨hv, .inl rfl⟩
      rw [q] at this; cases this
    obtain ⟨u, hu, umin⟩ := maximal (dom_ord r) L hne
    obtain ⟨u1, u2⟩ := (hL u).mp hu
    have hle : Le z p e u v := by
      rcases u2 with q | q
      · exact q ▸ Le.refl r _
      · exact q.1
    have hu0 : u ∈ S0 := (hS0 u).mpr ⟨u1, fun ⟨w, hw, hd⟩ => umin w ((hL w).mpr ⟨hw, .inr (by
      rcases u2 with q | q
      · exact q ▸ hd
      · exact (dom_ord r).tr _ _ _ q hd)⟩) hd⟩
    have hcu := col.1 u hu0
    obtain ⟨_, _, h3⟩ := hF (c u) hcu
    obtain ⟨a1, a2, a3⟩ := h3 u hu0 rfl
    exact ⟨c u, hcu, r.zt _ _ _ a1 hle.2.1, r.et _ _ _ a2 hle.1, r.pt _ _ _ a3 hle.2.2⟩
end
end Mine
end
section
open PySem PySem.W PySem.Calls PyProof.Rows
set_option maxRecDepth 100000
namespace Mine
def fe (M : List Nat) (t : Nat) : Nat := (feT M t).getD t 0
def mo (N : List Nat) (t : Nat) : Nat := (moT N t).getD t 0
theorem getD_app_left {l r : List Nat} {k : Nat} (h : k < l.length) : (l ++ r).getD k 0 = l.getD k 0 := by
  rw [List.getD_eq_getElem?_getD, List.getD_eq_getElem?_getD, List.getElem?_append_left h]
theorem getD_app_right {l : List Nat} {a : Nat} : (l ++ [a]).getD l.length 0 = a := by
  rw [List.getD_eq_getElem?_getD, List.getElem?_append_right (Nat.le_refl _)]; simp
theorem fe_stable (M : List Nat) (u : Nat) : ∀ d, (feT M (u + d)).getD u 0 = fe M u
  | 0 => rfl
  | d + 1 => by
    rw [← Nat.add_assoc, feT, getD_app_left (by rw [feT_len]; omega)]
    exact fe_stable M u d
theorem mo_stable (N : List Nat) (u : Nat) : ∀ d, (moT N (u + d)).getD u 0 = mo N u
  | 0 => rfl
  | d + 1 => by
    rw [← Nat.add_assoc, moT, getD_app_left (by rw [moT_len]; omega)]
    exact mo_stable N u d
theorem fe_at (M : List Nat) {u T : Nat} (h : u ≤ T) : (feT M T).getD u 0 = fe M u := by
  obtain ⟨d, rfl⟩ := Nat.exists_eq_add_of_le h
  exact fe_stable M u d
theorem mo_at (N : List Nat) {u T : Nat} (h : u ≤ T) : (moT N T).getD u 0 = mo N u := by
  obtain ⟨d, rfl⟩ := Nat.exists_eq_add_of_le h
  exact mo_stable N u d
theorem fe_step (M : List Nat) {f r : Nat} (h : r < 2 ^ f) : fe M (2 ^ f + r) = 1 + ((hitsN M f).map fun m => fe M (off (2 ^ f + r) m)).foldl min 6 := by
  have hb := bit_top h
  have hp := Nat.two_pow_pos f
  obtain ⟨t, ht⟩ : ∃ t, 2 ^ f + r = t + 1 := ⟨2 ^ f + r - 1, by omega⟩
  have hl := log2_at h
  rw [ht] at hl hb ⊢
  have hlen := feT_len M t
  have e1 : fe M (t + 1) = feN M (Nat.log2 (t + 1)) (feT M t) (t + 1) := by
    unfold fe
    rw [feT]
    have := @getD_app_right (feT M t) (feN M (Nat.log2 (t + 1)) (feT M t) (t + 1))
    rwa [hlen] at this
  rw [e1, hl, feN]
  have e2 : ((hitsN M f).map fun m => (feT M t).getD (off (t + 1) m) 0) = (hitsN M f).map fun m => fe M (off (t + 1) m) := by
    refine List.map_congr_left fun m hm => ?_
    exact fe_at M (Nat.le_of_lt_succ (off_lt hb (List.mem_filter.mp hm).2))
  rw [e2]
theorem mo_step (N : List Nat) {f r : Nat} (h : r < 2 ^ f) (hN : (N.getD f 0).testBit f = true) : mo N (2 ^ f + r) = max (mo N r) (1 + mo N (off (2 ^ f + r) (N.getD f 0))) := by
  have hb := bit_top h
  have hp := Nat.two_pow_pos f
  have hr : 2 ^ f + r - 2 ^ f = r := by omega
  have hrt : r < 2 ^ f + r := by omega
  obtain ⟨t, ht⟩ : ∃ t, 2 ^ f + r = t + 1 := ⟨2 ^ f + r - 1, by omega⟩
  have hl := log2_at h
  rw [ht] at hl hb hr hrt ⊢
  have hlen := moT_len N t
  have e1 : mo N (t + 1) = moN N (Nat.log2 (t + 1)) (t + 1 - 2 ^ Nat.log2 (t + 1)) (moT N t) (t + 1) := by
    unfold mo
    rw [moT]
    have := @getD_app_right (moT N t) (moN N (Nat.log2 (t + 1)) (t + 1 - 2 ^ Nat.log2 (t + 1)) (moT N t) (t + 1))
    rwa [hlen] at this
  rw [e1, hl, hr, moN, mo_at N (Nat.le_of_lt_succ hrt), mo_at N (Nat.le_of_lt_succ (off_lt hb hN))]
theorem fe_zero (M : List Nat) : fe M 0 = 0 := rfl
theorem mo_zero (N : List Nat) : mo N 0 = 0 := rfl
theorem tables_of {M N : List Nat} (h : ∀ t, t < 64 → fe M t = mo N t) : ∀ T, T < 64 → feT M T = moT N T
  | 0, _ => rfl
  | T + 1, hT => by
    have h1 := tables_of h T (by omega)
    have l1 := feT_len M T
    have l2 := moT_len N T
    have h2 := h (T + 1) hT
    unfold fe mo at h2
    rw [feT, moT] at h2 ⊢
    have e1 := @getD_app_right (feT M T) (feN M (Nat.log2 (T + 1)) (feT M T) (T + 1))
    have e2 := @getD_app_right (moT N T) (moN N (Nat.log2 (T + 1)) (T + 1 - 2 ^ Nat.log2 (T + 1)) (moT N T) (T + 1))
    rw [l1] at e1
    rw [l2] at e2
    rw [e1, e2] at h2
    rw [h2, h1]
theorem off_chk : (List.range 64).all (fun t => (List.range 64).all fun m => off t m == t &&& (63 ^^^ m)) = true := by decide +kernel
theorem sixty : ∀ i, i < 6 → Nat.testBit 63 i = true := by decide
theorem off_bit {t m i : Nat} (ht : t < 64) (hm : m < 64) (hi : i < 6) : (off t m).testBit i = (t.testBit i && !m.testBit i) := by
  have h := List.all_eq_true.mp (List.all_eq_true.mp off_chk t (List.mem_range.mpr ht)) m (List.mem_range.mpr hm)
  rw [beq_iff_eq.mp h, Nat.testBit_and, Nat.testBit_xor, sixty i hi, Bool.true_xor]
theorem split_top {t : Nat} (h : t < 64) (h0 : t ≠ 0) : ∃ f r, f < 6 ∧ r < 2 ^ f ∧ t = 2 ^ f + r := by
  refine ⟨Nat.log2 t, t - 2 ^ Nat.log2 t, ?_⟩
  obtain ⟨h1, h2⟩ := (Nat.log2_eq_iff h0).mp rfl
  rw [Nat.pow_succ] at h2
  refine ⟨?_, by omega, by omega⟩
  refine Nat.lt_of_not_le fun h6 => ?_
  have : 2 ^ 6 ≤ 2 ^ Nat.log2 t := Nat.pow_le_pow_right (by decide) h6
  omega
structure Bits (z p e : Nat → Nat → Prop) (M N : List Nat) : Prop where
  nlt : ∀ i, N.getD i 0 < 64
  mlt : ∀ m ∈ M, m < 64
  nb : ∀ i, i < 6 → ∀ k, k < 6 → ((N.getD i 0).testBit k = true ↔ Meet z p e i k)
  mc : ∀ m ∈ M, ∃ i j, ∀ k, k < 6 → (m.testBit k = true → z i k ∧ e j k ∧ p j k)
  mm : ∀ i, i < 6 → ∀ j, j < 6 → ∃ m ∈ M, ∀ k, k < 6 → (z i k ∧ e j k ∧ p j k → m.testBit k = true)
section
variable {z p e : Nat → Nat → Prop} {M N : List Nat}
def Ind (z p e : Nat → Nat → Prop) (t : Nat) (A : List Nat) : Prop := A.Nodup ∧ (∀ x ∈ A, x < 6 ∧ t.testBit x = true) ∧ ∀ x ∈ A, ∀ y ∈ A, x ≠ y → ¬ Meet z p e x y
theorem bit_le {f r x : Nat} (hr : r < 2 ^ f) (h : (2 ^ f + r).testBit x = true) : x ≤ f := by
  refine Nat.le_of_not_lt fun hlt => ?_
  have h1 := Nat.ge_two_pow_of_testBit h
  have h2 : 2 ^ (f + 1) ≤ 2 ^ x := Nat.pow_le_pow_right (by decide) hlt
  rw [Nat.pow_succ] at h2
  omega
theorem Meet.self (r : Rel z p e) (a : Nat) : Meet z p e a a := ⟨r.er a, .inl (r.zr a), .inl (r.pr a)⟩
theorem mo_ge (r : Rel z p e) (b : Bits z p e M N) : ∀ t, t < 64 → ∀ A, Ind z p e t A → A.length ≤ mo N t := by
  intro t
  induction t using Nat.strongRecOn with
  | ind t ih =>
    intro ht A hA
    by_cases h0 : t = 0
    · subst h0
      cases A with
      | nil => exact Nat.zero_le _
      | cons x A => have := (hA.2.1 x (.head _)).2; rw [Nat.zero_testBit] at this; cases this
    obtain ⟨f, s, hf, hs, rfl⟩ := split_top ht h0
    have hNf := (b.nb f hf f hf).mpr (Meet.self r f)
    have hpos := Nat.two_pow_pos f
    rw [mo_step N hs hNf]
    by_cases hfA : f ∈ A
    · have hlt := off_lt (bit_top hs) hNf
      have h1 := ih _ hlt (Nat.lt_trans hlt ht) (A.erase f) ⟨hA.1.erase f, fun x hx => ?_, fun x hx y hy => hA.2.2 x (List.mem_of_mem_erase hx) y (List.mem_of_mem_erase hy)⟩
      · rw [List.length_erase_of_mem hfA] at h1
        omega
      · obtain ⟨hxf, hxA⟩ := hA.1.mem_erase_iff.mp hx
        obtain ⟨x6, xb⟩ := hA.2.1 x hxA
        refine ⟨x6, ?_⟩
        rw [off_bit ht (b.nlt f) x6, xb, Bool.true_and, Bool.not_eq_true']
        refine Bool.eq_false_iff.mpr fun q => ?_
        exact hA.2.2 f hfA x hxA (Ne.symm hxf) ((b.nb f hf x x6).mp q)
    · have h1 := ih s (by omega) (by omega) A ⟨hA.1, fun x hx => ?_, hA.2.2⟩
      · omega
      · obtain ⟨x6, xb⟩ := hA.2.1 x hx
        have hle := bit_le hs xb
        have hne : x ≠ f := fun q => hfA (q ▸ hx)
        rw [Nat.testBit_two_pow_add_gt (by omega)] at xb
        exact ⟨x6, xb⟩
theorem mo_get (r : Rel z p e) (b : Bits z p e M N) : ∀ t, t < 64 → ∃ A, Ind z p e t A ∧ A.length = mo N t := by
  intro t
  induction t using Nat.strongRecOn with
  | ind t ih =>
    intro ht
    by_cases h0 : t = 0
    · subst h0
      exact ⟨[], ⟨List.nodup_nil, fun x h => (nomatch h), fun x h => (nomatch h)⟩, rfl⟩
    obtain ⟨f, s, hf, hs, rfl⟩ := split_top ht h0
    have hNf := (b.nb f hf f hf).mpr (Meet.self r f)
    have hpos := Nat.two_pow_pos f
    have hlt := off_lt (bit_top hs) hNf
    rw [mo_step N hs hNf]
    by_cases hmax : 1 + mo N (off (2 ^ f + s) (N.getD f 0)) ≤ mo N s
    · obtain ⟨A, hA, hl⟩ := ih s (by omega) (by omega)
      refine ⟨A, ⟨hA.1, fun x hx => ?_, hA.2.2⟩, by omega⟩
      obtain ⟨x6, xb⟩ := hA.2.1 x hx
      refine ⟨x6, ?_⟩
      have hxf : x < f := Nat.lt_of_not_le fun q => by
        have h1 := Nat.ge_two_pow_of_testBit xb
        have h2 : 2 ^ f ≤ 2 ^ x := Nat.pow_le_pow_right (by decide) q
        omega
      rw [Nat.testBit_two_pow_add_gt hxf]; exact xb
    · obtain ⟨A, hA, hl⟩ := ih _ hlt (Nat.lt_trans hlt ht)
      have hbits : ∀ x ∈ A, x < 6 ∧ (2 ^ f + s).testBit x = true ∧ ¬ Meet z p e f x := fun x hx => by
        obtain ⟨x6, xb⟩ := hA.2.1 x hx
        rw [off_bit ht (b.nlt f) x6, Bool.and_eq_true, Bool.not_eq_true'] at xb
        exact ⟨x6, xb.1, fun q => by rw [(b.nb f hf x x6).mpr q] at xb; cases xb.2⟩
      refine ⟨f :: A, ⟨List.nodup_cons.mpr ⟨fun q => (hbits f q).2.2 (Meet.self r f), hA.1⟩, fun x hx => ?_, fun x hx y hy hxy => ?_⟩, by rw [List.length_cons]; omega⟩
      · rcases List.mem_cons.mp hx with rfl | hx
        · exact ⟨hf, bit_top hs⟩
        · exact ⟨(hbits x hx).1, (hbits x hx).2.1⟩
      · rcases List.mem_cons.mp hx with ex | hx'
        · rcases List.mem_cons.mp hy with ey | hy'
          · exact absurd (ex.trans ey.symm) hxy
          · rw [ex]; exact (hbits y hy').2.2
        · rcases List.mem_cons.mp hy with ey | hy'
          · rw [ey]; exact fun q => (hbits x hx').2.2 (q.symm r)
          · exact hA.2.2 x hx' y hy' hxy
theorem fe_le (r : Rel z p e) (b : Bits z p e M N) : ∀ t, t < 64 → ∀ L : List Nat, (∀ m ∈ L, m ∈ M) → (∀ x, x < 6 → t.testBit x = true → ∃ m ∈ L, m.testBit x = true) → fe M t ≤ L.length := by
  intro t
  induction t using Nat.strongRecOn with
  | ind t ih =>
    intro ht L hL hc
    by_cases h0 : t = 0
    · subst h0; exact Nat.zero_le _
    obtain ⟨f, s, hf, hs, rfl⟩ := split_top ht h0
    obtain ⟨m, hm, hmf⟩ := hc f hf (bit_top hs)
    have hmM := hL m hm
    have hlt := off_lt (bit_top hs) hmf
    have h1 := ih _ hlt (Nat.lt_trans hlt ht) (L.erase m) (fun q hq => hL q (List.mem_of_mem_erase hq)) fun x x6 xb => by
      rw [off_bit ht (b.mlt m hmM) x6, Bool.and_eq_true, Bool.not_eq_true'] at xb
      obtain ⟨q, hq, hqx⟩ := hc x x6 xb.1
      refine ⟨q, ?_, hqx⟩
      have hne : q ≠ m := fun h => by rw [h, xb.2] at hqx; cases hqx
      exact (List.mem_erase_of_ne hne).mpr hq
    rw [List.length_erase_of_mem hm] at h1
    have hpos := List.length_pos_of_mem hm
    rw [fe_step M hs]
    have h2 := (foldl_min6 ((hitsN M f).map fun m => fe M (off (2 ^ f + s) m)) 6).2 (fe M (off (2 ^ f + s) m)) (.tail _ (List.mem_map.mpr ⟨m, List.mem_filter.mpr ⟨hmM, hmf⟩, rfl⟩))
    omega
theorem Ind.six {t : Nat} {A : List Nat} (h : Ind z p e t A) : A.length ≤ 6 := by
  have := h.1.length_le_of_subset (l₂ := List.range 6) fun x hx => List.mem_range.mpr (h.2.1 x hx).1
  simpa using this
theorem filter_split (q : Nat → Bool) : ∀ (A : List Nat), A.length = (A.filter q).length + (A.filter fun x => !q x).length
  | [] => rfl
  | a :: A => by
    have ih := filter_split q A
    rw [List.filter_cons, List.filter_cons]
    cases q a <;> simp <;> omega
theorem mo_fe (r : Rel z p e) (b : Bits z p e M N) : ∀ t, t < 64 → mo N t ≤ fe M t := by
  intro t
  induction t using Nat.strongRecOn with
  | ind t ih =>
    intro ht
    by_cases h0 : t = 0
    · subst h0; exact Nat.zero_le _
    obtain ⟨A, hA, hl⟩ := mo_get r b t ht
    obtain ⟨f, s, hf, hs, rfl⟩ := split_top ht h0
    rw [fe_step M hs]
    rcases List.mem_cons.mp (foldl_min6 ((hitsN M f).map fun m => fe M (off (2 ^ f + s) m)) 6).1 with q | q
    · rw [q]; have := hA.six; omega
    · obtain ⟨m, hm, e1⟩ := List.mem_map.mp q
      rw [← e1]
      obtain ⟨hmM, hmf⟩ := List.mem_filter.mp hm
      have hlt := off_lt (bit_top hs) hmf
      have h1 := ih _ hlt (Nat.lt_trans hlt ht)
      have h2 := mo_ge r b _ (Nat.lt_trans hlt ht) (A.filter fun x => !m.testBit x) ⟨hA.1.filter _, fun x hx => ?_, fun x hx y hy => hA.2.2 x (List.mem_filter.mp hx).1 y (List.mem_filter.mp hy).1⟩
      · have h3 := filter_split (fun x => m.testBit x) A
        have h4 : (A.filter fun x => m.testBit x).length ≤ 1 := by
          obtain ⟨i, j, hij⟩ := b.mc m hmM
          have one : ∀ x ∈ A.filter (fun x => m.testBit x), ∀ y ∈ A.filter (fun x => m.testBit x), x = y := fun x hx y hy => by
            obtain ⟨x1, x2⟩ := List.mem_filter.mp hx
            obtain ⟨y1, y2⟩ := List.mem_filter.mp hy
            refine Classical.byContradiction fun hxy => hA.2.2 x x1 y y1 hxy ?_
            obtain ⟨a1, a2, a3⟩ := hij x (hA.2.1 x x1).1 x2
            obtain ⟨b1, b2, b3⟩ := hij y (hA.2.1 y y1).1 y2
            exact ⟨r.et _ _ _ (r.es _ _ a2) b2, r.zc _ _ _ a1 b1, r.pc _ _ _ a3 b3⟩
          have hnd : (A.filter fun x => m.testBit x).Nodup := hA.1.filter _
          generalize A.filter (fun x => m.testBit x) = B at one hnd ⊢
          match B, one, hnd with
          | [], _, _ => exact Nat.zero_le _
          | [x], _, _ => exact Nat.le_refl _
          | x :: y :: B, one, hnd =>
            have := one x (.head _) y (.tail _ (.head _))
            exact absurd (this ▸ .head _) (List.nodup_cons.mp hnd).1
        omega
      · obtain ⟨x1, x2⟩ := List.mem_filter.mp hx
        obtain ⟨x6, xb⟩ := hA.2.1 x x1
        refine ⟨x6, ?_⟩
        rw [off_bit ht (b.mlt m hmM) x6, xb, Bool.true_and]; exact x2
theorem fe_mo (r : Rel z p e) (b : Bits z p e M N) (t : Nat) (ht : t < 64) : fe M t = mo N t := by
  refine Nat.le_antisymm ?_ (mo_fe r b t ht)
  obtain ⟨n, A, f, g, a1, a2, a3, a4, a5, a6⟩ := cover r ((List.range 6).filter fun x => t.testBit x) (List.nodup_range.filter _)
  have hmem : ∀ x, x ∈ (List.range 6).filter (fun x => t.testBit x) ↔ x < 6 ∧ t.testBit x = true := fun x => by rw [List.mem_filter, List.mem_range]
  have h1 := mo_ge r b t ht A ⟨a1, fun x hx => (hmem x).mp (a2 x hx), a3⟩
  have pick : ∀ i, ∃ m, i < n → m ∈ M ∧ ∀ k, k < 6 → (z (f i) k ∧ e (g i) k ∧ p (g i) k → m.testBit k = true) := fun i => by
    by_cases hi : i < n
    · obtain ⟨q1, q2⟩ := a5 i hi
      obtain ⟨m, hm, hk⟩ := b.mm (f i) ((hmem _).mp q1).1 (g i) ((hmem _).mp q2).1
      exact ⟨m, fun _ => ⟨hm, hk⟩⟩
    · exact ⟨0, fun h => absurd h hi⟩
  obtain ⟨F, hF⟩ := Classical.axiomOfChoice pick
  have h2 := fe_le r b t ht ((List.range n).map F) (fun m hm => by
    obtain ⟨i, hi, rfl⟩ := List.mem_map.mp hm
    exact (hF i (List.mem_range.mp hi)).1) fun x x6 xb => by
      obtain ⟨i, hi, hz⟩ := a6 x ((hmem x).mpr ⟨x6, xb⟩)
      exact ⟨F i, List.mem_map.mpr ⟨i, List.mem_range.mpr hi, rfl⟩, (hF i hi).2 x x6 hz⟩
  rw [List.length_map, List.length_range] at h2
  omega
theorem tables (r : Rel z p e) (b : Bits z p e M N) : feT M 63 = moT N 63 := tables_of (fe_mo r b) 63 (by decide)
end
end Mine
end
section
open PySem PySem.W PySem.Calls PyProof.Rows
set_option maxRecDepth 100000
namespace Mine
theorem mask_chk : ∀ b0 b1 b2 b3 b4 b5 : Bool, maskU [b0, b1, b2, b3, b4, b5] < 64 ∧ (maskU [b0, b1, b2, b3, b4, b5]).testBit 0 = b0 ∧ (maskU [b0, b1, b2, b3, b4, b5]).testBit 1 = b1 ∧ (maskU [b0, b1, b2, b3, b4, b5]).testBit 2 = b2 ∧ (maskU [b0, b1, b2, b3, b4, b5]).testBit 3 = b3 ∧ (maskU [b0, b1, b2, b3, b4, b5]).testBit 4 = b4 ∧ (maskU [b0, b1, b2, b3, b4, b5]).testBit 5 = b5 := by decide +kernel
theorem mask_bits {bs : List Bool} (h : bs.length = 6) : maskU bs < 64 ∧ ∀ k, k < 6 → (maskU bs).testBit k = bs.getD k false := by
  match bs, h with
  | [b0, b1, b2, b3, b4, b5], _ =>
    obtain ⟨h0, h1, h2, h3, h4, h5, h6⟩ := mask_chk b0 b1 b2 b3 b4 b5
    refine ⟨h0, fun k hk => ?_⟩
    match k, hk with
    | 0, _ => exact h1
    | 1, _ => exact h2
    | 2, _ => exact h3
    | 3, _ => exact h4
    | 4, _ => exact h5
    | 5, _ => exact h6
theorem drop_suffix {a b : List (List Nat)} (h : a.length ≤ b.length) : (b.drop (b.length - a.length) == a) = true ↔ a <:+ b := by
  rw [beq_iff_eq]
  constructor
  · intro e
    exact e ▸ List.drop_suffix _ _
  · rintro ⟨c, rfl⟩
    rw [List.length_append, Nat.add_sub_cancel, List.drop_left]
def Hold (z y : Zn) : Prop := z = y ∨ (z.1 = true ∧ z.2.length < y.2.length ∧ z.2 <:+ y.2)
theorem hold_iff (z y : Zn) : holdsL z y = true ↔ Hold z y := by
  unfold holdsL Hold
  rw [Bool.or_eq_true, beq_iff_eq, Bool.and_eq_true, Bool.and_eq_true, decide_eq_true_iff]
  constructor
  · rintro (h | ⟨h1, h2, h3⟩)
    · exact .inl h
    · exact .inr ⟨h1, h2, (drop_suffix (Nat.le_of_lt h2)).mp h3⟩
  · rintro (h | ⟨h1, h2, h3⟩)
    · exact .inl h
    · exact .inr ⟨h1, h2, (drop_suffix (Nat.le_of_lt h2)).mpr h3⟩
theorem Hold.trans {x y z : Zn} (h : Hold y x) (k : Hold z y) : Hold z x := by
  rcases k with rfl | ⟨k1, k2, k3⟩
  · exact h
  · rcases h with rfl | ⟨h1, h2, h3⟩
    · exact .inr ⟨k1, k2, k3⟩
    · exact .inr ⟨k1, Nat.lt_trans k2 h2, k3.trans h3⟩
theorem Hold.chain {x a b : Zn} (h : Hold a x) (k : Hold b x) : Hold b a ∨ Hold a b := by
  rcases h with rfl | ⟨h1, h2, h3⟩
  · exact .inl k
  · rcases k with rfl | ⟨k1, k2, k3⟩
    · exact .inr (.inr ⟨h1, h2, h3⟩)
    · rcases Nat.lt_trichotomy a.2.length b.2.length with q | q | q
      · exact .inr (.inr ⟨h1, q, List.suffix_of_suffix_length_le h3 k3 (Nat.le_of_lt q)⟩)
      · left; left
        have e := (List.suffix_of_suffix_length_le h3 k3 (Nat.le_of_eq q)).eq_of_length q
        obtain ⟨a1, a2⟩ := a
        obtain ⟨b1, b2⟩ := b
        simp only at h1 k1 e
        rw [h1, k1, e]
      · exact .inl (.inr ⟨k1, q, List.suffix_of_suffix_length_le k3 h3 (Nat.le_of_lt q)⟩)
theorem cov_trans_chk : stepsL.all (fun s => stepsL.all fun o => !coversL s o || stepsL.all fun q => !coversL o q || coversL s q) = true := by decide +kernel
theorem cov_chain_chk : stepsL.all (fun o => stepsL.all fun s => !coversL s o || stepsL.all fun q => !coversL q o || (coversL s q || coversL q s)) = true := by decide +kernel
theorem cov_trans {s o q : List (List Nat)} (hs : s ∈ stepsL) (ho : o ∈ stepsL) (hq : q ∈ stepsL) (h : coversL s o = true) (k : coversL o q = true) : coversL s q = true := by
  have c := List.all_eq_true.mp (List.all_eq_true.mp cov_trans_chk s hs) o ho
  rw [h, Bool.not_true, Bool.false_or] at c
  have c := List.all_eq_true.mp c q hq
  rw [k, Bool.not_true, Bool.false_or] at c
  exact c
theorem cov_chain {s o q : List (List Nat)} (hs : s ∈ stepsL) (ho : o ∈ stepsL) (hq : q ∈ stepsL) (h : coversL s o = true) (k : coversL q o = true) : coversL s q = true ∨ coversL q s = true := by
  have c := List.all_eq_true.mp (List.all_eq_true.mp cov_chain_chk o ho) s hs
  rw [h, Bool.not_true, Bool.false_or] at c
  have c := List.all_eq_true.mp c q hq
  rw [k, Bool.not_true, Bool.false_or, Bool.or_eq_true] at c
  exact c
theorem mem_ddup : ∀ (P : List Nat) (i x : Nat), x ∈ ddup (P.take i) ↔ x ∈ P.take i
  | P, 0, x => by simp [ddup]
  | P, i + 1, x => by
    have ih := mem_ddup P i x
    cases h : P[i]? with
    | none =>
      have h' := List.getElem?_eq_none_iff.mp h
      rw [List.take_of_length_le (by omega)]
      rwa [List.take_of_length_le h'] at ih
    | some y =>
      rw [ddup_succ h, List.take_add_one, h, Option.toList_some, List.mem_append, ← ih, List.mem_singleton]
      split
      · rename_i hc
        have hy : y ∈ ddup (P.take i) := by simpa using hc
        constructor
        · exact .inl
        · rintro (q | rfl)
          · exact q
          · exact hy
      · rw [List.mem_append, List.mem_singleton]
theorem mem_ddup' (P : List Nat) (x : Nat) : x ∈ ddup P ↔ x ∈ P := by
  have := mem_ddup P P.length x
  rwa [List.take_length] at this
section
variable (ls : List RL) (h6 : ls.length = 6) (hok : ∀ l ∈ ls, l.Ok)
def ruleAt (i : Nat) : RL := ls.getD i (ls.headD ⟨[], [], ⟨#[]⟩⟩)
theorem ruleAt_mem (h6 : ls.length = 6) (i : Nat) : ruleAt ls i ∈ ls := by
  unfold ruleAt
  match ls, h6 with
  | a :: r, _ =>
    rw [List.getD_eq_getElem?_getD]
    cases h : (a :: r)[i]? with
    | none => exact .head _
    | some b => exact List.mem_of_getElem? h
theorem ruleAt_get {i : Nat} (h6 : ls.length = 6) (hi : i < 6) : ls[i]? = some (ruleAt ls i) := by
  have hl : i < ls.length := by omega
  rw [ruleAt, List.getD_eq_getElem?_getD, List.getElem?_eq_getElem hl]; rfl
theorem at_mem {l : RL} (h6 : ls.length = 6) (h : l ∈ ls) : ∃ i, i < 6 ∧ l = ruleAt ls i := by
  obtain ⟨i, hi, e⟩ := List.mem_iff_getElem.mp h
  refine ⟨i, by omega, ?_⟩
  have := ruleAt_get ls h6 (i := i) (by omega)
  rw [List.getElem?_eq_getElem hi, e] at this
  injection this
theorem map_bit (h6 : ls.length = 6) (f : RL → Bool) {k : Nat} (hk : k < 6) : (maskU (ls.map f)).testBit k = f (ruleAt ls k) := by
  rw [(mask_bits (by rw [List.length_map]; exact h6)).2 k hk, List.getD_eq_getElem?_getD, List.getElem?_map, ruleAt_get ls h6 hk]; rfl
def zR (i k : Nat) : Prop := holdsL (ruleAt ls k).zn (ruleAt ls i).zn = true
def pR (i k : Nat) : Prop := coversL (ruleAt ls k).steps (ruleAt ls i).steps = true
def eR (i k : Nat) : Prop := (ruleAt ls i).au = (ruleAt ls k).au
theorem rel_of (h6 : ls.length = 6) (hok : ∀ l ∈ ls, l.Ok) : Rel (zR ls) (pR ls) (eR ls) where
  zr := fun a => (hold_iff _ _).mpr (.inl rfl)
  zt := fun a b c h k => (hold_iff _ _).mpr (((hold_iff _ _).mp h).trans ((hold_iff _ _).mp k))
  zc := fun i a b h k => by
    rcases ((hold_iff _ _).mp h).chain ((hold_iff _ _).mp k) with q | q
    · exact .inl ((hold_iff _ _).mpr q)
    · exact .inr ((hold_iff _ _).mpr q)
  pr := fun a => by unfold pR coversL; simp
  pt := fun a b c h k => cov_trans (hok _ (ruleAt_mem ls h6 c)).s (hok _ (ruleAt_mem ls h6 b)).s (hok _ (ruleAt_mem ls h6 a)).s k h
  pc := fun i a b h k => by
    rcases cov_chain (hok _ (ruleAt_mem ls h6 a)).s (hok _ (ruleAt_mem ls h6 i)).s (hok _ (ruleAt_mem ls h6 b)).s h k with q | q
    · exact .inr q
    · exact .inl q
  er := fun a => rfl
  es := fun a b h => h.symm
  et := fun a b c h k => h.trans k
theorem near_at (h6 : ls.length = 6) {i : Nat} (hi : i < 6) : (nearsU ls).getD i 0 = maskU (ls.map (meetL (ruleAt ls i))) := by
  rw [nearsU, List.getD_eq_getElem?_getD, List.getElem?_map, ruleAt_get ls h6 hi]; rfl
theorem bits_of (h6 : ls.length = 6) : Bits (zR ls) (pR ls) (eR ls) (ddup (pairsN (asksU ls) (belsU ls))) (nearsU ls) where
  nlt := fun i => by
    by_cases hi : i < 6
    · rw [near_at ls h6 hi]; exact (mask_bits (by rw [List.length_map]; exact h6)).1
    · rw [List.getD_eq_getElem?_getD, List.getElem?_eq_none (by rw [nearsU, List.length_map]; omega)]; decide
  mlt := fun m hm => by
    rw [mem_ddup', pairsN, List.mem_flatMap] at hm
    obtain ⟨a, ha, hm⟩ := hm
    obtain ⟨b, hb, rfl⟩ := List.mem_map.mp hm
    obtain ⟨l, hl, rfl⟩ := List.mem_map.mp ha
    exact Nat.lt_of_le_of_lt Nat.and_le_left (mask_bits (by rw [List.length_map]; exact h6)).1
  nb := fun i hi k hk => by
    rw [near_at ls h6 hi, map_bit ls h6 _ hk]
    unfold meetL Meet zR pR eR
    simp only [Bool.and_eq_true, Bool.or_eq_true, decide_eq_true_eq]
    constructor
    · rintro ⟨a, b, c⟩; exact ⟨a, b.symm, c.symm⟩
    · rintro ⟨a, b, c⟩; exact ⟨a, b.symm, c.symm⟩
  mc := fun m hm => by
    rw [mem_ddup', pairsN, List.mem_flatMap] at hm
    obtain ⟨a, ha, hm⟩ := hm
    obtain ⟨b, hb, rfl⟩ := List.mem_map.mp hm
    obtain ⟨l, hl, rfl⟩ := List.mem_map.mp ha
    obtain ⟨o, ho, rfl⟩ := List.mem_map.mp hb
    obtain ⟨i, hi, rfl⟩ := at_mem ls h6 hl
    obtain ⟨j, hj, rfl⟩ := at_mem ls h6 ho
    refine ⟨i, j, fun k hk h => ?_⟩
    rw [Nat.testBit_and, map_bit ls h6 _ hk, map_bit ls h6 _ hk, Bool.and_eq_true] at h
    obtain ⟨h1, h2⟩ := h
    simp only [upathL, Bool.and_eq_true, decide_eq_true_eq] at h2
    exact ⟨h1, h2.1.symm, h2.2⟩
  mm := fun i hi j hj => by
    refine ⟨maskU (ls.map fun o => holdsL o.zn (ruleAt ls i).zn) &&& maskU (ls.map fun p => upathL p (ruleAt ls j)), ?_, fun k hk h => ?_⟩
    · rw [mem_ddup', pairsN, List.mem_flatMap]
      exact ⟨_, List.mem_map.mpr ⟨_, ruleAt_mem ls h6 i, rfl⟩, List.mem_map.mpr ⟨_, List.mem_map.mpr ⟨_, ruleAt_mem ls h6 j, rfl⟩, rfl⟩⟩
    · rw [Nat.testBit_and, map_bit ls h6 _ hk, map_bit ls h6 _ hk, Bool.and_eq_true]
      refine ⟨h.1, ?_⟩
      simp only [upathL, Bool.and_eq_true, decide_eq_true_eq]
      exact ⟨h.2.1.symm, h.2.2⟩
theorem plain_law (h6 : ls.length = 6) (hok : ∀ l ∈ ls, l.Ok) : feT (ddup (pairsN (asksU ls) (belsU ls))) 63 = moT (nearsU ls) 63 := tables (rel_of ls h6 hok) (bits_of ls h6)
theorem near_self (h6 : ls.length = 6) (hok : ∀ l ∈ ls, l.Ok) : ∀ f, f < 6 → ((nearsU ls).getD f 0).testBit f = true := fun f hf => ((bits_of ls h6).nb f hf f hf).mpr (Meet.self (rel_of ls h6 hok) f)
end
end Mine
end
section
open PySem PySem.W PySem.Calls PyProof.Rows
set_option maxRecDepth 100000
namespace Mine
def lblL (k : Nat) : List Nat := match k with | 0 => [97] | 1 => [108, 111, 99, 97, 108] | _ => [98, 97]
def pieL (k : Nat) : List Nat := match k with | 0 => [97] | 1 => [65] | _ => [97, 98]
def topL (k : Nat) : List Nat := if k > 4 then (match k - 5 with | 0 => [111, 114, 103] | 1 => [99, 111, 109] | _ => [55]) else [108, 111, 99, 97, 108]
theorem lbl_L : ∀ k, k < 3 → lblN k = ofL (lblL k) := by decide +kernel
theorem pie_L : ∀ k, k < 3 → pieN k = ofL (pieL k) := by decide +kernel
theorem top_L : ∀ k, k < 8 → topN k = ofL (topL k) := by decide +kernel
theorem nil_L2 : (("" : String) : Str) = ofL [] := by decide +kernel
def ruleL (m : Nat) : RL := { host := (hostF m).map lblL ++ [topL (figAt m 0)], steps := (stepF m).map pieL ++ (if figAt m 8 = 1 then [([] : List Nat)] else []), au := if figAt m 9 = 0 then "g" else "gg" }
theorem rule_L (m : Nat) : ruleN m = (ruleL m).toR := by
  unfold ruleN ruleL RL.toR
  have h0 : figAt m 0 < 8 := fig_lt m 0
  congr 1
  · rw [hostN, List.map_append, List.map_map, top_L _ h0]
    congr 1
    refine List.map_congr_left fun k hk => ?_
    exact lbl_L k (hostF_lt hk)
  · rw [stepN, List.map_append, List.map_map]
    congr 1
    · refine List.map_congr_left fun k hk => ?_
      exact pie_L k (stepF_lt hk)
    · split
      · rw [List.map_cons, List.map_nil, nil_L2]
      · rfl
theorem fronts_chk : (List.range 3).all (fun n => (List.range 3).all fun a => (List.range 3).all fun b => (List.range 3).all fun c => frontsL.contains ((([a, b, c] : List Nat).take (1 + n)).map lblL)) = true := by decide +kernel
theorem tops_chk : (List.range 8).all (fun t => topsL.contains (topL t)) = true := by decide +kernel
theorem runs_chk : (List.range 3).all (fun n => (List.range 3).all fun a => (List.range 3).all fun b => runsL.contains ((([a, b] : List Nat).take n).map pieL)) = true := by decide +kernel
theorem host_mem (m : Nat) : (ruleL m).host ∈ hostsL := by
  have h0 : figAt m 0 < 8 := fig_lt m 0
  have h1 : figAt m 1 < 3 := fig_lt m 1
  have h2 : figAt m 2 < 3 := fig_lt m 2
  have h3 : figAt m 3 < 3 := fig_lt m 3
  have h4 : figAt m 4 < 3 := fig_lt m 4
  have e : hostF m = ([figAt m 2, figAt m 3, figAt m 4] : List Nat).take (1 + figAt m 1) := by
    rw [hostF_eq]
    generalize figAt m 1 = f at h1
    match f, h1 with
    | 0, _ => rfl
    | 1, _ => rfl
    | 2, _ => rfl
  have c := List.all_eq_true.mp (List.all_eq_true.mp (List.all_eq_true.mp (List.all_eq_true.mp fronts_chk _ (List.mem_range.mpr h1)) _ (List.mem_range.mpr h2)) _ (List.mem_range.mpr h3)) _ (List.mem_range.mpr h4)
  have t := List.all_eq_true.mp tops_chk _ (List.mem_range.mpr h0)
  rw [List.contains_iff_mem] at c t
  show (hostF m).map lblL ++ [topL (figAt m 0)] ∈ hostsL
  rw [e, hostsL, List.mem_flatMap]
  exact ⟨_, c, List.mem_map.mpr ⟨_, t, rfl⟩⟩
theorem step_mem (m : Nat) : (ruleL m).steps ∈ stepsL := by
  have h5 : figAt m 5 < 3 := fig_lt m 5
  have h6 : figAt m 6 < 3 := fig_lt m 6
  have h7 : figAt m 7 < 3 := fig_lt m 7
  have e : stepF m = ([figAt m 6, figAt m 7] : List Nat).take (figAt m 5) := by
    rw [stepF_eq]
    generalize figAt m 5 = f at h5
    match f, h5 with
    | 0, _ => rfl
    | 1, _ => rfl
    | 2, _ => rfl
  have c := List.all_eq_true.mp (List.all_eq_true.mp (List.all_eq_true.mp runs_chk _ (List.mem_range.mpr h5)) _ (List.mem_range.mpr h6)) _ (List.mem_range.mpr h7)
  rw [List.contains_iff_mem] at c
  show (stepF m).map pieL ++ (if figAt m 8 = 1 then [([] : List Nat)] else []) ∈ stepsL
  rw [e, stepsL, List.mem_append]
  split
  · exact .inr (List.mem_map.mpr ⟨_, c, rfl⟩)
  · rw [List.append_nil]; exact .inl c
theorem au_ok : PyData.strOk (Str.ofString "g") = true ∧ PyData.strOk (Str.ofString "gg") = true := by decide +kernel
theorem rule_ok (m : Nat) : (ruleL m).Ok := by
  refine ⟨host_mem m, step_mem m, ?_⟩
  show PyData.strOk (if figAt m 9 = 0 then Str.ofString "g" else Str.ofString "gg") = true
  split
  · exact au_ok.1
  · exact au_ok.2
def rulesL (ns : List Int) : List RL := (cellsAt ns ns.length).map fun c => ruleL (cellM c)
theorem rules_L (ns : List Int) : rulesN ns = (rulesL ns).map RL.toR := by
  rw [rulesN, rulesL, List.map_map]
  exact List.map_congr_left fun c _ => rule_L _
theorem rulesL_len (ns : List Int) : (rulesL ns).length = 6 := by rw [rulesL, List.length_map, cellsAt_len]
theorem rulesL_ok (ns : List Int) : ∀ l ∈ rulesL ns, l.Ok := fun l hl => by
  obtain ⟨c, _, rfl⟩ := List.mem_map.mp hl
  exact rule_ok _
end Mine
end
section
open PySem PySem.W PySem.Calls PyProof.Rows
set_option maxRecDepth 100000
namespace Mine
theorem newEnv_one {M : Model} {A : Around} {E : Value → Shared → Prop} {s : Shared} {scope : Scope} {globals : Addr} {x : Str} {v : Value} {qual : Str} {func : Option Addr} {code : Value} {builtins : Addr} {Q : Env → Shared → Prop}
    (hk : scope.kind = .function) (hl : scope.names.lookup x = some .local)
    (hQ : ∀ env, env = newEnv scope s.heap.objs.size globals (cellsFrom (s.heap.objs.size + 1) scope.names []) qual func code none builtins →
      ∀ s', InCallC s env.locals (bindL env.kindOf [(x, v)] fun _ => none) env.cells (bindC env.kindOf [(x, v)] fun _ => none) s' → 0 < s'.toks → Q env s') :
    wpAny M A (newFunctionEnv scope globals [] [(x, v)] qual func code none builtins) Q E s := by
  have h0 := wpAny_newFunctionEnv_cells (M := M) (A := A) (E := E) (s := s) (scope := scope) (globals := globals) (binds := []) (qual := qual) (func := func) (code := code) (builtins := builtins)
    (Q := fun env s' => wpAny M A (storeName env x v) (fun _ s'' => Q env s'') E s') hk (fun _ h => (nomatch h)) fun env he s' X => by
      subst he
      have hl' : (newEnv scope s.heap.objs.size globals (cellsFrom (s.heap.objs.size + 1) scope.names []) qual func code none builtins).kindOf x = some .local := hl
      refine wpAny_storeName_local hl X.toInCall.ns (fun h' hn hs => hQ _ rfl _ ⟨⟨?_, ?_, fun b o e => ?_, X.toInCall.fresh⟩, fun k c hc => ?_, X.apart, X.above⟩ (Nat.succ_pos _)) (by show (scope.kind == .class || (scope.kind == .module && _)) = false; rw [hk]; rfl)
      · obtain ⟨h₁, tk, e⟩ := X.toInCall.same
        exact ⟨h', s'.toks + 1, by rw [e]⟩
      · have : bindL (newEnv scope s.heap.objs.size globals (cellsFrom (s.heap.objs.size + 1) scope.names []) qual func code none builtins).kindOf [(x, v)] (fun _ => none) = fun y => if y = x then some v else none := by
          unfold bindL bindL
          rw [if_pos hl']
        rw [this]
        exact hn
      · exact hs.extBut b o (Nat.ne_of_lt (Nat.lt_of_lt_of_le (Heap.lt_size e) X.toInCall.fresh)) (X.toInCall.keep b o e)
      · have : bindC (newEnv scope s.heap.objs.size globals (cellsFrom (s.heap.objs.size + 1) scope.names []) qual func code none builtins).kindOf [(x, v)] (fun _ => none) = fun _ => none := by
          unfold bindC bindC
          rw [if_pos hl']
        rw [this]
        exact (X.cell k c hc).sameBut hs (Nat.ne_of_gt (X.above k c (mem_of_lookup hc)))
  have e : newFunctionEnv scope globals [] [(x, v)] qual func code none builtins = (newFunctionEnv scope globals [] [] qual func code none builtins >>= fun env => storeName env x v >>= fun _ => pure env) := by
    unfold newFunctionEnv
    simp only [Option.isSome_none, Bool.false_eq_true, if_false, List.forIn_cons, List.forIn_nil, bind_assoc, pure_bind]
  rw [e]
  exact wpAny_bind (wpAny_mono h0 (fun env s' h => wpAny_bind (wpAny_mono h (fun _ s'' h' => wpAny_pure h') fun _ _ q => q)) fun _ _ q => q)
section
variable {prog : Program} {w : World} {hb : Heap} {mg mb : Str → Option Value} {n : Nat}
/-- a call of one parameter, whatever the tokens before it -/
theorem call_one {a : Addr} {st : Stmt} {p : Str} {d1 d : D} (W : Wd hb mg mb) (h : FnAt hb a st [p]) (hx : ∀ q c L, XJ prog w hb n (envS st q c L a) [(p, d1)] [] (bodyOf st) (.ret d))
    (hp : (scopeOf st).names.lookup p = some .local) (hco : (scopeOf st).isCoroutine = false) (hgen : (scopeOf st).isGenerator = false) (hk : (scopeOf st).kind = .function) :
    ∀ A, Amb (n + 1) A → ∀ s F, Sub F s.heap → LeF (FMap.of hb) F → ∀ v, In F v d1 → ∀ E, wpAny (model prog w) A (call (.ref a) [v]) (fun r s' => ∃ F', Ext s F s' F' ∧ In F' r d) E s := by
  intro A hA s F S B v iv E
  obtain ⟨o, fd, ho, hd, hcd, hbody, hclo, hsc, hg, hbt, hbind⟩ := h
  have keep : ∀ b o, hb.get? b = some o → s.heap.get? b = some o := fun b o e => S b o (B b o e)
  have room : A.depth < recursionLimit := by have := hA.depth; omega
  refine wpAny_call (codeAny_call_function room (keep _ _ ho) hd (by rw [hsc]; exact hco) (by rw [hsc]; exact hgen) hbody (hcd.keeps keep) ?_)
  rw [hbind [v] rfl, hclo]
  refine wpAny_pure (wpAny_toksE (newEnv_one (by rw [hsc]; exact hk) (by rw [hsc]; exact hp) fun env he s₁ x htk ht => ?_))
  subst he
  refine ⟨(W.nolimit.keeps keep).keeps x.toInCall.keep, codeAny_func ?_⟩
  have e : callEnvC fd s.heap.objs.size a = envS st fd.qualname fd.code s.heap.objs.size a := by
    unfold callEnvC newEnv envS
    rw [hsc, hg, hbt]
  have x' : InCallC { s with toks := 1 } (callEnvC fd s.heap.objs.size a).locals (bindL (callEnvC fd s.heap.objs.size a).kindOf (([p] : List Str).zip [v]) fun _ => none) (callEnvC fd s.heap.objs.size a).cells (bindC (callEnvC fd s.heap.objs.size a).kindOf (([p] : List Str).zip [v]) fun _ => none) s₁ := by
    refine ⟨⟨?_, x.toInCall.ns, x.toInCall.keep, x.toInCall.fresh⟩, x.cell, x.apart, x.above⟩
    obtain ⟨h₁, tk, e⟩ := x.toInCall.same
    exact ⟨h₁, tk, e⟩
  have ent := Fm.enter (hb := hb) (s := { s with toks := 1 }) (env := callEnvC fd s.heap.objs.size a) (ps := [p]) (vs := [v]) (ds := [d1]) S B Nat.one_pos (.cons iv .nil) (List.nodup_cons.mpr ⟨fun h => (nomatch h), List.nodup_nil⟩) rfl htk x' (fun y hy => by
    rw [List.mem_singleton.mp hy]
    left
    show fd.scope.names.lookup p = some .local
    rw [hsc]; exact hp)
  obtain ⟨h₁, tk, es⟩ := x.toInCall.same
  have ext : Ext s F s₁ F := Ext.of_keeps S es (by rw [es] at x; exact x.toInCall.keep) (by rw [es] at ht; exact ht)
  have hx' := hx fd.qualname fd.code s.heap.objs.size
  rw [← e] at hx'
  refine wpAny_mono (hx' (A.deeper (callEnvC fd s.heap.objs.size a)) (hA.deeper _) _ s₁ F ent.1 _) (fun fl s' h' => ?_) fun _ _ e => e
  obtain ⟨F', gr, r, rfl, i⟩ := h'
  exact ⟨F', ext.trans' gr, i⟩
end
end Mine
end
section
open PySem PySem.W PySem.Calls PyProof.Rows
set_option maxRecDepth 100000
namespace Mine
/-- what the written part says of a def -/
def fdOf (K : Frag) (a : Addr) : Option FuncData := match K.lookup a with
  | some ⟨_, _, .func fd, _⟩ => some fd
  | _ => none
def bareV : Value → Bool
  | .none => true
  | _ => false
def paramsOf : Stmt → Arguments
  | .FunctionDef _ a _ _ _ _ _ _ _ _ => a
  | _ => default
theorem fnAt_K {K : Frag} {h : Heap} (X : K.In h) {a : Addr} {st : Stmt} {ps : List Str} (h1 : (fdOf K a).map (·.body) = some (.stmts (bodyOf st))) (h2 : (fdOf K a).map (·.scope) = some (scopeOf st)) (h3 : (fdOf K a).map (·.params) = some (paramsOf st))
    (h4 : (fdOf K a).any (fun fd => codeIn K fd.code fd.qualname && (fd.closure.isEmpty && (fd.globals == mainGlobals && (fd.builtins == builtinsNs && (bareV fd.defaults && bareV fd.kwdefaults))))) = true)
    (hbind : ∀ fd : FuncData, fd.params = paramsOf st → fd.defaults = .none → fd.kwdefaults = .none → ∀ vs : List Value, vs.length = ps.length → bindArgs fd ⟨vs, []⟩ = pure (ps.zip vs)) : FnAt h a st ps := by
  cases hf : fdOf K a with
  | none => rw [hf] at h1; cases h1
  | some fd =>
    rw [hf] at h1 h2 h3 h4
    have ho : ∃ c d s, K.lookup a = some ⟨c, d, .func fd, s⟩ := by
      unfold fdOf at hf
      split at hf
      · rename_i c d f s e
        injection hf with hf
        exact ⟨c, d, s, hf ▸ e⟩
      · cases hf
    obtain ⟨c, d, s, ho⟩ := ho
    simp only [Option.map_some, Option.some.injEq] at h1 h2 h3
    simp only [Option.any_some, Bool.and_eq_true, beq_iff_eq, List.isEmpty_iff] at h4
    obtain ⟨q1, q2, q3, q4, q5, q6⟩ := h4
    have d1 : fd.defaults = .none := by cases hd : fd.defaults <;> rw [hd] at q5 <;> first | rfl | cases q5
    have d2 : fd.kwdefaults = .none := by cases hd : fd.kwdefaults <;> rw [hd] at q6 <;> first | rfl | cases q6
    exact ⟨_, fd, X a _ ho, rfl, codeRec_of X q1, h1, q2, h2, q3, q4, hbind fd h3 d1 d2⟩
def fieldsOf (K : Frag) (a : Addr) : Option (Array Value) := match K.lookup a with
  | some ⟨_, _, .fields fs, _⟩ => some fs
  | _ => none
def seqOf (K : Frag) (a : Addr) : Option (Array Value) := match K.lookup a with
  | some ⟨_, _, .seq xs _, _⟩ => some xs
  | _ => none
open PySem.Builtin PySem.Builtin.Re in
theorem ipAt_K {K : Frag} {h : Heap} (X : K.In h) (h1 : (K.lookup 43).map (·.cls) = some (.type "re.Pattern")) (h2 : (K.lookup 43).map (·.dict) = some none) (h3 : (fieldsOf K 43).map (fun fs => fs.getD 5 .none) = some (.ref 42)) (h4 : (fieldsOf K 43).map (fun fs => reRawNat (fs.getD 6 .none)) = some 0)
    (h5 : (fieldsOf K 43).map (fun fs => reRawNat (fs.getD 2 .none)) = some 0) (h6 : (seqOf K 42).map (fun xs => (xs.map reRawOf).map (·.toNat)) = some ipc) : IpAt h := by
  cases hf : fieldsOf K 43 with
  | none => rw [hf] at h3; cases h3
  | some fs =>
    cases hs : seqOf K 42 with
    | none => rw [hs] at h6; cases h6
    | some xs =>
      rw [hf] at h3 h4 h5
      rw [hs] at h6
      unfold fieldsOf at hf
      unfold seqOf at hs
      split at hf
      · rename_i c d f s e
        injection hf with hf
        split at hs
        · rename_i c' d' f' n' s' e'
          injection hs with hs
          rw [e] at h1 h2
          simp only [Option.map_some, Option.some.injEq] at h1 h2 h3 h4 h5 h6
          exact ⟨_, fs, _, xs, n', X 43 _ e, h1, h2, hf ▸ rfl, h3, h4, h5, X 42 _ e', hs ▸ rfl, h6⟩
        · cases hs
      · cases hf
end Mine
end
section
open PySem PySem.W PySem.Calls PyProof.Rows
set_option maxRecDepth 100000
namespace Mine
/-- a def's parameters take the arguments, one each -/
def Binds (st : Stmt) (ps : List Str) : Prop := ∀ fd : FuncData, fd.params = paramsOf st → fd.defaults = .none → fd.kwdefaults = .none → ∀ vs : List Value, vs.length = ps.length → bindArgs fd ⟨vs, []⟩ = pure (ps.zip vs)
theorem binds50 : Binds (pst 4) ["text"] := fun fd h1 h2 h3 vs hv => by
  obtain ⟨nm, qn, pr, bd, sc, gl, cl, df, kd, dc, pm, an, cd, ct, bt⟩ := fd
  simp only at h1 h2 h3
  subst h1 h2 h3
  match vs, hv with
  | [v0], _ => rfl
theorem binds57 : Binds (pst 5) ["text"] := fun fd h1 h2 h3 vs hv => by
  obtain ⟨nm, qn, pr, bd, sc, gl, cl, df, kd, dc, pm, an, cd, ct, bt⟩ := fd
  simp only at h1 h2 h3
  subst h1 h2 h3
  match vs, hv with
  | [v0], _ => rfl
theorem binds64 : Binds (pst 6) ["A", "B"] := fun fd h1 h2 h3 vs hv => by
  obtain ⟨nm, qn, pr, bd, sc, gl, cl, df, kd, dc, pm, an, cd, ct, bt⟩ := fd
  simp only at h1 h2 h3
  subst h1 h2 h3
  match vs, hv with
  | [v0, v1], _ => rfl
theorem binds71 : Binds (pst 7) ["h"] := fun fd h1 h2 h3 vs hv => by
  obtain ⟨nm, qn, pr, bd, sc, gl, cl, df, kd, dc, pm, an, cd, ct, bt⟩ := fd
  simp only at h1 h2 h3
  subst h1 h2 h3
  match vs, hv with
  | [v0], _ => rfl
theorem binds126 : Binds (pst 11) ["script"] := fun fd h1 h2 h3 vs hv => by
  obtain ⟨nm, qn, pr, bd, sc, gl, cl, df, kd, dc, pm, an, cd, ct, bt⟩ := fd
  simp only at h1 h2 h3
  subst h1 h2 h3
  match vs, hv with
  | [v0], _ => rfl
theorem binds133 : Binds (pst 12) ["rule"] := fun fd h1 h2 h3 vs hv => by
  obtain ⟨nm, qn, pr, bd, sc, gl, cl, df, kd, dc, pm, an, cd, ct, bt⟩ := fd
  simp only at h1 h2 h3
  subst h1 h2 h3
  match vs, hv with
  | [v0], _ => rfl
theorem binds140 : Binds (pst 13) ["rule", "other"] := fun fd h1 h2 h3 vs hv => by
  obtain ⟨nm, qn, pr, bd, sc, gl, cl, df, kd, dc, pm, an, cd, ct, bt⟩ := fd
  simp only at h1 h2 h3
  subst h1 h2 h3
  match vs, hv with
  | [v0, v1], _ => rfl
theorem binds145 : Binds (pst 14) ["rule", "other"] := fun fd h1 h2 h3 vs hv => by
  obtain ⟨nm, qn, pr, bd, sc, gl, cl, df, kd, dc, pm, an, cd, ct, bt⟩ := fd
  simp only at h1 h2 h3
  subst h1 h2 h3
  match vs, hv with
  | [v0, v1], _ => rfl
theorem binds152 : Binds (pst 15) ["rule", "other"] := fun fd h1 h2 h3 vs hv => by
  obtain ⟨nm, qn, pr, bd, sc, gl, cl, df, kd, dc, pm, an, cd, ct, bt⟩ := fd
  simp only at h1 h2 h3
  subst h1 h2 h3
  match vs, hv with
  | [v0, v1], _ => rfl
theorem binds157 : Binds (pst 16) ["answers"] := fun fd h1 h2 h3 vs hv => by
  obtain ⟨nm, qn, pr, bd, sc, gl, cl, df, kd, dc, pm, an, cd, ct, bt⟩ := fd
  simp only at h1 h2 h3
  subst h1 h2 h3
  match vs, hv with
  | [v0], _ => rfl
theorem binds162 : Binds (pst 17) ["script"] := fun fd h1 h2 h3 vs hv => by
  obtain ⟨nm, qn, pr, bd, sc, gl, cl, df, kd, dc, pm, an, cd, ct, bt⟩ := fd
  simp only at h1 h2 h3
  subst h1 h2 h3
  match vs, hv with
  | [v0], _ => rfl
theorem binds114 : Binds (methSt 9 4) ["self", "base", "test"] := fun fd h1 h2 h3 vs hv => by
  obtain ⟨nm, qn, pr, bd, sc, gl, cl, df, kd, dc, pm, an, cd, ct, bt⟩ := fd
  simp only at h1 h2 h3
  subst h1 h2 h3
  match vs, hv with
  | [v0, v1, v2], _ => rfl
theorem binds85 : Binds (methSt 9 0) ["self"] := fun fd h1 h2 h3 vs hv => by
  obtain ⟨nm, qn, pr, bd, sc, gl, cl, df, kd, dc, pm, an, cd, ct, bt⟩ := fd
  simp only at h1 h2 h3
  subst h1 h2 h3
  match vs, hv with
  | [v0], _ => rfl
theorem inAll_ints {F : FMap} : ∀ {vs : List Value} {ns : List Int}, IntsAre vs ns → InAll F vs (ns.map D.int)
  | _, _, .nil => .nil
  | _, _, .cons i t r => .cons (.int i t) (inAll_ints r)
theorem amb_caller : Amb 6 callerA := ⟨rfl, by decide +kernel, by decide +kernel⟩
theorem five {mg : Str → Option Value} (h1 : mg "range" = none) (h2 : mg "len" = none) (h3 : mg "sum" = none) (h4 : mg "min" = none) (h5 : mg "max" = none) : ∀ x ∈ (["range", "len", "sum", "min", "max"] : List Str), mg x = none := fun x hx => by
  rcases List.mem_cons.mp hx with rfl | hx
  · exact h1
  rcases List.mem_cons.mp hx with rfl | hx
  · exact h2
  rcases List.mem_cons.mp hx with rfl | hx
  · exact h3
  rcases List.mem_cons.mp hx with rfl | hx
  · exact h4
  rw [List.mem_singleton.mp hx]
  exact h5
end Mine
end
open PySem PySem.W PySem.Calls PyProof.Rows Mine
set_option maxHeartbeats 8000000 in
set_option maxRecDepth 100000 in
theorem PySem.Challenge.cw_wn0071_01_holds : PySem.Challenge.rw_wn0071_01.Holds := by
  w_on
  o_law
  k_head
  (case hw => w_witness2)
  intro w s₀ s₁ mg mb G Y fa o pm cd doc dV kV ho hd' hcd hD hmg hg args vals as hpre hlay hrd hwl hlo
  have KX := kIn_of Y
  have T := G.T
  have e1 : mg "law" = some (.ref 162) := mg_of KX T.g (by kernel_rfl)
  have e3 : some (Value.ref fa) = some (Value.ref 162) := hmg.symm.trans e1
  injection e3 with e3
  have f50 := fnAt_K KX (a := 50) (st := pst 4) (ps := ["text"]) (by kernel_rfl) (by kernel_rfl) (by kernel_rfl) (by kernel_rfl) binds50
  have f57 := fnAt_K KX (a := 57) (st := pst 5) (ps := ["text"]) (by kernel_rfl) (by kernel_rfl) (by kernel_rfl) (by kernel_rfl) binds57
  have f64 := fnAt_K KX (a := 64) (st := pst 6) (ps := ["A", "B"]) (by kernel_rfl) (by kernel_rfl) (by kernel_rfl) (by kernel_rfl) binds64
  have f71 := fnAt_K KX (a := 71) (st := pst 7) (ps := ["h"]) (by kernel_rfl) (by kernel_rfl) (by kernel_rfl) (by kernel_rfl) binds71
  have f126 := fnAt_K KX (a := 126) (st := pst 11) (ps := ["script"]) (by kernel_rfl) (by kernel_rfl) (by kernel_rfl) (by kernel_rfl) binds126
  have f133 := fnAt_K KX (a := 133) (st := pst 12) (ps := ["rule"]) (by kernel_rfl) (by kernel_rfl) (by kernel_rfl) (by kernel_rfl) binds133
  have f140 := fnAt_K KX (a := 140) (st := pst 13) (ps := ["rule", "other"]) (by kernel_rfl) (by kernel_rfl) (by kernel_rfl) (by kernel_rfl) binds140
  have f145 := fnAt_K KX (a := 145) (st := pst 14) (ps := ["rule", "other"]) (by kernel_rfl) (by kernel_rfl) (by kernel_rfl) (by kernel_rfl) binds145
  have f152 := fnAt_K KX (a := 152) (st := pst 15) (ps := ["rule", "other"]) (by kernel_rfl) (by kernel_rfl) (by kernel_rfl) (by kernel_rfl) binds152
  have f157 := fnAt_K KX (a := 157) (st := pst 16) (ps := ["answers"]) (by kernel_rfl) (by kernel_rfl) (by kernel_rfl) (by kernel_rfl) binds157
  have f162 := fnAt_K KX (a := 162) (st := pst 17) (ps := ["script"]) (by kernel_rfl) (by kernel_rfl) (by kernel_rfl) (by kernel_rfl) binds162
  have f114 := fnAt_K KX (a := 114) (st := methSt 9 4) (ps := ["self", "base", "test"]) (by kernel_rfl) (by kernel_rfl) (by kernel_rfl) (by kernel_rfl) binds114
  have f85 := fnAt_K KX (a := 85) (st := methSt 9 0) (ps := ["self"]) (by kernel_rfl) (by kernel_rfl) (by kernel_rfl) (by kernel_rfl) binds85
  have B : Bs s₁.heap mg mb := ⟨⟨T.g, T.b, T.nolimit, T.builtins⟩, five (mg_none_of KX T.g (by kernel_rfl)) (mg_none_of KX T.g (by kernel_rfl)) (mg_none_of KX T.g (by kernel_rfl)) (mg_none_of KX T.g (by kernel_rfl)) (mg_none_of KX T.g (by kernel_rfl)),
    f50, mg_of KX T.g (by kernel_rfl),
    f57, mg_of KX T.g (by kernel_rfl),
    f64, mg_of KX T.g (by kernel_rfl),
    f71, mg_of KX T.g (by kernel_rfl),
    f126, mg_of KX T.g (by kernel_rfl),
    f133, mg_of KX T.g (by kernel_rfl),
    f140, mg_of KX T.g (by kernel_rfl),
    f145, mg_of KX T.g (by kernel_rfl),
    f152, mg_of KX T.g (by kernel_rfl),
    f157, mg_of KX T.g (by kernel_rfl),
    mg_of KX T.g (by kernel_rfl), mg_of KX T.g (by kernel_rfl)⟩
  have I := ipAt_K KX (by kernel_rfl) (by kernel_rfl) (by kernel_rfl) (by kernel_rfl) (by kernel_rfl) (by kernel_rfl)
  have k := Kc.mk (fI := 85) (fS := 114) KX (by kernel_rfl) (by kernel_rfl) (by kernel_rfl) (by kernel_rfl) (by kernel_rfl) (by kernel_rfl) (by kernel_rfl) (by kernel_rfl) (by kernel_rfl) (by kernel_rfl) (by kernel_rfl) (by kernel_rfl) f114 f85
  clear ho hd' hcd hD hmg e1 G Y KX T f50 f57 f64 f71 f126 f133 f140 f145 f152 f157 f114 f85
  wrow_args hpre hlay hrd hwl hlo
  rename_i ns _ _ _ _ _ _ _ la vs _ hL ra w1 r0 hI hr hc1 hc2
  obtain ⟨oa, ha, hac, n, hda⟩ := id hL
  have hn : ns.length ≤ 63 := by omega
  have hcall := call_one (prog := PySem.Challenge.pw_wn0071_01) (w := w) (n := 5) (d1 := .list (ns.map D.int)) (d := .bool true) B.W f162 (fun q c L => law_body B I k q c L ns hn (rulesL ns) (rulesL_len ns) (rulesL_ok ns) (rules_L ns) (near_self (rulesL ns) (rulesL_len ns) (rulesL_ok ns)) (plain_law (rulesL ns) (rulesL_len ns) (rulesL_ok ns)))
    rfl rfl rfl rfl callerA amb_caller s₁ (FMap.of s₁.heap) (fun _ _ e => e) (LeF.refl _) (.ref la) (.list ⟨oa, ha, hac, n, hda⟩ (inAll_ints hI))
  rw [e3]
  refine wpAny_mono (hcall _) (fun r s' h' => ?_) fun _ _ q => q
  obtain ⟨F', ⟨⟨h', tk, rfl⟩, keep, _, _, _, _⟩, ⟨⟩⟩ := h'
  refine GoodW.toG ⟨.inl ⟨_, _, [], rfl, fun cls => rfl, ReadsW.bool true, ?_, fun _ => ⟨List.nodup_nil, fun _ hm => (nomatch hm)⟩⟩, keep, rfl, hg⟩
  first | rfl | wrow_post
