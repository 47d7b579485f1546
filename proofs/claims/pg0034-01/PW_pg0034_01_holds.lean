import PyProof.Rows.All
import Wide.All
import OpenK.AllK
import Wide.FinOn
import PySem.Challenge.RW_pg0034_01
set_option Elab.async false
noncomputable section -- L1
open PySem PySem.W PyProof.Rows
set_option maxRecDepth 100000
set_option linter.unusedVariables false
namespace Mine

/-! heaps -/
def Ext (h h' : Heap) : Prop := ∀ b o, h.get? b = some o → h'.get? b = some o
theorem Ext.refl (h : Heap) : Ext h h := fun _ _ e => e
theorem Ext.trans {a b c : Heap} (x : Ext a b) (y : Ext b c) : Ext a c := fun p o e => y p o (x p o e)
theorem Ext.push (h : Heap) (o : Obj) : Ext h (h.push o) := fun _ _ e => Heap.get?_push_of_some o e

/-- all of h but what lies at W -/
def Stay (W : List Addr) (h h' : Heap) : Prop := ∀ b o, b ∉ W → h.get? b = some o → h'.get? b = some o
theorem Ext.stay {h h' : Heap} (W : List Addr) (x : Ext h h') : Stay W h h' := fun b o _ e => x b o e
theorem Stay.refl (W : List Addr) (h : Heap) : Stay W h h := fun _ _ _ e => e
theorem Stay.trans {W : List Addr} {a b c : Heap} (x : Stay W a b) (y : Stay W b c) : Stay W a c := fun p o w e => y p o w (x p o w e)
theorem Stay.mono {W W' : List Addr} {a b : Heap} (x : Stay W a b) (hs : ∀ p ∈ W, p ∈ W') : Stay W' a b := fun p o w e => x p o (fun q => w (hs p q)) e
theorem Stay.of_same {a : Addr} {W : List Addr} {h h' : Heap} (x : Heap.SameBut a h h') (ha : a ∈ W) : Stay W h h' := fun b o w e => (x.2 b (fun q => w (q ▸ ha))).trans e

def Live (h : Heap) (W : List Addr) : Prop := ∀ b ∈ W, ∃ o, h.get? b = some o
theorem Live.ext {h h' : Heap} {W : List Addr} (x : Live h W) (e : Ext h h') : Live h' W := fun b hb => let ⟨o, ho⟩ := x b hb; ⟨o, e b o ho⟩
theorem Live.new {h : Heap} {W : List Addr} (x : Live h W) : h.objs.size ∉ W := fun m => let ⟨_, ho⟩ := x _ m; Nat.lt_irrefl _ (Heap.lt_size ho)

/-! data -/
inductive D where
  | none
  | bool (b : Bool)
  | int (i : Int)
  | str (x : Str)
  | tup (ds : List D)
  | lst (ds : List D)
  | dS (ks : List Str) (ds : List D)
  | dI (ks : List Int) (ds : List D)
  | raw (v : Value)

section
variable (prog : Program) (w : World)
mutual
inductive Rp (h : Heap) (W : List Addr) : Value → D → Prop
  | none : Rp h W Value.none D.none
  | bool (b : Bool) : Rp h W (Value.bool b) (D.bool b)
  | int (i : Int) (t : Tok) : Rp h W (Value.int i t) (D.int i)
  | str (x : Str) (t : Tok) : Rp h W (Value.str x t) (D.str x)
  | tup {a : Addr} {vs : List Value} {ds : List D} : h.IsTuple a vs.toArray → a ∉ W → RpL h W vs ds → Rp h W (Value.ref a) (D.tup ds)
  | lst {a : Addr} {vs : List Value} {ds : List D} : h.IsList a vs.toArray → a ∉ W → RpL h W vs ds → Rp h W (Value.ref a) (D.lst ds)
  | dS {a : Addr} {ks : List Str} {vs : List Value} {ds : List D} : h.DictOf (strKind prog w) a (ks.zip vs) → ks.length = vs.length → (a == sysModules) = false → a ∉ W → RpL h W vs ds → Rp h W (Value.ref a) (D.dS ks ds)
  | dI {a : Addr} {ks : List Int} {vs : List Value} {ds : List D} : h.DictOf (intKind prog w) a (ks.zip vs) → ks.length = vs.length → (a == sysModules) = false → a ∉ W → RpL h W vs ds → Rp h W (Value.ref a) (D.dI ks ds)
  | raw (v : Value) : Rp h W v (D.raw v)
inductive RpL (h : Heap) (W : List Addr) : List Value → List D → Prop
  | nil : RpL h W [] []
  | cons {v : Value} {vs : List Value} {d : D} {ds : List D} : Rp h W v d → RpL h W vs ds → RpL h W (v :: vs) (d :: ds)
end
end

section
variable {prog : Program} {w : World}
mutual
theorem Rp.stay {h h' : Heap} {W : List Addr} (x : Stay W h h') : ∀ {v : Value} {d : D}, Rp prog w h W v d → Rp prog w h' W v d
  | _, _, .none => .none
  | _, _, .bool b => .bool b
  | _, _, .int i t => .int i t
  | _, _, .str i t => .str i t
  | _, _, .tup ⟨o, ho, r⟩ hw hl => .tup ⟨o, x _ _ hw ho, r⟩ hw (RpL.stay x hl)
  | _, _, .lst ⟨o, ho, r⟩ hw hl => .lst ⟨o, x _ _ hw ho, r⟩ hw (RpL.stay x hl)
  | _, _, .dS ⟨o, es, ep, ho, r⟩ hn hm hw hl => .dS ⟨o, es, ep, x _ _ hw ho, r⟩ hn hm hw (RpL.stay x hl)
  | _, _, .dI ⟨o, es, ep, ho, r⟩ hn hm hw hl => .dI ⟨o, es, ep, x _ _ hw ho, r⟩ hn hm hw (RpL.stay x hl)
  | _, _, .raw v => .raw v
theorem RpL.stay {h h' : Heap} {W : List Addr} (x : Stay W h h') : ∀ {vs : List Value} {ds : List D}, RpL prog w h W vs ds → RpL prog w h' W vs ds
  | _, _, .nil => .nil
  | _, _, .cons a b => .cons (Rp.stay x a) (RpL.stay x b)
end
theorem Rp.ext {h h' : Heap} {W : List Addr} (x : Ext h h') {v : Value} {d : D} (r : Rp prog w h W v d) : Rp prog w h' W v d := Rp.stay (x.stay W) r
theorem RpL.ext {h h' : Heap} {W : List Addr} (x : Ext h h') {v : List Value} {d : List D} (r : RpL prog w h W v d) : RpL prog w h' W v d := RpL.stay (x.stay W) r
mutual
/-- fewer or other addresses that may change: W' ∌ what h has and W has not -/
theorem Rp.turn {h : Heap} {W W' : List Addr} (x : ∀ b o, h.get? b = some o → b ∉ W → b ∉ W') : ∀ {v : Value} {d : D}, Rp prog w h W v d → Rp prog w h W' v d
  | _, _, .none => .none
  | _, _, .bool b => .bool b
  | _, _, .int i t => .int i t
  | _, _, .str i t => .str i t
  | _, _, .tup ⟨o, ho, r⟩ hw hl => .tup ⟨o, ho, r⟩ (x _ _ ho hw) (RpL.turn x hl)
  | _, _, .lst ⟨o, ho, r⟩ hw hl => .lst ⟨o, ho, r⟩ (x _ _ ho hw) (RpL.turn x hl)
  | _, _, .dS ⟨o, es, ep, ho, r⟩ hn hm hw hl => .dS ⟨o, es, ep, ho, r⟩ hn hm (x _ _ ho hw) (RpL.turn x hl)
  | _, _, .dI ⟨o, es, ep, ho, r⟩ hn hm hw hl => .dI ⟨o, es, ep, ho, r⟩ hn hm (x _ _ ho hw) (RpL.turn x hl)
  | _, _, .raw v => .raw v
theorem RpL.turn {h : Heap} {W W' : List Addr} (x : ∀ b o, h.get? b = some o → b ∉ W → b ∉ W') : ∀ {vs : List Value} {ds : List D}, RpL prog w h W vs ds → RpL prog w h W' vs ds
  | _, _, .nil => .nil
  | _, _, .cons a b => .cons (Rp.turn x a) (RpL.turn x b)
end
theorem Rp.less {h : Heap} {W W' : List Addr} (x : ∀ b ∈ W', b ∈ W) {v : Value} {d : D} (r : Rp prog w h W v d) : Rp prog w h W' v d := Rp.turn (fun b _ _ q z => q (x b z)) r
theorem RpL.less {h : Heap} {W W' : List Addr} (x : ∀ b ∈ W', b ∈ W) {v : List Value} {d : List D} (r : RpL prog w h W v d) : RpL prog w h W' v d := RpL.turn (fun b _ _ q z => q (x b z)) r
/-- a new address may be added -/
theorem Rp.more {h : Heap} {W : List Addr} {n : Addr} (hn : h.get? n = Option.none) {v : Value} {d : D} (r : Rp prog w h W v d) : Rp prog w h (n :: W) v d :=
  Rp.turn (fun b o e q z => by
    rcases List.mem_cons.mp z with rfl | z
    · rw [hn] at e; cases e
    · exact q z) r
theorem RpL.more {h : Heap} {W : List Addr} {n : Addr} (hn : h.get? n = Option.none) {v : List Value} {d : List D} (r : RpL prog w h W v d) : RpL prog w h (n :: W) v d :=
  RpL.turn (fun b o e q z => by
    rcases List.mem_cons.mp z with rfl | z
    · rw [hn] at e; cases e
    · exact q z) r
theorem RpL.length {h : Heap} {W : List Addr} : ∀ {vs : List Value} {ds : List D}, RpL prog w h W vs ds → vs.length = ds.length
  | _, _, .nil => rfl
  | _, _, .cons _ b => by rw [List.length_cons, List.length_cons, RpL.length b]
theorem RpL.get {h : Heap} {W : List Addr} : ∀ {vs : List Value} {ds : List D}, RpL prog w h W vs ds → ∀ {i : Nat} {d : D}, ds[i]? = some d → ∃ v, vs[i]? = some v ∧ Rp prog w h W v d
  | _, _, .nil, i, d, e => by simp at e
  | _, _, .cons a b, i, d, e => by
    cases i with
    | zero => simp at e; subst e; exact ⟨_, by simp, a⟩
    | succ i => simp at e ⊢; exact RpL.get b e
theorem RpL.get' {h : Heap} {W : List Addr} : ∀ {vs : List Value} {ds : List D}, RpL prog w h W vs ds → ∀ {i : Nat} {v : Value}, vs[i]? = some v → ∃ d, ds[i]? = some d ∧ Rp prog w h W v d
  | _, _, .nil, i, d, e => by simp at e
  | _, _, .cons a b, i, d, e => by
    cases i with
    | zero => simp at e; subst e; exact ⟨_, by simp, a⟩
    | succ i => simp at e ⊢; exact RpL.get' b e
theorem RpL.set {h : Heap} {W : List Addr} {u : Value} {e : D} (r : Rp prog w h W u e) : ∀ {vs : List Value} {ds : List D}, RpL prog w h W vs ds → ∀ (i : Nat), RpL prog w h W (vs.set i u) (ds.set i e)
  | _, _, .nil, i => by simpa using RpL.nil
  | _, _, .cons a b, i => by
    cases i with
    | zero => exact .cons r b
    | succ i => exact .cons a (RpL.set r b i)
theorem RpL.append {h : Heap} {W : List Addr} {us : List Value} {es : List D} (r : RpL prog w h W us es) : ∀ {vs : List Value} {ds : List D}, RpL prog w h W vs ds → RpL prog w h W (vs ++ us) (ds ++ es)
  | _, _, .nil => r
  | _, _, .cons a b => .cons a (RpL.append r b)
theorem RpL.drop {h : Heap} {W : List Addr} : ∀ (n : Nat) {vs : List Value} {ds : List D}, RpL prog w h W vs ds → RpL prog w h W (vs.drop n) (ds.drop n)
  | 0, _, _, r => r
  | _ + 1, _, _, .nil => .nil
  | n + 1, _, _, .cons _ b => RpL.drop n b
theorem RpL.take {h : Heap} {W : List Addr} : ∀ (n : Nat) {vs : List Value} {ds : List D}, RpL prog w h W vs ds → RpL prog w h W (vs.take n) (ds.take n)
  | 0, _, _, _ => .nil
  | _ + 1, _, _, .nil => .nil
  | n + 1, _, _, .cons a b => .cons a (RpL.take n b)
theorem Rp.int_inv {h : Heap} {W : List Addr} {v : Value} {i : Int} (r : Rp prog w h W v (.int i)) : ∃ t, v = .int i t := by cases r; exact ⟨_, rfl⟩
theorem Rp.str_inv {h : Heap} {W : List Addr} {v : Value} {i : Str} (r : Rp prog w h W v (.str i)) : ∃ t, v = .str i t := by cases r; exact ⟨_, rfl⟩
theorem Rp.bool_inv {h : Heap} {W : List Addr} {v : Value} {i : Bool} (r : Rp prog w h W v (.bool i)) : v = .bool i := by cases r; rfl
theorem Rp.tup_inv {h : Heap} {W : List Addr} {v : Value} {ds : List D} (r : Rp prog w h W v (.tup ds)) : ∃ a vs, v = .ref a ∧ h.IsTuple a vs.toArray ∧ a ∉ W ∧ RpL prog w h W vs ds := by cases r; exact ⟨_, _, rfl, by assumption, by assumption, by assumption⟩
theorem Rp.lst_inv {h : Heap} {W : List Addr} {v : Value} {ds : List D} (r : Rp prog w h W v (.lst ds)) : ∃ a vs, v = .ref a ∧ h.IsList a vs.toArray ∧ a ∉ W ∧ RpL prog w h W vs ds := by cases r; exact ⟨_, _, rfl, by assumption, by assumption, by assumption⟩
theorem Rp.dS_inv {h : Heap} {W : List Addr} {v : Value} {ks : List Str} {ds : List D} (r : Rp prog w h W v (.dS ks ds)) : ∃ a vs, v = .ref a ∧ h.DictOf (strKind prog w) a (ks.zip vs) ∧ ks.length = vs.length ∧ (a == sysModules) = false ∧ a ∉ W ∧ RpL prog w h W vs ds := by cases r; exact ⟨_, _, rfl, by assumption, by assumption, by assumption, by assumption, by assumption⟩
theorem Rp.dI_inv {h : Heap} {W : List Addr} {v : Value} {ks : List Int} {ds : List D} (r : Rp prog w h W v (.dI ks ds)) : ∃ a vs, v = .ref a ∧ h.DictOf (intKind prog w) a (ks.zip vs) ∧ ks.length = vs.length ∧ (a == sysModules) = false ∧ a ∉ W ∧ RpL prog w h W vs ds := by cases r; exact ⟨_, _, rfl, by assumption, by assumption, by assumption, by assumption, by assumption⟩
theorem Rp.raw_inv {h : Heap} {W : List Addr} {v u : Value} (r : Rp prog w h W v (.raw u)) : v = u := by cases r; rfl
/-- a list of ints -/
theorem RpL.ints {h : Heap} {W : List Addr} : ∀ {ns : List Int} {vs : List Value}, RpL prog w h W vs (ns.map D.int) → IntsAre vs ns := by
  intro ns
  induction ns with
  | nil => intro vs r; cases r; exact .nil
  | cons n ns ih => intro vs r; cases r with | cons a b => cases a; exact .cons _ _ (ih b)
end

/-! around -/
structure AOk (n : Nat) (A : Around) : Prop where
  hd : A.handled = none
  dp : A.depth + n < recursionLimit
  un : A.units + 50 * n < cLine
theorem AOk.lower {n : Nat} {A : Around} (x : AOk (n + 1) A) : AOk n A := ⟨x.hd, by have := x.dp; omega, by have := x.un; omega⟩
theorem AOk.in1 {n : Nat} {A : Around} (x : AOk (n + 1) A) : AOk n A.in1 := ⟨x.hd, by have := x.dp; show A.depth + n < _; omega, by have := x.un; show A.units + 1 + 50 * n < _; omega⟩
theorem AOk.deeper {n : Nat} {A : Around} (x : AOk (n + 1) A) (env : Env) : AOk n (A.deeper env) := ⟨x.hd, by have := x.dp; show A.depth + 1 + n < _; omega, by have := x.un; show A.units + 3 + 50 * n < _; omega⟩

section
variable (prog : Program) (w : World)
/-- in every heap that extends h₀: e gives d and only extends the heap -/
def Ex (n : Nat) (env : Env) (e : Expr) (h₀ : Heap) (W : List Addr) (d : D) : Prop :=
  ∀ (A : Around) (s : Shared) (Q : Value → Shared → Prop) (E : Value → Shared → Prop), AOk n A → Live h₀ W → Ext h₀ s.heap →
    (∀ v h' tk, Ext s.heap h' → Rp prog w h' W v d → Q v { s with heap := h', toks := tk }) → wpAny (model prog w) A (eval e env) Q E s
/-- a test -/
def Tx (n : Nat) (env : Env) (e : Expr) (h₀ : Heap) (b : Bool) : Prop :=
  ∀ (A : Around) (s : Shared) (Q : Bool → Shared → Prop) (E : Value → Shared → Prop), AOk n A → Ext h₀ s.heap →
    (∀ h' tk, Ext s.heap h' → Q b { s with heap := h', toks := tk }) → wpAny (model prog w) A (isTrue e env (eval e env)) Q E s
/-- a name's value -/
def Ld (env : Env) (h₀ : Heap) (x : Str) (v : Value) : Prop :=
  ∀ (A : Around) (s : Shared) (Q : Value → Shared → Prop) (E : Value → Shared → Prop), Ext h₀ s.heap → Q v s → wpAny (model prog w) A (loadName env x) Q E s
/-- a call -/
def Cl (n : Nat) (h₀ : Heap) (f : Value) (ds : List D) (d : D) : Prop :=
  ∀ (A : Around) (s : Shared) (W : List Addr) (vs : List Value) (Q : Value → Shared → Prop) (E : Value → Shared → Prop), AOk n A → Live s.heap W → Ext h₀ s.heap → RpL prog w s.heap W vs ds →
    (∀ v h' tk, Ext s.heap h' → Rp prog w h' W v d → Q v { s with heap := h', toks := tk }) → wpAny (model prog w) A (call f vs) Q E s
end
section
variable {prog : Program} {w : World} {n : Nat} {env : Env} {h₀ h₁ : Heap} {W : List Addr}
theorem Ex.up {e : Expr} {d : D} (x : Ex prog w n env e h₀ W d) (hW : Live h₀ W) (y : Ext h₀ h₁) : Ex prog w n env e h₁ W d := fun A s Q E hA _ hx k => x A s Q E hA hW (y.trans hx) k
theorem Ld.up {x : Str} {v : Value} (l : Ld prog w env h₀ x v) (y : Ext h₀ h₁) : Ld prog w env h₁ x v := fun A s Q E hx k => l A s Q E (y.trans hx) k
theorem Tx.up {e : Expr} {b : Bool} (x : Tx prog w n env e h₀ b) (y : Ext h₀ h₁) : Tx prog w n env e h₁ b := fun A s Q E hA hx k => x A s Q E hA (y.trans hx) k
theorem Cl.up {f : Value} {ds : List D} {d : D} (x : Cl prog w n h₀ f ds d) (y : Ext h₀ h₁) : Cl prog w n h₁ f ds d := fun A s W vs Q E hA hL hx hr k => x A s W vs Q E hA hL (y.trans hx) hr k
theorem Cl.lower {f : Value} {ds : List D} {d : D} (x : Cl prog w n h₀ f ds d) : Cl prog w (n + 1) h₀ f ds d := fun A s W vs Q E hA => x A s W vs Q E hA.lower
theorem Ex.lower {e : Expr} {d : D} (x : Ex prog w n env e h₀ W d) : Ex prog w (n + 1) env e h₀ W d := fun A s Q E hA => x A s Q E hA.lower

theorem ex_name {x : Str} {pos : Pos} {v : Value} {d : D} (l : Ld prog w env h₀ x v) (r : Rp prog w h₀ W v d) (hd : (x == ("__debug__" : Str)) = false := by decide) : Ex prog w n env (.Name x pos) h₀ W d :=
  fun A s Q E _ _ hx k => wpAny_Name (l A s _ _ hx (k v s.heap s.toks (Ext.refl _) (r.ext hx))) hd
theorem ex_int {i : Int} {k : Nat} {pos : Pos} : Ex prog w n env (.Constant (.int i) k pos) h₀ W (.int i) :=
  fun _ s _ _ _ _ _ k => wpAny_Constant_int (k _ s.heap _ (Ext.refl _) (.int _ _))
theorem ex_str {x : Str} {k : Nat} {pos : Pos} : Ex prog w n env (.Constant (.str x) k pos) h₀ W (.str x) :=
  fun _ s _ _ _ _ _ k => wpAny_Constant_str (k _ s.heap _ (Ext.refl _) (.str _ _))

/-- two values, then an operation that reads them -/
theorem ex_bin {l r : Expr} {op : Operator} {pos : Pos} {a b d : D} (hl : Ex prog w n env l h₀ W a) (hr : Ex prog w n env r h₀ W b)
    (ho : ∀ (A : Around) (s : Shared) (u v : Value) (Q : Value → Shared → Prop) (E : Value → Shared → Prop), AOk n A → Live s.heap W → Ext h₀ s.heap → Rp prog w s.heap W u a → Rp prog w s.heap W v b →
      (∀ v h' tk, Ext s.heap h' → Rp prog w h' W v d → Q v { s with heap := h', toks := tk }) → wpAny (model prog w) A (binaryOp op u v) Q E s) : Ex prog w n env (.BinOp l op r pos) h₀ W d :=
  fun A s Q E hA hW hx k => wpAny_BinOp (hl A s _ _ hA hW hx fun u h1 t1 x1 r1 => hr A _ _ _ hA hW (hx.trans x1) fun v h2 t2 x2 r2 =>
    ho A _ u v _ _ hA (hW.ext (hx.trans (x1.trans x2))) (hx.trans (x1.trans x2)) (r1.ext x2) r2 fun y h3 t3 x3 r3 => k y h3 t3 ((Ext.trans x1 x2).trans x3) r3)
theorem ex_binI {l r : Expr} {op : Operator} {pos : Pos} {a b c : Int} (hl : Ex prog w n env l h₀ W (.int a)) (hr : Ex prog w n env r h₀ W (.int b))
    (ho : ∀ (A : Around) (s : Shared) (t u : Tok) (Q : Value → Shared → Prop) (E : Value → Shared → Prop), Q (.int c s.toks) { s with toks := s.toks + 1 } → wpAny (model prog w) A (binaryOp op (.int a t) (.int b u)) Q E s) :
    Ex prog w n env (.BinOp l op r pos) h₀ W (.int c) :=
  ex_bin hl hr fun A s u v Q E _ _ _ ru rv k => by
    obtain ⟨t, rfl⟩ := ru.int_inv
    obtain ⟨t', rfl⟩ := rv.int_inv
    exact ho A s t t' Q E (k _ s.heap _ (Ext.refl _) (.int _ _))
theorem ex_add {l r : Expr} {pos : Pos} {a b : Int} (hl : Ex prog w n env l h₀ W (.int a)) (hr : Ex prog w n env r h₀ W (.int b)) : Ex prog w n env (.BinOp l .Add r pos) h₀ W (.int (a + b)) := ex_binI hl hr fun _ _ _ _ _ _ k => add_int k
theorem ex_sub {l r : Expr} {pos : Pos} {a b : Int} (hl : Ex prog w n env l h₀ W (.int a)) (hr : Ex prog w n env r h₀ W (.int b)) : Ex prog w n env (.BinOp l .Sub r pos) h₀ W (.int (a - b)) := ex_binI hl hr fun _ _ _ _ _ _ k => sub_int k
theorem ex_mul {l r : Expr} {pos : Pos} {a b : Int} (hl : Ex prog w n env l h₀ W (.int a)) (hr : Ex prog w n env r h₀ W (.int b)) (hm : IntMulOk a b) : Ex prog w n env (.BinOp l .Mult r pos) h₀ W (.int (a * b)) := ex_binI hl hr fun _ _ _ _ _ _ k => mul_int k hm
theorem ex_mod {l r : Expr} {pos : Pos} {a b : Int} (hl : Ex prog w n env l h₀ W (.int a)) (hr : Ex prog w n env r h₀ W (.int b)) (hb : b ≠ 0) : Ex prog w n env (.BinOp l .Mod r pos) h₀ W (.int (a.fmod b)) := ex_binI hl hr fun _ _ _ _ _ _ k => mod_int' hb k
theorem ex_fdiv {l r : Expr} {pos : Pos} {a b : Int} (hl : Ex prog w n env l h₀ W (.int a)) (hr : Ex prog w n env r h₀ W (.int b)) (hb : b ≠ 0) (hp : Builtin.divisionGoesByPylong a b = false) : Ex prog w n env (.BinOp l .FloorDiv r pos) h₀ W (.int (a.fdiv b)) := ex_binI hl hr fun _ _ _ _ _ _ k => floordiv_int hb k (.inl hp)
theorem ex_and {l r : Expr} {pos : Pos} {a b : Int} (hl : Ex prog w n env l h₀ W (.int a)) (hr : Ex prog w n env r h₀ W (.int b)) : Ex prog w n env (.BinOp l .BitAnd r pos) h₀ W (.int (Builtin.bitAnd a b)) := ex_binI hl hr fun _ _ _ _ _ _ k => and_int k
theorem ex_xor {l r : Expr} {pos : Pos} {a b : Int} (hl : Ex prog w n env l h₀ W (.int a)) (hr : Ex prog w n env r h₀ W (.int b)) : Ex prog w n env (.BinOp l .BitXor r pos) h₀ W (.int (Builtin.bitXor a b)) := ex_binI hl hr fun _ _ _ _ _ _ k => xor_int k
theorem ex_rshift {l r : Expr} {pos : Pos} {a b : Int} (hl : Ex prog w n env l h₀ W (.int a)) (hr : Ex prog w n env r h₀ W (.int b)) (hb : 0 ≤ b) : Ex prog w n env (.BinOp l .RShift r pos) h₀ W (.int (a.fdiv (2 ^ b.toNat))) := ex_binI hl hr fun _ _ _ _ _ _ k => rshift_int hb k
theorem ex_lshift {l r : Expr} {pos : Pos} {a b : Int} (hl : Ex prog w n env l h₀ W (.int a)) (hr : Ex prog w n env r h₀ W (.int b)) (hb : 0 ≤ b) (hs : (Builtin.Int.intBits a : Int) + b ≤ 2 ^ 27) : Ex prog w n env (.BinOp l .LShift r pos) h₀ W (.int (a * 2 ^ b.toNat)) := ex_binI hl hr fun _ _ _ _ _ _ k => lshift_int hb hs k
end
end Mine
end
noncomputable section -- L2
open PySem PySem.W PyProof.Rows
set_option maxRecDepth 100000
set_option linter.unusedVariables false
namespace Mine
section
variable {prog : Program} {w : World} {n : Nat} {env : Env} {h₀ h₁ : Heap} {W : List Addr}
theorem ex_pow {l r : Expr} {pos : Pos} {a b : Int} (hl : Ex prog w n env l h₀ W (.int a)) (hr : Ex prog w n env r h₀ W (.int b)) (hb : 0 ≤ b) (hs : (Builtin.Int.intBits a : Int) * b ≤ 2 ^ 27) : Ex prog w n env (.BinOp l .Pow r pos) h₀ W (.int (a ^ b.toNat)) := ex_binI hl hr fun _ _ _ _ _ _ k => pow_int hb hs k
theorem ex_neg {x : Expr} {pos : Pos} {a : Int} (hl : Ex prog w n env x h₀ W (.int a)) : Ex prog w n env (.UnaryOp .USub x pos) h₀ W (.int (-a)) :=
  fun A s Q E hA hW hx k => wpAny_UnaryOp (hl A s _ _ hA hW hx fun u h1 t1 x1 r1 => by
    obtain ⟨t, rfl⟩ := r1.int_inv
    exact neg_int (k _ h1 _ x1 (.int _ _)))

/-- several expressions -/
noncomputable def ExL (prog : Program) (w : World) (n : Nat) (env : Env) (h₀ : Heap) (W : List Addr) : List Expr → List D → Prop
  | [], [] => True
  | e :: es, d :: ds => (starEach (e :: es) env = (false, eval e env) :: starEach es env) ∧ Ex prog w n env e h₀ W d ∧ ExL prog w n env h₀ W es ds
  | _, _ => False
theorem ExL.nil : ExL prog w n env h₀ W [] [] := trivial
theorem ExL.cons {e : Expr} {es : List Expr} {d : D} {ds : List D} (x : Ex prog w n env e h₀ W d) (y : ExL prog w n env h₀ W es ds) (hs : starEach (e :: es) env = (false, eval e env) :: starEach es env := by rfl) : ExL prog w n env h₀ W (e :: es) (d :: ds) := ⟨hs, x, y⟩
theorem ExL.run : ∀ {es : List Expr} {ds : List D}, ExL prog w n env h₀ W es ds → ∀ (A : Around) (s : Shared) (pos : Pos) (Q : List Value → Shared → Prop) (E : Value → Shared → Prop), AOk n A → Live h₀ W → Ext h₀ s.heap →
    (∀ vs h' tk, Ext s.heap h' → RpL prog w h' W vs ds → Q vs { s with heap := h', toks := tk }) → wpAny (model prog w) A (spliced (backTo pos (starEach es env))) Q E s
  | [], [], _, A, s, pos, Q, E, hA, hW, hx, k => wpAny_items_nil (k [] s.heap s.toks (Ext.refl _) .nil)
  | e :: es, d :: ds, ⟨hs, x, y⟩, A, s, pos, Q, E, hA, hW, hx, k => wpAny_items_cons (x A s _ _ hA hW hx fun v h1 t1 x1 r1 => ExL.run y A _ pos _ _ hA hW (hx.trans x1) fun vs h2 t2 x2 r2 => k (v :: vs) h2 t2 (x1.trans x2) (.cons (r1.ext x2) r2)) hs
theorem ExL.noStar : ∀ {es : List Expr} {ds : List D}, ExL prog w n env h₀ W es ds → ∀ pos, (backTo pos (starEach es env)).any (·.1) = false
  | [], [], _, pos => rfl
  | e :: es, d :: ds, ⟨hs, x, y⟩, pos => by
    rw [hs]
    show (false || (backTo pos (starEach es env)).any (·.1)) = false
    rw [ExL.noStar y pos]; rfl
theorem rp_tup_new {h : Heap} {vs : List Value} {ds : List D} (hW : Live h W) (r : RpL prog w h W vs ds) : Rp prog w (h.push { cls := .type "tuple", data := .seq vs.toArray }) W (.ref h.objs.size) (.tup ds) :=
  .tup (IsTup.new _ _) hW.new (r.ext (Ext.push _ _))
theorem rp_lst_new {h : Heap} {vs : List Value} {ds : List D} (hW : Live h W) (r : RpL prog w h W vs ds) : Rp prog w (h.push { cls := .type "list", data := .seq vs.toArray }) W (.ref h.objs.size) (.lst ds) :=
  .lst ⟨_, Heap.get?_push_size _ rfl, rfl, _, rfl⟩ hW.new (r.ext (Ext.push _ _))
theorem ex_tuple {es : List Expr} {ds : List D} {k : Nat} {pos : Pos} (x : ExL prog w n env h₀ W es ds) (hl : ds.length ≤ sizeLine := by first | decide | (simp only [List.length_cons, List.length_nil]; decide)) : Ex prog w n env (.Tuple es k pos) h₀ W (.tup ds) :=
  fun A s Q E hA hW hx k => wpAny_Tuple (x.run A s _ _ _ hA hW hx fun vs h1 t1 x1 r1 => ⟨r1.length ▸ hl, k _ _ t1 (x1.trans (Ext.push _ _)) (rp_tup_new (hW.ext (hx.trans x1)) r1)⟩)
theorem ex_list {es : List Expr} {ds : List D} {pos : Pos} (x : ExL prog w n env h₀ W es ds) (hl : ds.length ≤ sizeLine := by first | decide | (simp only [List.length_cons, List.length_nil]; decide)) : Ex prog w n env (.List es pos) h₀ W (.lst ds) :=
  fun A s Q E hA hW hx k => wpAny_List (x.run A s _ _ _ hA hW hx fun vs h1 t1 x1 r1 => ⟨r1.length ▸ hl, k _ _ t1 (x1.trans (Ext.push _ _)) (rp_lst_new (hW.ext (hx.trans x1)) r1)⟩)

/-- o[i], whatever they are -/
theorem ex_subscript {value slice : Expr} {pos : Pos} {a b d : D} (hv : Ex prog w n env value h₀ W a) (hs : Ex prog w n env slice h₀ W b)
    (ho : ∀ (A : Around) (s : Shared) (u v : Value) (Q : Value → Shared → Prop) (E : Value → Shared → Prop), AOk n A → Live s.heap W → Ext h₀ s.heap → Rp prog w s.heap W u a → Rp prog w s.heap W v b →
      (∀ v h' tk, Ext s.heap h' → Rp prog w h' W v d → Q v { s with heap := h', toks := tk }) → wpAny (model prog w) A (subscriptTail value slice u v) Q E s) : Ex prog w n env (.Subscript value slice pos) h₀ W d :=
  fun A s Q E hA hW hx k => Subscript_ (hv A s _ _ hA hW hx fun u h1 t1 x1 r1 => hs A _ _ _ hA hW (hx.trans x1) fun v h2 t2 x2 r2 =>
    ho A _ u v _ _ hA (hW.ext (hx.trans (x1.trans x2))) (hx.trans (x1.trans x2)) (r1.ext x2) r2 fun y h3 t3 x3 r3 => k y h3 t3 ((Ext.trans x1 x2).trans x3) r3)
theorem ex_item {value slice : Expr} {pos : Pos} {ds : List D} {k : Int} {d : D} (hv : Ex prog w n env value h₀ W (.lst ds)) (hs : Ex prog w n env slice h₀ W (.int k)) (h0 : 0 ≤ k) (hk : k < 2 ^ 63) (hd : ds[k.toNat]? = some d)
    (hp : ∀ o i, subscripted slice false o i = operate [o, i] (getItem o i) := by intro _ _; rfl) : Ex prog w n env (.Subscript value slice pos) h₀ W d :=
  ex_subscript hv hs fun A s u v Q E _ _ _ ru rv k => by
    obtain ⟨a, vs, rfl, hl, _, rl⟩ := ru.lst_inv
    obtain ⟨t, rfl⟩ := rv.int_inv
    obtain ⟨x, hx, rx⟩ := rl.get hd
    exact tail_any hl.typeIs slot_list_getitem.lookup (wpAny_getItem_list hl h0 hk (by simpa using hx) (k x s.heap s.toks (Ext.refl _) rx)) (hp _ _)
theorem ex_place {value slice : Expr} {pos : Pos} {ds : List D} {k : Int} {d : D} (hv : Ex prog w n env value h₀ W (.tup ds)) (hs : Ex prog w n env slice h₀ W (.int k)) (h0 : 0 ≤ k) (hk : k < 2 ^ 63) (hd : ds[k.toNat]? = some d)
    (hp : ∀ o i, subscripted slice false o i = operate [o, i] (getItem o i) := by intro _ _; rfl) : Ex prog w n env (.Subscript value slice pos) h₀ W d :=
  ex_subscript hv hs fun A s u v Q E _ _ _ ru rv kk => by
    obtain ⟨a, vs, rfl, hl, _, rl⟩ := ru.tup_inv
    obtain ⟨t, rfl⟩ := rv.int_inv
    obtain ⟨x, hx, rx⟩ := rl.get hd
    refine tail_any (Heap.IsTuple.typeIs hl) slot_tuple_getitem.lookup (getItem_tuple hl (by omega) hk (j := k.toNat) ?_ (by simpa using hx) (kk x s.heap s.toks (Ext.refl _) rx)) (hp _ _)
    have hlt : k.toNat < vs.length := (List.getElem?_eq_some_iff.mp hx).1
    have e1 : ¬ (k < 0) := by omega
    have e2 : k < (vs.length : Int) := by omega
    simp [seqIndex?, e1, h0, e2]

/-- t[lo:hi] -/
theorem getItem_tuple_cut {A : Around} {E : Value → Shared → Prop} {s : Shared} {t sl : Addr} {items : Array Value} {vl vu : Value} {lo hi : Option Int} {Q : Value → Shared → Prop} (ht : IsTup s.heap t items) (hs : s.heap.IsSliceOf sl vl vu .none)
    (pl : (vl = .none ∧ lo = none) ∨ ∃ i u, vl = .int i u ∧ lo = some i) (pu : (vu = .none ∧ hi = none) ∨ ∃ i u, vu = .int i u ∧ hi = some i) {a b : Int} {k : Nat}
    (hadj : Builtin.Slice.sliceAdjust lo hi 1 (items.size : Int) = (a, b)) (hpl : Builtin.Slice.slicePlaces a b 1 = k) (hno : (a == 0 && (1 : Int) == 1 && k == items.size) = false) {ys : List Value}
    (hys : ((List.range k).filterMap fun (j : Nat) => items[(a + (j : Int) * 1).toNat]?) = ys) (hsz : ys.length ≤ sizeLine)
    (h : Q (.ref s.heap.objs.size) { s with heap := s.heap.push { cls := .type "tuple", data := .seq ys.toArray } }) : wpAny (model prog w) A (getItem (.ref t) (.ref sl)) Q E s := by
  have hdrop : sizeOk (.seq ys.toArray) := by
    show ys.toArray.size ≤ sizeLine
    rw [List.size_toArray]; exact hsz
  obtain ⟨os, hos, hcs, hds⟩ := id hs
  have hTs : s.TypeIs (.ref sl) "slice" := ⟨os, hos, hcs⟩
  unfold getItem
  try with_reducible refine wpAny_holding ?_
  first | refine wpAny_bind (wpAny_pure ?_) | skip
  refine wpAny_bind (wpAny_sequenceKey ht.typeIs (by decide) ?_)
  refine wpAny_bind (wpAny_callSpecial?_slot (name := Str.ofString "__getitem__") ht.typeIs slot_tuple_getitem
    (wpAny_call_entry slot_tuple_getitem ht.typeIs entry_tuple_getitem ?_ (args_tuple_getitem _ _)))
  show wpAny _ _ (Builtin.Tuple.tupleItemsOf (.ref t) >>= _) _ _ s
  refine wpAny_bind (tupleItemsOf_ ht ?_)
  refine wpAny_bind (wpAny_typeOf hTs ?_)
  rw [if_pos (by decide)]
  have app : wpAny (model prog w) A.in1 (Builtin.Slice.sliceApplied (.ref sl) (pure (items.size : Int))) (fun x s' => x = (a, (1 : Int), k) ∧ s' = s) E s := by
    unfold Builtin.Slice.sliceApplied Builtin.Slice.sliceFields
    refine wpAny_bind (wpAny_bind (wpAny_field hos hds (x := vl) rfl (wpAny_bind (wpAny_field hos hds (x := vu) rfl (wpAny_bind (wpAny_field hos hds (x := .none) rfl (wpAny_pure ?_)))))))
    refine wpAny_bind (slicePart_none ?_)
    show wpAny _ _ (if ((1 : Int) == 0) = true then _ else _) _ _ s
    rw [if_neg (by decide)]
    have p1 : ∀ {v : Value} {o : Option Int} {Q : Option Int → Shared → Prop}, ((v = .none ∧ o = none) ∨ ∃ i u, v = .int i u ∧ o = some i) → Q o s → wpAny (model prog w) A.in1 (Builtin.Slice.slicePartIndex v) Q E s := by
      intro v o Q hv hq
      rcases hv with ⟨rfl, rfl⟩ | ⟨i, u, rfl, rfl⟩
      · exact slicePart_none hq
      · exact slicePart_int hq
    refine wpAny_bind (p1 pl (wpAny_bind (p1 pu (wpAny_bind (wpAny_pure ?_)))))
    show wpAny _ _ (match Builtin.Slice.sliceAdjust lo hi 1 (items.size : Int) with | (lo, hi) => pure (lo, (1 : Int), Builtin.Slice.slicePlaces lo hi 1)) _ _ s
    rw [hadj]
    show wpAny _ _ (pure (a, (1 : Int), Builtin.Slice.slicePlaces a b 1)) _ _ s
    rw [hpl]
    exact wpAny_pure ⟨rfl, rfl⟩
  refine wpAny_bind (wpAny_mono app (fun x s' e => ?_) fun _ _ e => e)
  obtain ⟨rfl, rfl⟩ := e
  show wpAny _ _ (if (a == 0 && (1 : Int) == 1 && k == items.size) = true then _ else _) _ _ _
  rw [if_neg (by rw [hno]; exact Bool.false_ne_true), hys]
  first
    | exact wpAny_bind (m := Builtin.Tuple.tupleExact _) (wpAny_newObj_type (wpAny_pure ⟨_, rfl, wpAny_pure h⟩) hdrop)
    | exact wpAny_bind (m := Builtin.Tuple.tupleExact _) (wpAny_newObj_type (wpAny_bind (wpAny_pure (wpAny_pure ⟨_, rfl, wpAny_pure h⟩))) hdrop)
    | exact wpAny_bind (wpAny_bind (m := Builtin.Tuple.tupleExact _) (wpAny_newObj_type (wpAny_pure (wpAny_pure ⟨_, rfl, wpAny_pure h⟩)) hdrop))
    | exact wpAny_bind (wpAny_bind (m := Builtin.Tuple.tupleExact _) (wpAny_newObj_type (wpAny_pure ⟨_, rfl, wpAny_pure h⟩) hdrop))

theorem RpL.places {h : Heap} {vs : List Value} {ds : List D} (r : RpL prog w h W vs ds) : ∀ js : List Nat, RpL prog w h W (js.filterMap (vs[·]?)) (js.filterMap (ds[·]?))
  | [] => .nil
  | j :: js => by
    have ih := RpL.places r js
    cases hn : ds[j]? with
    | some d =>
      obtain ⟨v, hv, rv⟩ := r.get hn
      simp only [List.filterMap_cons, hn, hv]
      exact .cons rv ih
    | none =>
      have hv : vs[j]? = none := by
        rw [List.getElem?_eq_none_iff] at hn ⊢
        rw [r.length]; exact hn
      simp only [List.filterMap_cons, hn, hv]
      exact ih
/-- a bound of a slice -/
def Bd (prog : Program) (w : World) (n : Nat) (env : Env) (h₀ : Heap) (W : List Addr) (e : Option Expr) (i : Option Int) : Prop := (e = none ∧ i = none) ∨ ∃ x k, e = some x ∧ i = some k ∧ Ex prog w n env x h₀ W (.int k)
theorem Bd.none : Bd prog w n env h₀ W none none := .inl ⟨rfl, rfl⟩
theorem Bd.some {x : Expr} {k : Int} (e : Ex prog w n env x h₀ W (.int k)) : Bd prog w n env h₀ W (some x) (some k) := .inr ⟨x, k, rfl, rfl, e⟩
theorem Bd.run {e : Option Expr} {i : Option Int} (b : Bd prog w n env h₀ W e i) (A : Around) (s : Shared) (Q : Value → Shared → Prop) (E : Value → Shared → Prop) (hA : AOk n A) (hW : Live h₀ W) (hx : Ext h₀ s.heap)
    (k : ∀ v h' tk, Ext s.heap h' → ((v = .none ∧ i = Option.none) ∨ ∃ j u, v = .int j u ∧ i = Option.some j) → Q v { s with heap := h', toks := tk }) : wpAny (model prog w) A (evalPart e env) Q E s := by
  rcases b with ⟨rfl, rfl⟩ | ⟨x, j, rfl, rfl, ex⟩
  · exact wpAny_pure (k .none s.heap s.toks (Ext.refl _) (.inl ⟨rfl, rfl⟩))
  · exact ex A s _ _ hA hW hx fun v h1 t1 x1 r1 => by
      obtain ⟨t, rfl⟩ := r1.int_inv
      exact k _ h1 t1 x1 (.inr ⟨j, t, rfl, rfl⟩)
theorem ex_cut {value : Expr} {lower upper : Option Expr} {p pos : Pos} {lo hi : Option Int} {ds es : List D} {a b : Int} {k : Nat} (hv : Ex prog w n env value h₀ W (.tup ds)) (hlo : Bd prog w n env h₀ W lower lo) (hhi : Bd prog w n env h₀ W upper hi)
    (hadj : Builtin.Slice.sliceAdjust lo hi 1 (ds.length : Int) = (a, b)) (hpl : Builtin.Slice.slicePlaces a b 1 = k) (hno : (a == 0 && (1 : Int) == 1 && k == ds.length) = false)
    (hes : ((List.range k).filterMap fun (j : Nat) => ds[(a + (j : Int) * 1).toNat]?) = es) (hsz : es.length ≤ sizeLine := by first | decide | (simp only [List.length_cons, List.length_nil]; decide)) : Ex prog w n env (.Subscript value (.Slice lower upper none p) pos) h₀ W (.tup es) :=
  fun A s Q E hA hW hx kk => Subscript_ (hv A s _ _ hA hW hx fun u h1 t1 x1 r1 => wpAny_Slice (hlo.run A _ _ _ hA hW (hx.trans x1) fun vl h2 t2 x2 pl => hhi.run A _ _ _ hA hW (hx.trans (x1.trans x2)) fun vu h3 t3 x3 pu => wpAny_pure (by
    obtain ⟨t, vs, rfl, ht, _, rl⟩ := r1.tup_inv
    have x13 := x2.trans x3
    have ht4 : IsTup (h3.push { cls := .type "slice", data := .fields #[vl, vu, .none] }) t vs.toArray := (IsTup.keeps ht x13).push _
    have hl := rl.length
    have rr : RpL prog w (h3.push { cls := .type "slice", data := .fields #[vl, vu, .none] }) W (((List.range k).map fun (j : Nat) => (a + (j : Int) * 1).toNat).filterMap (vs[·]?)) es := by
      have := (rl.ext (x13.trans (Ext.push _ { cls := .type "slice", data := .fields #[vl, vu, .none] }))).places ((List.range k).map fun (j : Nat) => (a + (j : Int) * 1).toNat)
      rw [List.filterMap_map (l := List.range k) (g := (ds[·]?))] at this
      rw [← hes]; exact this
    refine tail_any (s := { s with heap := h3.push { cls := .type "slice", data := .fields #[vl, vu, .none] }, toks := t3 }) ht4.typeIs slot_tuple_getitem.lookup (ops := [.ref h3.objs.size, .ref t]) (getItem_tuple_cut ht4 (Heap.IsSliceOf.new ..) pl pu (a := a) (b := b) (k := k) (by simpa [hl] using hadj) hpl (by simpa [hl] using hno) (ys := ((List.range k).map fun (j : Nat) => (a + (j : Int) * 1).toNat).filterMap (vs[·]?)) ?_ (by rw [rr.length]; exact hsz) ?_) rfl
    · rw [List.filterMap_map]; simp [Function.comp_def]
    · refine kk _ _ t3 (x1.trans (x13.trans ((Ext.push _ _).trans (Ext.push _ _)))) ?_
      exact rp_tup_new ((hW.ext (hx.trans (x1.trans x13))).ext (Ext.push _ _)) rr)))

/-- a name that holds a function, then a call -/
theorem ex_callF {x : Str} {p pos : Pos} {es : List Expr} {e : Expr} {ds : List D} {d : D} {f : Addr} {o : Obj} {fd : FuncData} (l : Ld prog w env h₀ x (.ref f)) (ho : h₀.get? f = some o) (hf : o.data = .func fd) (hx : ExL prog w n env h₀ W (e :: es) ds)
    (c : Cl prog w n h₀ (.ref f) ds d) (hd : (x == ("__debug__" : Str)) = false := by decide) : Ex prog w n env (.Call (.Name x p) (e :: es) [] pos) h₀ W d :=
  fun A s Q E hA hW hxx k => Call_Name rfl (wpAny_Name (l A s _ _ hxx (Calls.callWith_function (o := o) (fd := fd) (by
    have hr := hx.run A s pos
    have hs0 : starEach (e :: es) env = (false, eval e env) :: starEach es env := by
      cases ds with
      | nil => exact hx.elim
      | cons d ds => exact hx.1
    rw [hs0] at hr ⊢
    exact Calls.evalArgs_plain (hr _ _ hA hW hxx fun vs h1 t1 x1 r1 => ⟨⟨x1 _ _ (hxx _ _ ho), hf⟩, c A _ W vs _ _ hA (hW.ext (hxx.trans x1)) (hxx.trans x1) r1 fun v h2 t2 x2 r2 => k v h2 t2 (x1.trans x2) r2⟩)))) hd)
theorem ex_callB {x : Str} {p pos : Pos} {es : List Expr} {e : Expr} {ds : List D} {d : D} {id : String} (l : Ld prog w env h₀ x (.builtin id)) (hx : ExL prog w n env h₀ W (e :: es) ds)
    (c : Cl prog w n h₀ (.builtin id) ds d) (hd : (x == ("__debug__" : Str)) = false := by decide) : Ex prog w n env (.Call (.Name x p) (e :: es) [] pos) h₀ W d :=
  fun A s Q E hA hW hxx k => Call_Name rfl (wpAny_Name (l A s _ _ hxx (Calls.callWith_builtin (hx.noStar pos) (by
    have hr := hx.run A s pos
    have hs0 : starEach (e :: es) env = (false, eval e env) :: starEach es env := by
      cases ds with
      | nil => exact hx.elim
      | cons d ds => exact hx.1
    rw [hs0] at hr ⊢
    exact Calls.evalArgs_plain (hr _ _ hA hW hxx fun vs h1 t1 x1 r1 => c A _ W vs _ _ hA (hW.ext (hxx.trans x1)) (hxx.trans x1) r1 fun v h2 t2 x2 r2 => k v h2 t2 (x1.trans x2) r2)))) hd)
theorem ex_callT {x : Str} {p pos : Pos} {es : List Expr} {e : Expr} {ds : List D} {d : D} {id : String} (l : Ld prog w env h₀ x (.type id)) (hx : ExL prog w n env h₀ W (e :: es) ds)
    (c : Cl prog w n h₀ (.type id) ds d) (hd : (x == ("__debug__" : Str)) = false := by decide) : Ex prog w n env (.Call (.Name x p) (e :: es) [] pos) h₀ W d :=
  fun A s Q E hA hW hxx k => Call_Name rfl (wpAny_Name (l A s _ _ hxx (PyProof.Rows.callWith_type (hx.noStar pos) (by
    have hr := hx.run A s pos
    have hs0 : starEach (e :: es) env = (false, eval e env) :: starEach es env := by
      cases ds with
      | nil => exact hx.elim
      | cons d ds => exact hx.1
    rw [hs0] at hr ⊢
    exact Calls.evalArgs_plain (hr _ _ hA hW hxx fun vs h1 t1 x1 r1 => c A _ W vs _ _ hA (hW.ext (hxx.trans x1)) (hxx.trans x1) r1 fun v h2 t2 x2 r2 => k v h2 t2 (x1.trans x2) r2)))) hd)

/-! names -/
theorem ld_local {x : Str} {v : Value} {m : Str → Option Value} (hn : h₀.Ns env.locals m) (hv : m x = some v) (hk : env.scope.kind = .function) (hl : env.kindOf x = some .local) : Ld prog w env h₀ x v :=
  fun A s Q E hx k => wpAny_loadName_local hk hl (hn.keeps hx) hv k
theorem ld_cell {x : Str} {v : Value} {c : Addr} (hc : env.cells.lookup x = some c) (hv : h₀.IsCell c (some v)) (hk : env.scope.kind = .function) (hl : env.kindOf x = some .cell) : Ld prog w env h₀ x v :=
  fun A s Q E hx k => wpAny_loadName_cell hk hl hc (hv.keeps hx) k
theorem ld_free {x : Str} {v : Value} {c : Addr} (hc : env.cells.lookup x = some c) (hv : h₀.IsCell c (some v)) (hk : env.scope.kind = .function) (hl : env.kindOf x = some .free) (hn : (x == ("__classdict__" : Str)) = false := by decide) : Ld prog w env h₀ x v :=
  fun A s Q E hx k => wpAny_loadName_free hk hl hc (hv.keeps hx) k hn
theorem ld_glob {x : Str} {v : Value} {mg : Str → Option Value} (hg : h₀.Ns env.globals mg) (hv : mg x = some v) (hk : env.scope.kind = .function) (hl : env.kindOf x = some .globalImplicit) : Ld prog w env h₀ x v :=
  fun A s Q E hx k => by
    unfold loadName
    simp only [Env.blockKind, hk, hl, ScopeKind.isAnnotationScope, Bool.false_and, Bool.false_eq_true, if_false]
    exact Calls.loadGlobal_global (hg.keeps hx) hv k
theorem ld_built {x : Str} {v : Value} {mg mb : Str → Option Value} (hg : h₀.Ns env.globals mg) (hm : mg x = none) (hb : h₀.Ns env.builtins mb) (hv : mb x = some v) (hk : env.scope.kind = .function) (hl : env.kindOf x = some .globalImplicit) : Ld prog w env h₀ x v :=
  fun A s Q E hx k => by
    unfold loadName
    simp only [Env.blockKind, hk, hl, ScopeKind.isAnnotationScope, Bool.false_and, Bool.false_eq_true, if_false]
    exact Calls.loadGlobal_builtin (hg.keeps hx) hm (hb.keeps hx) hv k

/-! tests -/
theorem ex_ifexp {test body orelse : Expr} {pos : Pos} {b : Bool} {d : D} (t : Tx prog w n env test h₀ b) (h1 : b = true → Ex prog w n env body h₀ W d) (h2 : b = false → Ex prog w n env orelse h₀ W d) : Ex prog w n env (.IfExp test body orelse pos) h₀ W d :=
  fun A s Q E hA hW hx k => wpAny_IfExp (t A s _ _ hA hx fun h' tk x1 => by
    cases b with
    | true => exact h1 rfl A _ _ _ hA hW (hx.trans x1) fun v h2 t2 x2 r2 => k v h2 t2 (x1.trans x2) r2
    | false => exact h2 rfl A _ _ _ hA hW (hx.trans x1) fun v h2 t2 x2 r2 => k v h2 t2 (x1.trans x2) r2)
/-- a comparison, as a test -/
theorem tx_cmp {l r : Expr} {op : CmpOp} {pos : Pos} {a b : D} {c : Bool} (hl : Ex prog w n env l h₀ [] a) (hr : Ex prog w n env r h₀ [] b)
    (ho : ∀ (A : Around) (s : Shared) (u v : Value) (Q : Value → Shared → Prop) (E : Value → Shared → Prop), AOk n A → Ext h₀ s.heap → Rp prog w s.heap [] u a → Rp prog w s.heap [] v b →
      (∀ h' tk, Ext s.heap h' → Q (.bool c) { s with heap := h', toks := tk }) → wpAny (model prog w) A (compareOp op u v) Q E s) (hm : behindInMarks op r = false := by rfl) : Tx prog w n env (.Compare l [op] [r] pos) h₀ c :=
  fun A s Q E hA hx k => wpAny_isTrue_Compare1 (hl A s _ _ hA (fun _ h => nomatch h) hx fun u h1 t1 x1 r1 => hr A _ _ _ hA (fun _ h => nomatch h) (hx.trans x1) fun v h2 t2 x2 r2 =>
    ho A _ u v _ _ hA (hx.trans (x1.trans x2)) (r1.ext x2) r2 fun h3 t3 x3 => wpAny_truthy_bool (k h3 t3 ((Ext.trans x1 x2).trans x3))) hm
theorem tx_eqI {l r : Expr} {pos : Pos} {a b : Int} (hl : Ex prog w n env l h₀ [] (.int a)) (hr : Ex prog w n env r h₀ [] (.int b)) (hm : behindInMarks .Eq r = false := by rfl) : Tx prog w n env (.Compare l [.Eq] [r] pos) h₀ (a == b) :=
  tx_cmp hl hr (fun A s u v Q E _ _ ru rv k => by
    obtain ⟨t, rfl⟩ := ru.int_inv
    obtain ⟨t', rfl⟩ := rv.int_inv
    exact eq_int (k s.heap s.toks (Ext.refl _))) hm
theorem tx_int {e : Expr} {a : Int} (he : Ex prog w n env e h₀ [] (.int a)) (hv : ∀ whole, isTrue e env whole = (do let v ← whole; standAt e.pos; holding [v] (truthy v)) := by intro _; rfl) : Tx prog w n env e h₀ (a != 0) :=
  fun A s Q E hA hx k => wpAny_isTrue_value (he A s _ _ hA (fun _ h => nomatch h) hx fun v h1 t1 x1 r1 => by
      obtain ⟨t, rfl⟩ := r1.int_inv
      exact truthy_int (k h1 t1 x1)) (hv _)
theorem tx_bool {e : Expr} {b : Bool} (he : Ex prog w n env e h₀ [] (.bool b)) (hv : ∀ whole, isTrue e env whole = (do let v ← whole; standAt e.pos; holding [v] (truthy v)) := by intro _; rfl) : Tx prog w n env e h₀ b :=
  fun A s Q E hA hx k => wpAny_isTrue_value (he A s _ _ hA (fun _ h => nomatch h) hx fun v h1 t1 x1 r1 => by
      rw [r1.bool_inv]
      exact wpAny_truthy_bool (k h1 t1 x1)) (hv _)
end
end Mine
end
noncomputable section -- L3
open PySem PySem.W PyProof.Rows
set_option maxRecDepth 100000
set_option linter.unusedVariables false
namespace Mine
section
variable (prog : Program) (w : World)
/-- a source of a loop: its items' data are ds -/
def Src (n : Nat) (env : Env) (e : Expr) (h₀ : Heap) (V : List Addr) (ds : List D) : Prop :=
  ∀ (A : Around) (s : Shared) (Q : Value → Shared → Prop) (E : Value → Shared → Prop), AOk n A → Live h₀ V → Ext h₀ s.heap →
    (∀ I fp P St hp h' tk, (∀ A' : Around, A'.handled = none → Walks prog w A' I fp [I] ds.length P St) → St 0 h' → Ext s.heap hp → Ext hp h' → hp.get? I = none → (∀ i h, St i h → ∃ o, h.get? I = some o) → (∀ b ∈ fp, b < h'.objs.size ∧ b ∉ V) →
      (∀ i v d, P i v → ds[i]? = some d → Rp prog w hp V v d) → Q (.ref I) { s with heap := h', toks := tk }) →
    wpAny (model prog w) A (eval e env) (fun xv s₁ => wpAny (model prog w) A (pyIter xv) Q E s₁) E s
/-- a frame's own names -/
def Loc (h : Heap) (L : Addr) (V : List Addr) (ρ : List (Str × D)) : Prop := ∃ m, h.Ns L m ∧ ∀ x d, ρ.lookup x = some d → ∃ v, m x = some v ∧ Rp prog w h V v d
end
section
variable {prog : Program} {w : World} {n : Nat} {env : Env} {h₀ h₁ : Heap} {V W : List Addr}
theorem get_new (h : Heap) : h.get? h.objs.size = none := Heap.get?_none_of_le (Nat.le_refl _)
theorem src_lst {e : Expr} {ds : List D} (x : Ex prog w n env e h₀ V (.lst ds)) : Src prog w n env e h₀ V ds :=
  fun A s Q E hA hV hx k => x A s _ _ hA hV hx fun v h1 t1 x1 r1 => by
    obtain ⟨a, vs, rfl, hl, ha, rl⟩ := r1.lst_inv
    have hlt : a < h1.objs.size := let ⟨_, ho, _⟩ := hl; Heap.lt_size ho
    have e1 : vs.toArray.size = ds.length := by rw [List.size_toArray, rl.length]
    refine wpAny_pyIter_list (s := { s with heap := h1, toks := t1 }) hl (k h1.objs.size [h1.objs.size, a] (fun i v => vs.toArray[i]? = some v) _ h1 _ t1 (fun A' hA' => e1 ▸ Walks.list hA' h1.objs.size a (Nat.ne_of_lt hlt) vs.toArray) ⟨⟨_, Heap.get?_push_size _ rfl, rfl, rfl⟩, hl.push _⟩ x1 (Ext.push _ _) (get_new _) (fun _ _ st => let ⟨⟨o, ho, _⟩, _⟩ := st; ⟨o, ho⟩) ?_ ?_)
    · intro b hb
      rw [Heap.size_push]
      rcases List.mem_cons.mp hb with rfl | hb
      · exact ⟨Nat.lt_succ_self _, (hV.ext (hx.trans x1)).new⟩
      · rw [List.mem_singleton.mp hb]; exact ⟨Nat.lt_succ_of_lt hlt, ha⟩
    · intro i v d hi hd
      obtain ⟨v', hv', rv⟩ := rl.get hd
      have : v = v' := by simpa [hv'] using hi.symm
      exact this ▸ rv
theorem src_tup {e : Expr} {ds : List D} (x : Ex prog w n env e h₀ V (.tup ds)) : Src prog w n env e h₀ V ds :=
  fun A s Q E hA hV hx k => x A s _ _ hA hV hx fun v h1 t1 x1 r1 => by
    obtain ⟨a, vs, rfl, hl, ha, rl⟩ := r1.tup_inv
    have hlt : a < h1.objs.size := let ⟨_, ho, _⟩ := hl; Heap.lt_size ho
    have e1 : vs.toArray.size = ds.length := by rw [List.size_toArray, rl.length]
    refine wpAny_pyIter_tuple (s := { s with heap := h1, toks := t1 }) hl (k h1.objs.size [h1.objs.size, a] (fun i v => vs.toArray[i]? = some v) _ h1 _ t1 (fun A' hA' => e1 ▸ Walks.tuple hA' h1.objs.size a (Nat.ne_of_lt hlt) vs.toArray) ⟨⟨_, Heap.get?_push_size _ rfl, rfl, rfl⟩, hl.push _⟩ x1 (Ext.push _ _) (get_new _) (fun _ _ st => let ⟨⟨o, ho, _⟩, _⟩ := st; ⟨o, ho⟩) ?_ ?_)
    · intro b hb
      rw [Heap.size_push]
      rcases List.mem_cons.mp hb with rfl | hb
      · exact ⟨Nat.lt_succ_self _, (hV.ext (hx.trans x1)).new⟩
      · rw [List.mem_singleton.mp hb]; exact ⟨Nat.lt_succ_of_lt hlt, ha⟩
    · intro i v d hi hd
      obtain ⟨v', hv', rv⟩ := rl.get hd
      have : v = v' := by simpa [hv'] using hi.symm
      exact this ▸ rv
theorem src_str {e : Expr} {x : Str} (y : Ex prog w n env e h₀ V (.str x)) : Src prog w n env e h₀ V (x.cps.toList.map fun c => D.str ⟨#[c]⟩) :=
  fun A s Q E hA hV hx k => y A s _ _ hA hV hx fun v h1 t1 x1 r1 => by
    obtain ⟨t, rfl⟩ := r1.str_inv
    have fin : ∀ (i : Nat) (v : Value) (d : D), SignAt x i v → (x.cps.toList.map fun c => D.str ⟨#[c]⟩)[i]? = some d → Rp prog w h1 V v d := by
      rintro i v d ⟨c, u, hc, rfl⟩ hd
      have e : x.cps.toList[i]? = some c := by simpa using hc
      rw [List.getElem?_map, e] at hd
      cases hd
      exact .str _ _
    have fpok : ∀ (o : Obj), ∀ b ∈ [h1.objs.size], b < (h1.push o).objs.size ∧ b ∉ V := by
      intro o b hb
      rw [List.mem_singleton.mp hb, Heap.size_push]
      exact ⟨Nat.lt_succ_self _, (hV.ext (hx.trans x1)).new⟩
    have len : (x.cps.toList.map fun c => D.str ⟨#[c]⟩).length = x.cps.size := by simp
    cases ha : x.cps.all (· < 128)
    · exact wpAny_pyIter_wide (s := { s with heap := h1, toks := t1 }) ha (k h1.objs.size [h1.objs.size] (SignAt x) _ h1 _ t1 (fun A' hA' => len ▸ Walks.strWide hA' _ x t) ⟨_, Heap.get?_push_size _ rfl, rfl, rfl⟩ x1 (Ext.push _ _) (get_new _) (fun _ _ st => let ⟨o, ho, _⟩ := st; ⟨o, ho⟩) (fpok _) fin)
    · exact wpAny_pyIter_ascii (s := { s with heap := h1, toks := t1 }) ha (k h1.objs.size [h1.objs.size] (SignAt x) _ h1 _ t1 (fun A' hA' => len ▸ Walks.strAscii hA' _ x t) ⟨_, Heap.get?_push_size _ rfl, rfl, rfl⟩ x1 (Ext.push _ _) (get_new _) (fun _ _ st => let ⟨o, ho, _⟩ := st; ⟨o, ho⟩) (fpok _) fin)
theorem rangeIt {A : Around} {s : Shared} {Q : Value → Shared → Prop} {E : Value → Shared → Prop} {r : Addr} {a b c : Int} {t u v : Tok} {nn : Nat} (hr : IsRange s.heap r a b c t u v) (hs : Builtin.Range.small a b c = true) (hz : Builtin.Range.rangeSize a b c = (nn : Int)) (hV : Live s.heap V)
    (k : ∀ I fp P St hp h', (∀ A' : Around, A'.handled = none → Walks prog w A' I fp [I] ((List.range nn).map fun (i : Nat) => D.int (a + i * c)).length P St) → St 0 h' → Ext s.heap hp → Ext hp h' → hp.get? I = none → (∀ i h, St i h → ∃ o, h.get? I = some o) → (∀ b ∈ fp, b < h'.objs.size ∧ b ∉ V) →
      (∀ i v d, P i v → ((List.range nn).map fun (i : Nat) => D.int (a + i * c))[i]? = some d → Rp prog w hp V v d) → Q (.ref I) { s with heap := h' }) : wpAny (model prog w) A (pyIter (.ref r)) Q E s := by
  refine wpAny_pyIter_range hr hs (k s.heap.objs.size [s.heap.objs.size] (fun i v => ∃ t, v = .int (a + i * c) t) (fun i h => IsRangeIter h s.heap.objs.size (a + (i : Nat) * c) ((nn : Int) - (i : Nat)) c) s.heap _ ?_ ?_ (Ext.refl _) (Ext.push _ _) (get_new _) (fun _ _ st => ⟨_, st⟩) ?_ ?_)
  · intro A' hA'
    simpa using Walks.range hA' s.heap.objs.size a c nn
  · show IsRangeIter _ _ _ _ _
    rw [hz]
    have := Heap.get?_push_size (o := { cls := .type "range_iterator", data := .fields #[rawInt a, rawInt (nn : Int), rawInt c] }) s.heap rfl
    simpa [IsRangeIter] using this
  · intro b hb
    rw [List.mem_singleton.mp hb, Heap.size_push]
    exact ⟨Nat.lt_succ_self _, hV.new⟩
  · rintro i v d ⟨t, rfl⟩ hd
    have : d = D.int (a + i * c) := by
      rw [List.getElem?_map] at hd
      cases hi : (List.range nn)[i]? with
      | none => rw [hi] at hd; cases hd
      | some j =>
        rw [hi] at hd
        have := (List.getElem?_eq_some_iff.mp hi).2
        simp at this
        subst this
        simpa using hd.symm
    subst this
    exact .int _ _
theorem src_range {x : Str} {p pos : Pos} {e : Expr} {b : Int} {nn : Nat} (l : Ld prog w env h₀ x (.type "range")) (ex : Ex prog w n env e h₀ V (.int b)) (hs : Builtin.Range.small 0 b 1 = true) (hz : Builtin.Range.rangeSize 0 b 1 = (nn : Int))
    (hd : (x == ("__debug__" : Str)) = false := by decide) (hse : starEach [e] env = [(false, eval e env)] := by rfl) : Src prog w n env (.Call (.Name x p) [e] [] pos) h₀ V ((List.range nn).map fun (i : Nat) => D.int (0 + i * 1)) :=
  fun A s Q E hA hV hx k => Call_Name rfl (wpAny_Name (l A s _ _ hx (PyProof.Rows.callWith_type (by rw [hse]; rfl) (by
    have hr := ExL.run (ExL.cons ex ExL.nil hse) A s pos
    rw [hse] at hr ⊢
    refine Calls.evalArgs_plain (hr _ _ hA hV hx fun vs h1 t1 x1 r1 => ?_)
    cases r1 with
    | cons a b =>
      cases b
      obtain ⟨t, rfl⟩ := a.int_inv
      refine call_range_1 (rangeIt (V := V) (Heap.get?_push_size _ rfl) hs hz ((hV.ext (hx.trans x1)).ext (Ext.push _ _)) fun I fp P St hp h' W st e1 e2 hI ho hf hp' => ?_)
      exact k I fp P St hp h' _ W st (x1.trans ((Ext.push _ _).trans e1)) e2 hI ho hf hp'))) hd)
theorem src_range3 {x : Str} {p pos : Pos} {e₁ e₂ e₃ : Expr} {a b c : Int} {nn : Nat} (l : Ld prog w env h₀ x (.type "range")) (ex : Ex prog w n env e₁ h₀ V (.int a)) (ey : Ex prog w n env e₂ h₀ V (.int b)) (ez : Ex prog w n env e₃ h₀ V (.int c))
    (hc : c ≠ 0) (hs : Builtin.Range.small a b c = true) (hz : Builtin.Range.rangeSize a b c = (nn : Int)) (hpl : Builtin.divisionGoesByPylong (b - a) c = false)
    (hd : (x == ("__debug__" : Str)) = false := by decide) (hs1 : starEach [e₁, e₂, e₃] env = (false, eval e₁ env) :: starEach [e₂, e₃] env := by rfl) (hs2 : starEach [e₂, e₃] env = (false, eval e₂ env) :: starEach [e₃] env := by rfl) (hs3 : starEach [e₃] env = (false, eval e₃ env) :: starEach [] env := by rfl) : Src prog w n env (.Call (.Name x p) [e₁, e₂, e₃] [] pos) h₀ V ((List.range nn).map fun (i : Nat) => D.int (a + i * c)) :=
  fun A s Q E hA hV hx k => Call_Name rfl (wpAny_Name (l A s _ _ hx (PyProof.Rows.callWith_type (by rw [hs1, hs2, hs3]; rfl) (by
    have hr := ExL.run (ExL.cons ex (ExL.cons ey (ExL.cons ez ExL.nil hs3) hs2) hs1) A s pos
    rw [hs1] at hr ⊢
    refine Calls.evalArgs_plain (hr _ _ hA hV hx fun vs h1 t1 x1 r1 => ?_)
    cases r1 with
    | cons r1 r2 =>
      cases r2 with
      | cons r2 r3 =>
        cases r3 with
        | cons r3 r4 =>
          cases r4
          obtain ⟨t, rfl⟩ := r1.int_inv
          obtain ⟨t', rfl⟩ := r2.int_inv
          obtain ⟨t'', rfl⟩ := r3.int_inv
          refine call_range_3 hc (rangeIt (V := V) (Heap.get?_push_size _ rfl) hs hz ((hV.ext (hx.trans x1)).ext (Ext.push _ _)) fun I fp P St hp h' W st e1 e2 hI ho hf hp' => ?_) (.inl hpl)
          exact k I fp P St hp h' _ W st (x1.trans ((Ext.push _ _).trans e1)) e2 hI ho hf hp'))) hd)

/-- for: an invariant J over the loop's iterator, the turn's number and the heap -/
theorem st_for {A : Around} {s : Shared} {target iter : Expr} {body : List Stmt} {pos : Pos} {Q : Flow → Shared → Prop} {E : Value → Shared → Prop} {Wm : List Addr} {ds : List D} (hA : AOk n A) (hV : Live s.heap V) (hs : Src prog w n env iter s.heap V ds)
    (J : Addr → Nat → Heap → Prop) (hWV : ∀ b ∈ Wm, b ∈ V)
    (hj : ∀ I h', s.heap.get? I = none → Ext s.heap h' → (∃ o, h'.get? I = some o) → J I 0 h')
    (hst : ∀ I i h h', s.heap.get? I = none → J I i h → Stay [I] h h' → (∃ o, h'.get? I = some o) → J I i h')
    (turn : ∀ I i v d h1 tk E', s.heap.get? I = none → ds[i]? = some d → (∃ o, h1.get? I = some o) → J I i h1 → Rp prog w h1 (I :: V) v d → Stay Wm s.heap h1 →
      wpAny (model prog w) A (assign target env v) (fun _ s2 => wpAny (model prog w) A (execs body env) (fun f s3 => f = .next ∧ ∃ h3 tk3, s3 = { s with heap := h3, toks := tk3 } ∧ Stay Wm h1 h3 ∧ J I (i + 1) h3) E' s2) E' { s with heap := h1, toks := tk })
    (done : ∀ I H h' tk, s.heap.get? I = none → Stay Wm s.heap h' → J I ds.length H → Stay [I] H h' → Q .next { s with heap := h', toks := tk })
    (hlet : ∀ it v, letOwnedTupleGo target it v = pure () := by intro _ _; rfl) (hfs : ∀ x, foldedSetIterable iter env x = pure x := by intro _; rfl) :
    wpAny (model prog w) A (exec (.For target iter body [] pos) env) Q E s := by
  refine wpAny_For (hs A s _ _ hA hV (Ext.refl _) fun I fp P St hp h0 tk0 W st0 xp x0 hI hob hfp hP => ?_) hfs
  have hIs : s.heap.get? I = none := by
    cases e : s.heap.get? I with
    | none => rfl
    | some o => rw [xp _ _ e] at hI; cases hI
  have hIV : I ∉ V := fun m => by obtain ⟨o, ho⟩ := hV I m; rw [hIs] at ho; cases ho
  have hIW : I ∉ Wm := fun m => hIV (hWV I m)
  have Wk := W A hA.hd
  have hIo := hob _ _ st0
  refine codeAny_forLoop_any (R := fun r s' => match r with | .ok f => Q f s' | .error e => cameBackBy (model prog w) A env E e s')
    (fun k s' => ∃ h' tk i, s' = { s with heap := h', toks := tk } ∧ St i h' ∧ i ≤ ds.length ∧ k = ds.length + 1 - i ∧ Stay Wm s.heap h' ∧ J I i h' ∧ Stay (I :: V) hp h' ∧ ∃ o, h'.get? I = some o) ?_ (ds.length + 1)
    ⟨h0, tk0, 0, rfl, st0, Nat.zero_le _, rfl, (xp.trans x0).stay _, hj I h0 hIs (xp.trans x0) hIo, x0.stay _, hIo⟩
  rintro k s' ⟨H, tk, i, rfl, hst', hi, rfl, hS, hJ, hR, hIo'⟩
  by_cases hlt : i < ds.length
  · refine Wk.item i _ _ _ hlt hst' fun v h1 tk1 hPv hst1 hk1 => ?_
    have hk1' : Stay [I] H h1 := fun b o hb e => hk1 b o hb e
    refine wpAny_of_eq (hlet _ _) ?_
    have hd : ds[i]? = some ds[i] := by simp [hlt]
    have hS1 : Stay Wm s.heap h1 := fun b o hb e => hk1' b o (by simp; rintro rfl; rw [hIs] at e; cases e) (hS b o hb e)
    have hR1 : Stay (I :: V) hp h1 := fun b o hb e => hk1' b o (fun m => hb (by simp at m; simp [m])) (hR b o hb e)
    have hIo1 : ∃ o, h1.get? I = some o := hob _ _ hst1
    refine wpAny_mono (turn I i v ds[i] h1 tk1 _ hIs hd hIo1 (hst I i H h1 hIs hJ hk1' hIo1) ?_ hS1) (fun _ s2 h2 => wpAny_mono h2 (fun f s3 h3 => ?_) fun _ _ e => e) fun _ _ e => e
    · exact (Rp.more hI (hP i v _ hPv hd)).stay hR1
    · obtain ⟨rfl, h3, tk3, rfl, hS3, hJ3⟩ := h3
      refine ⟨ds.length + 1 - (i + 1), by omega, h3, tk3, i + 1, rfl, ?_, hlt, rfl, hS1.trans hS3, hJ3, ?_, ?_⟩
      · exact Wk.frame _ _ _ hst1 fun b hb o e => hS3 b o (fun m => (hfp b hb).2 (hWV b m)) e
      · exact fun b o hb e => hS3 b o (fun m => hb (List.mem_cons_of_mem _ (hWV b m))) (hR1 b o hb e)
      · obtain ⟨o, ho⟩ := hIo1
        exact ⟨o, hS3 I o hIW ho⟩
  · have hin : i = ds.length := by omega
    subst hin
    refine Wk.done _ _ _ hst' fun h1 tk1 hk1 => wpAny_execs_nil ?_
    have hk1' : Stay [I] H h1 := fun b o hb e => hk1 b o hb e
    exact done I H h1 tk1 hIs (fun b o hb e => hk1' b o (by simp; rintro rfl; rw [hIs] at e; cases e) (hS b o hb e)) hJ hk1'
end
end Mine
end
noncomputable section -- L4
open PySem PySem.W PyProof.Rows
set_option maxRecDepth 100000
set_option linter.unusedVariables false
namespace Mine
section
variable {prog : Program} {w : World} {n : Nat} {env : Env} {h₀ h₁ : Heap} {V W : List Addr} {L : Addr} {ρ : List (Str × D)}
theorem Loc.stay {h h' : Heap} {X : List Addr} (l : Loc prog w h L V ρ) (x : Stay X h h') (hL : L ∉ X) (hX : ∀ b ∈ X, b ∈ V) : Loc prog w h' L V ρ :=
  let ⟨m, hn, hm⟩ := l
  ⟨m, hn.at' fun o e => x L o hL e, fun y d e => let ⟨v, hv, r⟩ := hm y d e; ⟨v, hv, r.stay (x.mono hX)⟩⟩
theorem Loc.ext {h h' : Heap} (l : Loc prog w h L V ρ) (x : Ext h h') : Loc prog w h' L V ρ := l.stay (X := []) (x.stay []) (by simp) (by simp)
theorem Loc.turn {h : Heap} {V' : List Addr} (l : Loc prog w h L V ρ) (x : ∀ b o, h.get? b = some o → b ∉ V → b ∉ V') : Loc prog w h L V' ρ :=
  let ⟨m, hn, hm⟩ := l
  ⟨m, hn, fun y d e => let ⟨v, hv, r⟩ := hm y d e; ⟨v, hv, r.turn x⟩⟩
theorem Loc.less {h : Heap} {V' : List Addr} (l : Loc prog w h L V ρ) (x : ∀ b ∈ V', b ∈ V) : Loc prog w h L V' ρ := l.turn fun b _ _ q z => q (x b z)
theorem Loc.more {h : Heap} {I : Addr} (l : Loc prog w h L V ρ) (hI : h.get? I = none) : Loc prog w h L (I :: V) ρ := l.turn fun b o e q z => by
  rcases List.mem_cons.mp z with rfl | z
  · rw [hI] at e; cases e
  · exact q z
theorem Loc.sub {h : Heap} {ρ' : List (Str × D)} (l : Loc prog w h L V ρ) (x : ∀ y d, ρ'.lookup y = some d → ρ.lookup y = some d) : Loc prog w h L V ρ' :=
  let ⟨m, hn, hm⟩ := l
  ⟨m, hn, fun y d e => hm y d (x y d e)⟩
theorem Loc.get {x : Str} {d : D} (l : Loc prog w h₀ env.locals V ρ) (hx : ρ.lookup x = some d) (hk : env.scope.kind = .function := by rfl) (hl : env.kindOf x = some .local := by rfl) : ∃ v, Ld prog w env h₀ x v ∧ Rp prog w h₀ V v d :=
  let ⟨m, hn, hm⟩ := l
  let ⟨v, hv, r⟩ := hm x d hx
  ⟨v, ld_local hn hv hk hl, r⟩
theorem lookup_cons_some {x y : Str} {d e : D} (h : ((x, d) :: ρ).lookup y = some e) : (y = x ∧ e = d) ∨ (y ≠ x ∧ ρ.lookup y = some e) := by
  rw [List.lookup_cons] at h
  cases hb : y == x with
  | true => rw [hb] at h; cases h; exact .inl ⟨eq_of_beq hb, rfl⟩
  | false => rw [hb] at h; exact .inr ⟨fun q => by rw [q] at hb; simp at hb, h⟩

/-- a frame: its names, what is alive, its place -/
structure Fra (prog : Program) (w : World) (h : Heap) (L : Addr) (V : List Addr) (ρ : List (Str × D)) : Prop where
  loc : Loc prog w h L V ρ
  live : Live h V
  mem : L ∈ V
theorem Fra.ext {h h' : Heap} (l : Fra prog w h L V ρ) (x : Ext h h') : Fra prog w h' L V ρ := ⟨l.loc.ext x, l.live.ext x, l.mem⟩
theorem Fra.sub {h : Heap} {ρ' : List (Str × D)} (l : Fra prog w h L V ρ) (x : ∀ y d, ρ'.lookup y = some d → ρ.lookup y = some d) : Fra prog w h L V ρ' := ⟨l.loc.sub x, l.live, l.mem⟩
theorem not_in {h : Heap} {I : Addr} (lv : Live h V) (hI : h.get? I = none) : I ∉ V := fun m => by obtain ⟨o, ho⟩ := lv I m; rw [hI] at ho; cases ho
theorem Fra.more {h h' : Heap} {I : Addr} (l : Fra prog w h L V ρ) (hI : h.get? I = none) (x : Ext h h') (ho : ∃ o, h'.get? I = some o) : Fra prog w h' L (I :: V) ρ :=
  ⟨(l.loc.more hI).ext x, fun b hb => (List.mem_cons.mp hb).elim (fun e => e ▸ ho) fun hb => (l.live.ext x) b hb, List.mem_cons_of_mem _ l.mem⟩
theorem Fra.next {h h' : Heap} {I : Addr} (l : Fra prog w h L (I :: V) ρ) (hL : L ∈ V) (hI : I ∉ V) (x : Stay [I] h h') (ho : ∃ o, h'.get? I = some o) : Fra prog w h' L (I :: V) ρ :=
  ⟨l.loc.stay x (by simp; rintro rfl; exact hI hL) (by simp), fun b hb => (List.mem_cons.mp hb).elim (fun e => e ▸ ho) fun hb' => let ⟨o, e⟩ := l.live b (List.mem_cons_of_mem _ hb'); ⟨o, x b o (by simp; rintro rfl; exact hI hb') e⟩, l.mem⟩
theorem Fra.drop {h h' : Heap} {I : Addr} (l : Fra prog w h L (I :: V) ρ) (hL : L ∈ V) (hI : I ∉ V) (x : Stay [I] h h') : Fra prog w h' L V ρ :=
  ⟨(l.loc.stay x (by simp; rintro rfl; exact hI hL) (by simp)).less fun b hb => List.mem_cons_of_mem _ hb, fun b hb => let ⟨o, e⟩ := l.live b (List.mem_cons_of_mem _ hb); ⟨o, x b o (by simp; rintro rfl; exact hI hb) e⟩, hL⟩
theorem ex_loc {x : Str} {pos : Pos} {d : D} (l : Fra prog w h₀ env.locals V ρ) (hx : ρ.lookup x = some d) (hk : env.scope.kind = .function := by rfl) (hl : env.kindOf x = some .local := by rfl) (hd : (x == ("__debug__" : Str)) = false := by decide) : Ex prog w n env (.Name x pos) h₀ V d :=
  let ⟨_, l, r⟩ := l.loc.get hx hk hl
  ex_name l r hd
/-- as a value that is only looked at -/
theorem Ex.less {e : Expr} {d : D} {V' : List Addr} (x : Ex prog w n env e h₀ V d) (lv : Live h₀ V) (hs : ∀ b ∈ V', b ∈ V) : Ex prog w n env e h₀ V' d :=
  fun A s Q E hA hW hx k => x A s Q E hA lv hx fun v h' tk e r => k v h' tk e (r.less hs)
theorem Ex.bare {e : Expr} {d : D} (x : Ex prog w n env e h₀ V d) (lv : Live h₀ V) : Ex prog w n env e h₀ [] d := x.less lv (by simp)
/-- a store into a frame's own name -/
theorem st_store {A : Around} {s : Shared} {x : Str} {v : Value} {d : D} {Q : Unit → Shared → Prop} {E : Value → Shared → Prop} (l : Fra prog w s.heap env.locals V ρ) (r : Rp prog w s.heap V v d)
    (k : ∀ h' tk, Stay [env.locals] s.heap h' → Fra prog w h' env.locals V ((x, d) :: ρ) → Q () { s with heap := h', toks := tk })
    (hk : env.scope.kind = .function := by rfl) (hl : env.kindOf x = some .local := by rfl) : wpAny (model prog w) A (storeName env x v) Q E s := by
  obtain ⟨⟨m, hn, hm⟩, lv, hLV⟩ := l
  refine wpAny_storeName_local hl hn (fun h' hn' hs => k h' _ (Stay.of_same hs (by simp)) ⟨⟨_, hn', fun y e he => ?_⟩, fun b hb => ?_, hLV⟩) (by rw [hk]; rfl)
  · rcases lookup_cons_some he with ⟨rfl, rfl⟩ | ⟨hy, he⟩
    · exact ⟨v, by simp, r.stay (Stay.of_same hs hLV)⟩
    · obtain ⟨u, hu, ru⟩ := hm y e he
      exact ⟨u, by simp [hy, hu], ru.stay (Stay.of_same hs hLV)⟩
  · by_cases hb' : b = env.locals
    · obtain ⟨o, _, _, e, _⟩ := hn'
      exact ⟨o, hb' ▸ e⟩
    · obtain ⟨o, e⟩ := lv b hb
      exact ⟨o, (hs.2 b hb').trans e⟩
theorem st_assign {A : Around} {s : Shared} {x : Str} {p pos : Pos} {value : Expr} {d : D} {Q : Flow → Shared → Prop} {E : Value → Shared → Prop} (hA : AOk n A) (l : Fra prog w s.heap env.locals V ρ) (ex : Ex prog w n env value s.heap V d)
    (k : ∀ h' tk, Stay [env.locals] s.heap h' → Fra prog w h' env.locals V ((x, d) :: ρ) → Q .next { s with heap := h', toks := tk })
    (hs : swapsWith value (some (.Name x p)) pos.line env = pure false := by rfl) (hk : env.scope.kind = .function := by rfl) (hl : env.kindOf x = some .local := by rfl) : wpAny (model prog w) A (exec (.Assign [.Name x p] value pos) env) Q E s :=
  wpAny_Assign_Name (ex A s _ _ hA l.live (Ext.refl _) fun v h1 t1 x1 r1 => st_store (l.ext x1) r1 (fun h' tk hsb l' => k h' tk ((x1.stay _).trans hsb) l') hk hl) hs
theorem st_aug {A : Around} {s : Shared} {x : Str} {p pos : Pos} {op : Operator} {value : Expr} {a b c : Int} {Q : Flow → Shared → Prop} {E : Value → Shared → Prop} (hA : AOk n A) (l : Fra prog w s.heap env.locals V ρ) (hx : ρ.lookup x = some (.int a)) (ex : Ex prog w n env value s.heap V (.int b))
    (ho : ∀ (A : Around) (s : Shared) (t u : Tok) (Q : Value → Shared → Prop) (E : Value → Shared → Prop), Q (.int c s.toks) { s with toks := s.toks + 1 } → wpAny (model prog w) A (inplaceOp op (.int a t) (.int b u)) Q E s)
    (k : ∀ h' tk, Stay [env.locals] s.heap h' → Fra prog w h' env.locals V ((x, .int c) :: ρ) → Q .next { s with heap := h', toks := tk })
    (hk : env.scope.kind = .function := by rfl) (hl : env.kindOf x = some .local := by rfl) : wpAny (model prog w) A (exec (.AugAssign (.Name x p) op value pos) env) Q E s := by
  obtain ⟨v0, l0, r0⟩ := l.loc.get hx hk hl
  obtain ⟨t0, rfl⟩ := r0.int_inv
  exact wpAny_AugAssign_Name (l0 A s _ _ (Ext.refl _) (ex A s _ _ hA l.live (Ext.refl _) fun v h1 t1 x1 r1 => by
    obtain ⟨t, rfl⟩ := r1.int_inv
    exact ho A _ _ _ _ _ (st_store (l.ext x1) (.int _ _) (fun h' tk hsb l' => k h' tk ((x1.stay _).trans hsb) l') hk hl)))
theorem st_return {A : Around} {s : Shared} {e : Expr} {pos : Pos} {d : D} {Q : Flow → Shared → Prop} {E : Value → Shared → Prop} (hA : AOk n A) (lv : Live s.heap V) (ex : Ex prog w n env e s.heap V d)
    (k : ∀ v h' tk, Ext s.heap h' → Rp prog w h' V v d → Q (.ret v) { s with heap := h', toks := tk }) : wpAny (model prog w) A (exec (.Return (some e) pos) env) Q E s :=
  wpAny_Return_some (ex A s _ _ hA lv (Ext.refl _) k)
theorem st_if {A : Around} {s : Shared} {test : Expr} {body orelse : List Stmt} {pos : Pos} {b : Bool} {Q : Flow → Shared → Prop} {E : Value → Shared → Prop} (hA : AOk n A) (t : Tx prog w n env test s.heap b)
    (h1 : b = true → ∀ h' tk, Ext s.heap h' → wpAny (model prog w) A (execs body env) Q E { s with heap := h', toks := tk }) (h2 : b = false → ∀ h' tk, Ext s.heap h' → wpAny (model prog w) A (execs orelse env) Q E { s with heap := h', toks := tk }) :
    wpAny (model prog w) A (exec (.If test body orelse pos) env) Q E s :=
  wpAny_If (t A s _ _ hA (Ext.refl _) fun h' tk x => by
    cases b with
    | true => exact h1 rfl h' tk x
    | false => exact h2 rfl h' tk x)
/-- for over a source, the frame's names turn by turn; Wm: what the turns may change -/
theorem st_forL {A : Around} {s : Shared} {x : Str} {px : Pos} {iter : Expr} {body : List Stmt} {pos : Pos} {Q : Flow → Shared → Prop} {E : Value → Shared → Prop} {ds : List D} (hA : AOk n A) (l : Fra prog w s.heap env.locals V ρ) (hs : Src prog w n env iter s.heap V ds) (R : Nat → List (Str × D))
    (hR0 : ∀ y d, (R 0).lookup y = some d → ρ.lookup y = some d)
    (turn : ∀ V' i d h1 tk E', (∀ b ∈ V, b ∈ V') → ds[i]? = some d → Fra prog w h1 env.locals V' ((x, d) :: R i) → Stay [env.locals] s.heap h1 →
      wpAny (model prog w) A (execs body env) (fun f s3 => f = .next ∧ ∃ h3 tk3, s3 = { s with heap := h3, toks := tk3 } ∧ Stay [env.locals] h1 h3 ∧ Fra prog w h3 env.locals V' (R (i + 1))) E' { s with heap := h1, toks := tk })
    (done : ∀ h' tk, Stay [env.locals] s.heap h' → Fra prog w h' env.locals V (R ds.length) → Q .next { s with heap := h', toks := tk })
    (hk : env.scope.kind = .function := by rfl) (hl : env.kindOf x = some .local := by rfl) (hfs : ∀ x, foldedSetIterable iter env x = pure x := by intro _; rfl) :
    wpAny (model prog w) A (exec (.For (.Name x px) iter body [] pos) env) Q E s := by
  refine st_for (V := V) (Wm := [env.locals]) hA l.live hs (fun I i h => Fra prog w h env.locals (I :: V) (R i)) (fun b hb => List.mem_singleton.mp hb ▸ l.mem) ?_ ?_ ?_ ?_ (by intro _ _; rfl) hfs
  · intro I h' hI x' ho
    exact (l.sub hR0).more hI x' ho
  · intro I i h h' hI hJ st ho
    exact hJ.next l.mem (not_in l.live hI) st ho
  · intro I i v d h1 tk E' hI hd ho hJ r st
    refine wpAny_assign_Name (st_store (s := { s with heap := h1, toks := tk }) hJ r (fun h2 tk2 st2 f2 => ?_) hk hl)
    refine wpAny_mono (turn (I :: V) i d h2 tk2 E' (fun b hb => List.mem_cons_of_mem _ hb) hd f2 (st.trans st2)) (fun f s3 h3 => ?_) fun _ _ e => e
    obtain ⟨rfl, h3, tk3, rfl, st3, f3⟩ := h3
    exact ⟨rfl, h3, tk3, rfl, st2.trans st3, f3⟩
  · intro I H h' tk hI st hJ st'
    exact done h' tk st (hJ.drop l.mem (not_in l.live hI) st')

/-- a def of plain parameters -/
theorem cl_def {f : Addr} {o : Obj} {fd : FuncData} {body : List Stmt} {ds : List D} {d : D} {names : List Str} (ho : h₀.get? f = some o) (hf : o.data = .func fd) (hlim : h₀.NoLimit) (hcd : h₀.CodeRec fd.code fd.qualname) (hbody : fd.body = .stmts body)
    (hlen : names.length = ds.length) (hbind : ∀ vs : List Value, vs.length = names.length → bindArgs fd ⟨vs, []⟩ = pure (names.zip vs))
    (hcell : ∀ x ∈ fd.scope.names, x.2 ≠ .cell) (hloc : ∀ x ∈ names, fd.scope.names.lookup x = some .local) (hnd : names.Nodup)
    (run : ∀ (A : Around) (s : Shared) (L : Addr) (W : List Addr) (Q : Flow → Shared → Prop) (E : Value → Shared → Prop), AOk n A → Ext h₀ s.heap → h₀.get? L = none → Fra prog w s.heap L (L :: W) (names.zip ds) →
      (∀ v h' tk, Stay [L] s.heap h' → Rp prog w h' (L :: W) v d → Q (.ret v) { s with heap := h', toks := tk }) → wpAny (model prog w) A (execs body (callEnv fd L f)) Q E s)
    (hco : fd.scope.isCoroutine = false := by rfl) (hgen : fd.scope.isGenerator = false := by rfl) (hk : fd.scope.kind = .function := by rfl) : Cl prog w (n + 1) h₀ (.ref f) ds d :=
  fun A s W vs Q E hA hW hx r k => by
    have hl : vs.length = names.length := by rw [r.length, hlen]
    refine wpAny_call (codeAny_call_def (binds := names.zip vs) (body := body) (by have := hA.dp; omega) (hx _ _ ho) hf (hlim.keeps hx) (hcd.keeps hx) hbody (BindsTo.of_eq (hbind vs hl)) hcell (fun x hm => hloc _ (List.of_mem_zip hm).1) (fun h1 hn x1 => ?_) hco hgen hk)
    have hnew : s.heap.get? s.heap.objs.size = none := get_new _
    have hn' : h₀.get? s.heap.objs.size = none := by
      cases e : h₀.get? s.heap.objs.size with
      | none => rfl
      | some o => rw [hx _ _ e] at hnew; cases hnew
    obtain ⟨oL, hoL⟩ : ∃ oL, h1.get? s.heap.objs.size = some oL := let ⟨o, _, _, e, _⟩ := hn; ⟨o, e⟩
    have r1 : RpL prog w h1 (s.heap.objs.size :: W) vs ds := (RpL.more hnew r).ext x1
    refine run (A.deeper (callEnv fd s.heap.objs.size f)) _ s.heap.objs.size W _ _ (hA.deeper _) (hx.trans x1) hn' ⟨⟨_, hn, ?_⟩, ?_, by simp⟩ fun v h' tk st rv => ?_
    rotate_left
    · intro b hb
      rcases List.mem_cons.mp hb with rfl | hb
      · exact ⟨oL, hoL⟩
      · exact (hW.ext x1) b hb
    rotate_left
    · intro x dd e
      have key : ∀ (ns : List Str) (vs : List Value) (ds : List D), RpL prog w h1 (s.heap.objs.size :: W) vs ds → (ns.zip ds).lookup x = some dd → ∃ v, (ns.zip vs).lookup x = some v ∧ Rp prog w h1 (s.heap.objs.size :: W) v dd := by
        intro ns
        induction ns with
        | nil => intro vs ds _ h; simp at h
        | cons nm ns ih =>
          intro vs ds r h
          cases r with
          | nil => simp at h
          | cons a b =>
            simp only [List.zip_cons_cons, List.lookup_cons] at h ⊢
            cases hb : x == nm with
            | true => rw [hb] at h; cases h; exact ⟨_, rfl, a⟩
            | false => rw [hb] at h; exact ih _ _ b h
      obtain ⟨v, hv, rv⟩ := key names vs ds r1 e
      refine ⟨v, ?_, rv⟩
      have hnd' : ((names.zip vs).map (·.1)).Nodup := by
        rw [List.map_fst_zip (by omega)]; exact hnd
      have aux : ∀ (l : List (Str × Value)), (l.map (·.1)).Nodup → l.lookup x = some v → l.reverse.lookup x = some v := by
        intro l hnd hl
        have mem : ∀ {l : List (Str × Value)}, l.lookup x = some v → (x, v) ∈ l := by
          intro l
          induction l with
          | nil => intro h; simp at h
          | cons p l ih =>
            intro h
            obtain ⟨a, b⟩ := p
            rw [List.lookup_cons] at h
            cases hb : x == a with
            | true => rw [hb] at h; cases h; rw [eq_of_beq hb]; exact List.mem_cons_self
            | false => rw [hb] at h; exact List.mem_cons_of_mem _ (ih h)
        have back : ∀ {l : List (Str × Value)}, (l.map (·.1)).Nodup → (x, v) ∈ l → l.lookup x = some v := by
          intro l
          induction l with
          | nil => intro _ h; cases h
          | cons p l ih =>
            intro hnd h
            obtain ⟨a, b⟩ := p
            rw [List.map_cons, List.nodup_cons] at hnd
            rcases List.mem_cons.mp h with h | h
            · cases h; simp
            · have hne : x ≠ a := fun q => hnd.1 (q ▸ List.mem_map.mpr ⟨(x, v), h, rfl⟩)
              rw [List.lookup_cons, beq_eq_false_iff_ne.mpr hne]
              exact ih hnd.2 h
        exact back (by rw [List.map_reverse]; exact (List.reverse_perm _).nodup_iff.mpr hnd) (List.mem_reverse.mpr (mem hl))
      exact aux _ hnd' hv
    · refine k v h' tk (fun b o e => st b o ?_ (x1 b o e)) (rv.less fun b hb => List.mem_cons_of_mem _ hb)
      simp
      rintro rfl
      rw [hnew] at e; cases e
end
end Mine
end
noncomputable section -- P0
open PySem PySem.W PyProof.Rows
set_option maxRecDepth 100000
set_option linter.unusedVariables false
namespace Mine
/-! the text's defs -/
def gdef (i : Nat) : Stmt := (PySem.Challenge.pw_pg0034_01.main.body[i]?).getD (.Pass ⟨0, 0, 0, 0⟩)
def dName : Stmt → Str
  | .FunctionDef n _ _ _ _ _ _ _ _ _ => n
  | _ => Str.empty
def dPar : Stmt → Arguments
  | .FunctionDef _ a _ _ _ _ _ _ _ _ => a
  | _ => default
def dBody : Stmt → List Stmt
  | .FunctionDef _ _ b _ _ _ _ _ _ _ => b
  | _ => []
def dScope : Stmt → Scope
  | .FunctionDef _ _ _ _ _ _ s _ _ _ => s
  | _ => default
def fdAt (i : Nat) (pm : Value) (cd : Addr) : FuncData := { name := dName (gdef i), qualname := dName (gdef i), params := dPar (gdef i), body := .stmts (dBody (gdef i)), scope := dScope (gdef i), globals := mainGlobals, closure := [], defaults := .none, kwdefaults := .none, doc := .none, pyModule := pm, annotations := none, code := .ref cd, closureTuple := .none, builtins := builtinsNs }
/-- a def stands in the heap -/
def DefAt (h : Heap) (f : Addr) (i : Nat) : Prop := ∃ o pm cd, h.get? f = some o ∧ o.data = .func (fdAt i pm cd) ∧ h.CodeRec (.ref cd) (dName (gdef i))
/-- what the top has left -/
structure TopOk (h : Heap) : Prop where
  lim : h.NoLimit
  std : DefAt h 21 1
  stats : DefAt h 28 2
  callers : DefAt h 35 3
  gen : DefAt h 42 5
  sealD : DefAt h 49 7
  run : DefAt h 56 8
  glob : ∃ mg mb, h.Ns mainGlobals mg ∧ h.Ns builtinsNs mb ∧ mg "func_std_string" = some (.ref 21) ∧ mg "add_func_stats" = some (.ref 28) ∧ mg "add_callers" = some (.ref 35) ∧ mg "_gen_crc" = some (.ref 42) ∧ mg "_law_seal" = some (.ref 49) ∧ mg "_law_run" = some (.ref 56) ∧
    (∀ x ∈ (["range", "sum", "max", "min", "ord", "str", "len", "sorted", "isinstance", "tuple", "zip"] : List Str), mg x = none) ∧
    (mb "range" = some (.type "range") ∧ mb "sum" = some (.builtin "sum") ∧ mb "max" = some (.builtin "max") ∧ mb "min" = some (.builtin "min") ∧ mb "ord" = some (.builtin "ord") ∧ mb "str" = some (.type "str") ∧ mb "len" = some (.builtin "len") ∧ mb "sorted" = some (.builtin "sorted") ∧ mb "isinstance" = some (.builtin "isinstance") ∧ mb "tuple" = some (.type "tuple"))
theorem DefAt.ext {h h' : Heap} {f : Addr} {i : Nat} (x : DefAt h f i) (e : Ext h h') : DefAt h' f i := let ⟨o, pm, cd, ho, hd, hc⟩ := x; ⟨o, pm, cd, e _ _ ho, hd, hc.keeps e⟩
theorem TopOk.ext {h h' : Heap} (x : TopOk h) (e : Ext h h') : TopOk h' := by
  obtain ⟨lim, a, b, c, d, f, g, mg, mb, n1, n2, r⟩ := x
  exact ⟨lim.keeps e, a.ext e, b.ext e, c.ext e, d.ext e, f.ext e, g.ext e, mg, mb, n1.keeps e, n2.keeps e, r⟩
section
variable {prog : Program} {w : World} {n : Nat} {env : Env} {h₀ : Heap}
theorem ld_range (T : TopOk h₀) (hk : env.scope.kind = .function) (hl : env.kindOf "range" = some .globalImplicit) (hg : env.globals = mainGlobals) (hb : env.builtins = builtinsNs) : Ld prog w env h₀ "range" (.type "range") := by
  obtain ⟨mg, mb, n1, n2, r⟩ := T.glob
  exact ld_built (mg := mg) (mb := mb) (hg ▸ n1) (r.2.2.2.2.2.2.1 _ (by simp)) (hb ▸ n2) r.2.2.2.2.2.2.2.1 hk hl
end
end Mine
end
noncomputable section -- G1
open PySem PySem.W PyProof.Rows
set_option maxRecDepth 100000
set_option linter.unusedVariables false
namespace Mine
def crcStep (c : Int) : Int := if Builtin.bitAnd c 1 != 0 then Builtin.bitXor (c.fdiv (2 ^ (1 : Int).toNat)) 3988292384 else c.fdiv (2 ^ (1 : Int).toNat)
noncomputable def crcN : Nat → Int → Int
  | 0, c => c
  | k + 1, c => crcStep (crcN k c)
section
variable {prog : Program} {w : World} {n : Nat} {h₀ : Heap}
theorem lookup_one {x y : Str} {d e : D} {ρ : List (Str × D)} (h : ([(x, d)] : List (Str × D)).lookup y = some e) (hx : ρ.lookup x = some d) : ρ.lookup y = some e := by
  rcases lookup_cons_some h with ⟨rfl, rfl⟩ | ⟨_, h⟩
  · exact hx
  · simp at h
theorem cl_gen (T : TopOk h₀) (c : Int) : Cl prog w 2 h₀ (.ref 42) [.int c] (.int (crcN 8 c)) := by
  obtain ⟨o, pm, cd, ho, hd, hc⟩ := T.gen
  refine cl_def (names := ["crc"]) ho hd T.lim hc rfl rfl (fun vs hl => ?_) (by show ∀ x ∈ (dScope (gdef 5)).names, _; decide) (by show ∀ x ∈ _, (dScope (gdef 5)).names.lookup x = _; decide) (by decide) fun A s L W Q E hA hx hL fr k => ?_
  · match vs, hl with
    | [v], _ => rfl
  have T1 := T.ext hx
  refine wpAny_execs_cons (st_forL (V := L :: W) (ds := (List.range 8).map fun (i : Nat) => D.int (0 + i * 1)) hA fr (src_range (ld_range T1 rfl rfl rfl rfl) ex_int rfl rfl)
    (fun i => [("crc", .int (crcN i c))]) (fun y d h => lookup_one h rfl) ?_ ?_)
  · intro V' i d h1 tk E' hVV hd' f1 st1
    refine wpAny_execs_cons (st_if (s := { s with heap := h1, toks := tk }) hA (tx_int (ex_and ((ex_loc f1 rfl).bare f1.live) ex_int)) (fun hb h2 tk2 x2 => ?_) fun hb h2 tk2 x2 => ?_)
    · refine wpAny_execs_cons (st_assign (s := { s with heap := h2, toks := tk2 }) hA (f1.ext x2) (ex_xor (ex_rshift (ex_loc (f1.ext x2) rfl) ex_int (by decide)) ex_int) fun h3 tk3 st3 f3 => wpAny_execs_nil (wpAny_execs_nil ⟨rfl, h3, tk3, rfl, (x2.stay _).trans st3, f3.sub fun y d h => lookup_one h ?_⟩))
      show some _ = some _
      rw [crcN, crcStep, if_pos hb]
    · refine wpAny_execs_cons (st_aug (s := { s with heap := h2, toks := tk2 }) hA (f1.ext x2) rfl ex_int (fun _ _ _ _ _ _ k => irshift_int (by decide) k) fun h3 tk3 st3 f3 => wpAny_execs_nil (wpAny_execs_nil ⟨rfl, h3, tk3, rfl, (x2.stay _).trans st3, f3.sub fun y d h => lookup_one h ?_⟩))
      show some _ = some _
      rw [crcN, crcStep, if_neg (by rw [hb]; exact Bool.false_ne_true)]
  · intro h' tk st f'
    exact wpAny_execs_cons (st_return (s := { s with heap := h', toks := tk }) hA f'.live (ex_loc f' rfl) fun v h2 t2 x2 r2 => k v h2 t2 (st.trans (x2.stay _)) r2)
end
end Mine
end
noncomputable section -- G2
open PySem PySem.W PyProof.Rows
set_option maxRecDepth 100000
set_option linter.unusedVariables false
namespace Mine
section
variable {prog : Program} {w : World} {n : Nat} {h₀ : Heap} {env : Env}
theorem cl_ord {c : Nat} : Cl prog w n h₀ (.builtin "ord") [.str ⟨#[c]⟩] (.int c) := fun A s W vs Q E _ _ _ r k => by
  cases r with
  | cons a b =>
    cases b
    obtain ⟨t, rfl⟩ := a.str_inv
    exact P.ord_of_char (k _ s.heap _ (Ext.refl _) (.int _ _))
theorem cl_lenS {x : Str} (hx : ¬ (x.length : Int) ≥ 2 ^ 63) : Cl prog w n h₀ (.builtin "len") [.str x] (.int x.length) := fun A s W vs Q E _ _ _ r k => by
  cases r with
  | cons a b =>
    cases b
    obtain ⟨t, rfl⟩ := a.str_inv
    exact PyProof.Rows.len_str hx (k _ s.heap _ (Ext.refl _) (.int _ _))
theorem ld_bi {x : Str} {v : Value} (T : TopOk h₀) (hx : x ∈ (["range", "sum", "max", "min", "ord", "str", "len", "sorted", "isinstance", "tuple", "zip"] : List Str)) (hv : ∀ mb : Str → Option Value, (mb "range" = some (.type "range") ∧ mb "sum" = some (.builtin "sum") ∧ mb "max" = some (.builtin "max") ∧ mb "min" = some (.builtin "min") ∧ mb "ord" = some (.builtin "ord") ∧ mb "str" = some (.type "str") ∧ mb "len" = some (.builtin "len") ∧ mb "sorted" = some (.builtin "sorted") ∧ mb "isinstance" = some (.builtin "isinstance") ∧ mb "tuple" = some (.type "tuple")) → mb x = some v)
    (hk : env.scope.kind = .function := by rfl) (hl : env.kindOf x = some .globalImplicit := by rfl) (hg : env.globals = mainGlobals := by rfl) (hb : env.builtins = builtinsNs := by rfl) : Ld prog w env h₀ x v := by
  obtain ⟨mg, mb, n1, n2, r⟩ := T.glob
  exact ld_built (mg := mg) (mb := mb) (hg ▸ n1) (r.2.2.2.2.2.2.1 _ hx) (hb ▸ n2) (hv mb r.2.2.2.2.2.2.2) hk hl
theorem ld_ord (T : TopOk h₀) (hk : env.scope.kind = .function := by rfl) (hl : env.kindOf "ord" = some .globalImplicit := by rfl) (hg : env.globals = mainGlobals := by rfl) (hb : env.builtins = builtinsNs := by rfl) : Ld prog w env h₀ "ord" (.builtin "ord") := ld_bi T (by simp) (fun _ r => r.2.2.2.2.1) hk hl hg hb
theorem ld_len (T : TopOk h₀) (hk : env.scope.kind = .function := by rfl) (hl : env.kindOf "len" = some .globalImplicit := by rfl) (hg : env.globals = mainGlobals := by rfl) (hb : env.builtins = builtinsNs := by rfl) : Ld prog w env h₀ "len" (.builtin "len") := ld_bi T (by simp) (fun _ r => r.2.2.2.2.2.2.1) hk hl hg hb
theorem ld_fn {x : Str} {v : Value} (T : TopOk h₀) (hv : ∀ mg : Str → Option Value, mg "func_std_string" = some (.ref 21) ∧ mg "add_func_stats" = some (.ref 28) ∧ mg "add_callers" = some (.ref 35) ∧ mg "_gen_crc" = some (.ref 42) ∧ mg "_law_seal" = some (.ref 49) ∧ mg "_law_run" = some (.ref 56) → mg x = some v)
    (hk : env.scope.kind = .function := by rfl) (hl : env.kindOf x = some .globalImplicit := by rfl) (hg : env.globals = mainGlobals := by rfl) : Ld prog w env h₀ x v := by
  obtain ⟨mg, mb, n1, n2, r⟩ := T.glob
  exact ld_glob (mg := mg) (hg ▸ n1) (hv mg ⟨r.1, r.2.1, r.2.2.1, r.2.2.2.1, r.2.2.2.2.1, r.2.2.2.2.2.1⟩) hk hl
/-- a call of a def of the text's -/
theorem ex_def {x : Str} {p pos : Pos} {es : List Expr} {e : Expr} {ds : List D} {d : D} {W : List Addr} {f : Addr} {i : Nat} (l : Ld prog w env h₀ x (.ref f)) (hf : DefAt h₀ f i) (hx : ExL prog w n env h₀ W (e :: es) ds)
    (c : Cl prog w n h₀ (.ref f) ds d) (hd : (x == ("__debug__" : Str)) = false := by decide) : Ex prog w n env (.Call (.Name x p) (e :: es) [] pos) h₀ W d :=
  let ⟨_, _, _, ho, hd', _⟩ := hf
  ex_callF l ho hd' hx c hd

/-! _law_run -/
noncomputable def runAt (l : List Nat) : Nat → Int
  | 0 => 2 ^ (32 : Int).toNat - 1
  | i + 1 => crcN 8 (Builtin.bitXor (runAt l i) (l.getD i 0 : Nat))
def runI (x : Str) : Int := Builtin.bitXor (runAt x.cps.toList x.cps.toList.length) (2 ^ (32 : Int).toNat - 1)
theorem cl_run (T : TopOk h₀) (x : Str) : Cl prog w 4 h₀ (.ref 56) [.str x] (.int (runI x)) := by
  obtain ⟨o, pm, cd, ho, hd, hc⟩ := T.run
  refine cl_def (names := ["text"]) ho hd T.lim hc rfl rfl (fun vs hl => ?_) (by show ∀ x ∈ (dScope (gdef 8)).names, _; decide) (by show ∀ x ∈ _, (dScope (gdef 8)).names.lookup x = _; decide) (by decide) fun A s L W Q E hA hx hL fr k => ?_
  · match vs, hl with
    | [v], _ => rfl
  refine wpAny_execs_cons (st_assign hA fr (ex_sub (ex_pow ex_int ex_int (by decide) (by decide)) ex_int) fun h1 tk1 st1 f1 => ?_)
  refine wpAny_execs_cons (st_forL (s := { s with heap := h1, toks := tk1 }) hA f1 (src_str (ex_loc f1 rfl)) (fun i => [("crc", .int (runAt x.cps.toList i))]) (fun y d h => lookup_one h rfl) ?_ ?_)
  · intro V' i d h2 tk E' hVV hd' f2 st2
    have T2 : TopOk h2 := T.ext fun b o e => st2 b o (by simp; rintro rfl; rw [hL] at e; cases e) (st1 b o (by simp; rintro rfl; rw [hL] at e; cases e) (hx b o e))
    have hdd : ∃ c, x.cps.toList[i]? = some c ∧ d = .str ⟨#[c]⟩ := by
      rw [List.getElem?_map] at hd'
      cases e : x.cps.toList[i]? with
      | none => rw [e] at hd'; cases hd'
      | some c => rw [e] at hd'; exact ⟨c, rfl, by simpa using hd'.symm⟩
    obtain ⟨c, hci, rfl⟩ := hdd
    refine wpAny_execs_cons (st_assign (s := { s with heap := h2, toks := tk }) hA f2 (ex_def (ld_fn T2 fun _ r => r.2.2.2.1) T2.gen (ExL.cons (ex_xor (ex_loc f2 rfl) (ex_callB (ld_ord T2) (ExL.cons (ex_loc f2 rfl) ExL.nil) cl_ord)) ExL.nil) ((cl_gen T2 _).lower)) fun h3 tk3 st3 f3 => wpAny_execs_nil ⟨rfl, h3, tk3, rfl, st3, f3.sub fun y d h => lookup_one h ?_⟩)
    show some _ = some _
    rw [runAt, List.getD_eq_getElem?_getD, hci]
    rfl
  · intro h' tk st f'
    refine wpAny_execs_cons (st_return (s := { s with heap := h', toks := tk }) hA f'.live (ex_xor (ex_loc f' rfl) (ex_sub (ex_pow ex_int ex_int (by decide) (by decide)) ex_int)) fun v h2 t2 x2 r2 => k v h2 t2 (st1.trans (st.trans (x2.stay _))) ?_)
    simpa [runI] using r2
end
end Mine
end
noncomputable section -- G3
open PySem PySem.W PyProof.Rows
set_option maxRecDepth 100000
set_option linter.unusedVariables false
namespace Mine
/-! _law_seal -/
noncomputable def whSign (a : Int) (c : Nat) : Nat → Int
  | 0 => a
  | i + 1 => 2 * whSign a c i + Builtin.bitAnd ((c : Int).fdiv (2 ^ (0 + (i : Int) * 1).toNat)) 1
noncomputable def whText (l : List Nat) : Nat → Int
  | 0 => 0
  | i + 1 => whSign (whText l i) (l.getD i 0) 8
noncomputable def whRed (a size : Int) : Nat → Int
  | 0 => a
  | i + 1 => if Builtin.bitAnd ((whRed a size i).fdiv (2 ^ (size + 31 + (i : Int) * -1).toNat)) 1 == 1 then Builtin.bitXor (whRed a size i) (4374732215 * 2 ^ (size + 31 + (i : Int) * -1 - 32).toNat) else whRed a size i
def sealW (x : Str) : Int := whRed (Builtin.bitXor (whText x.cps.toList x.cps.toList.length * 2 ^ (32 : Int).toNat) ((2 ^ (32 : Int).toNat - 1) * 2 ^ (8 * (x.length : Int)).toNat)) (8 * (x.length : Int)) (8 * x.length)
def sealI (x : Str) : Int := 7 - ((sealW x).fdiv (2 ^ (31 : Int).toNat) + 2 * Builtin.bitAnd ((sealW x).fdiv (2 ^ (30 : Int).toNat)) 1 + 4 * Builtin.bitAnd ((sealW x).fdiv (2 ^ (29 : Int).toNat)) 1)
theorem lookup_two {x y x' : Str} {d d' e : D} {ρ : List (Str × D)} (h : ([(x, d), (x', d')] : List (Str × D)).lookup y = some e) (hx : ρ.lookup x = some d) (hx' : ρ.lookup x' = some d') : ρ.lookup y = some e := by
  rcases lookup_cons_some h with ⟨rfl, rfl⟩ | ⟨_, h⟩
  · exact hx
  · exact lookup_one h hx'
theorem lookup_three {x y x' x'' : Str} {d d' d'' e : D} {ρ : List (Str × D)} (h : ([(x, d), (x', d'), (x'', d'')] : List (Str × D)).lookup y = some e) (hx : ρ.lookup x = some d) (hx' : ρ.lookup x' = some d') (hx'' : ρ.lookup x'' = some d'') : ρ.lookup y = some e := by
  rcases lookup_cons_some h with ⟨rfl, rfl⟩ | ⟨_, h⟩
  · exact hx
  · exact lookup_two h hx' hx''
section
variable {prog : Program} {w : World} {n : Nat} {h₀ : Heap} {env : Env}
theorem mulL {a b : Int} (h : Builtin.Int.intBits a ≤ 64 := by decide) : IntMulOk a b := IntMulOk.of_left h
theorem mulR {a b : Int} (h : Builtin.Int.intBits b ≤ 64 := by decide) : IntMulOk a b := IntMulOk.of_right h
theorem ten (P : Nat → Prop) (h : ∀ i : Fin 11, P i.val) (k : Nat) (hk : k ≤ 10) : P k := h ⟨k, by omega⟩
theorem cl_seal (T : TopOk h₀) (x : Str) (hlen : x.length ≤ 10) : Cl prog w 3 h₀ (.ref 49) [.str x] (.int (sealI x)) := by
  obtain ⟨o, pm, cd, ho, hd, hc⟩ := T.sealD
  have hxl : x.cps.toList.length = x.length := by simp [Str.length]
  refine cl_def (names := ["text"]) ho hd T.lim hc rfl rfl (fun vs hl => ?_) (by show ∀ x ∈ (dScope (gdef 7)).names, _; decide) (by show ∀ x ∈ _, (dScope (gdef 7)).names.lookup x = _; decide) (by decide) fun A s L W Q E hA hx hL fr k => ?_
  · match vs, hl with
    | [v], _ => rfl
  have up : ∀ {h : Heap}, Stay [L] s.heap h → TopOk h := fun st => T.ext fun b o e => st b o (by simp; rintro rfl; rw [hL] at e; cases e) (hx b o e)
  refine wpAny_execs_cons (st_assign hA fr ex_int fun h1 tk1 st1 f1 => ?_)
  refine wpAny_execs_cons (st_forL (s := { s with heap := h1, toks := tk1 }) hA f1 (src_str (ex_loc f1 rfl)) (fun i => [("whole", .int (whText x.cps.toList i)), ("text", .str x)]) (fun y d h => lookup_two h rfl rfl) ?_ ?_)
  · intro V' i d h2 tk E' hVV hd' f2 st2
    have hdd : ∃ c, x.cps.toList[i]? = some c ∧ d = .str ⟨#[c]⟩ := by
      rw [List.getElem?_map] at hd'
      cases e : x.cps.toList[i]? with
      | none => rw [e] at hd'; cases hd'
      | some c => rw [e] at hd'; exact ⟨c, rfl, by simpa using hd'.symm⟩
    obtain ⟨c, hci, rfl⟩ := hdd
    refine wpAny_execs_cons (st_forL (s := { s with heap := h2, toks := tk }) (ds := (List.range 8).map fun (i : Nat) => D.int (0 + i * 1)) hA f2 (src_range (ld_range (up (st1.trans st2)) rfl rfl rfl rfl) ex_int rfl rfl) (fun j => [("whole", .int (whSign (whText x.cps.toList i) c j)), ("text", .str x), ("sign", .str ⟨#[c]⟩)]) (fun y d h => lookup_three h rfl rfl rfl) ?_ ?_)
    · intro V'' j d' h3 tk3 E'' hVV' hdj f3 st3
      have T3 := up (st1.trans (st2.trans st3))
      have hj : d' = .int (0 + (j : Int) * 1) := by
        rw [List.getElem?_map] at hdj
        cases hi : (List.range 8)[j]? with
        | none => rw [hi] at hdj; cases hdj
        | some j' =>
          rw [hi] at hdj
          have := (List.getElem?_eq_some_iff.mp hi).2
          simp at this
          subst this
          simpa using hdj.symm
      subst hj
      refine wpAny_execs_cons (st_assign (s := { s with heap := h3, toks := tk3 }) hA f3 (ex_add (ex_mul ex_int (ex_loc f3 rfl) mulL) (ex_and (ex_rshift (ex_callB (ld_ord T3) (ExL.cons (ex_loc f3 rfl) ExL.nil) cl_ord) (ex_loc f3 rfl) (by omega)) ex_int)) fun h4 tk4 st4 f4 => wpAny_execs_nil ⟨rfl, h4, tk4, rfl, st4, f4.sub fun y d h => lookup_three h rfl rfl rfl⟩)
    · intro h' tk' st f'
      refine wpAny_execs_nil ⟨rfl, h', tk', rfl, st, f'.sub fun y d h => lookup_two h ?_ rfl⟩
      show some _ = some _
      rw [whText, List.getD_eq_getElem?_getD, hci]
      simp
  · intro h2 tk2 st2 f2
    have T2 := up (st1.trans st2)
    refine wpAny_execs_cons (st_assign (s := { s with heap := h2, toks := tk2 }) hA f2 (ex_mul ex_int (ex_callB (ld_len T2) (ExL.cons (ex_loc f2 rfl) ExL.nil) (cl_lenS (by omega))) mulL) fun h3 tk3 st3 f3 => ?_)
    have T3 := up (st1.trans (st2.trans st3))
    have b2 : Builtin.Int.intBits 2 = 2 := by decide
    refine wpAny_execs_cons (st_assign (s := { s with heap := h3, toks := tk3 }) hA f3 (ex_xor (ex_mul (ex_loc f3 rfl) (ex_pow ex_int ex_int (by decide) (by decide)) (mulR (by decide))) (ex_mul (ex_sub (ex_pow ex_int ex_int (by decide) (by decide)) ex_int) (ex_pow ex_int (ex_loc f3 rfl) (by omega) (by rw [b2]; omega)) (mulL (by decide)))) fun h4 tk4 st4 f4 => ?_)
    have T4 := up (st1.trans (st2.trans (st3.trans st4)))
    have rng : Builtin.Range.small (8 * (x.length : Int) + 31) 31 (-1) = true ∧ Builtin.Range.rangeSize (8 * (x.length : Int) + 31) 31 (-1) = ((8 * x.length : Nat) : Int) ∧ Builtin.divisionGoesByPylong (31 - (8 * (x.length : Int) + 31)) (-1) = false :=
      ten (fun k => Builtin.Range.small (8 * (k : Int) + 31) 31 (-1) = true ∧ Builtin.Range.rangeSize (8 * (k : Int) + 31) 31 (-1) = ((8 * k : Nat) : Int) ∧ Builtin.divisionGoesByPylong (31 - (8 * (k : Int) + 31)) (-1) = false) (by decide +kernel) _ hlen
    refine wpAny_execs_cons (st_forL (s := { s with heap := h4, toks := tk4 }) hA f4 (src_range3 (ld_range T4 rfl rfl rfl rfl) (ex_add (ex_loc f4 rfl) ex_int) ex_int (ex_neg ex_int) (by decide) rng.1 rng.2.1 rng.2.2)
      (fun j => [("whole", .int (whRed (Builtin.bitXor (whText x.cps.toList x.cps.toList.length * 2 ^ (32 : Int).toNat) ((2 ^ (32 : Int).toNat - 1) * 2 ^ (8 * (x.length : Int)).toNat)) (8 * (x.length : Int)) j))]) (fun y d h => lookup_one h (by show some _ = some _; rw [whRed, List.length_map])) ?_ ?_)
    · intro V' j d' h5 tk5 E' hVV hdj f5 st5
      have hj : j < 8 * x.length ∧ d' = .int (8 * (x.length : Int) + 31 + (j : Int) * -1) := by
        rw [List.getElem?_map] at hdj
        cases hi : (List.range (8 * x.length))[j]? with
        | none => rw [hi] at hdj; cases hdj
        | some j' =>
          rw [hi] at hdj
          have h1 := (List.getElem?_eq_some_iff.mp hi).1
          have := (List.getElem?_eq_some_iff.mp hi).2
          simp at this
          subst this
          exact ⟨by simpa using h1, by simpa using hdj.symm⟩
      obtain ⟨hjl, rfl⟩ := hj
      refine wpAny_execs_cons (st_if (s := { s with heap := h5, toks := tk5 }) hA (tx_eqI (ex_and (ex_rshift ((ex_loc f5 rfl).bare f5.live) ((ex_loc f5 rfl).bare f5.live) (by omega)) ex_int) ex_int) (fun hb h6 tk6 x6 => ?_) fun hb h6 tk6 x6 => ?_)
      · refine wpAny_execs_cons (st_assign (s := { s with heap := h6, toks := tk6 }) hA (f5.ext x6) (ex_xor (ex_loc (f5.ext x6) rfl) (ex_lshift ex_int (ex_sub (ex_loc (f5.ext x6) rfl) ex_int) (by omega) (by rw [show Builtin.Int.intBits 4374732215 = 33 from by decide]; omega))) fun h7 tk7 st7 f7 => wpAny_execs_nil (wpAny_execs_nil ⟨rfl, h7, tk7, rfl, (x6.stay _).trans st7, f7.sub fun y d h => lookup_one h ?_⟩))
        show some _ = some _
        rw [whRed, if_pos hb]
      · refine wpAny_execs_nil (wpAny_execs_nil ⟨rfl, h6, tk6, rfl, x6.stay _, (f5.ext x6).sub fun y d h => lookup_one h ?_⟩)
        show some _ = some _
        rw [whRed, if_neg (by rw [hb]; exact Bool.false_ne_true)]
    · intro h' tk' st f'
      refine wpAny_execs_cons (st_return (s := { s with heap := h', toks := tk' }) hA f'.live (ex_sub ex_int (ex_add (ex_add (ex_rshift (ex_loc f' rfl) ex_int (by decide)) (ex_mul ex_int (ex_and (ex_rshift (ex_loc f' rfl) ex_int (by decide)) ex_int) mulL)) (ex_mul ex_int (ex_and (ex_rshift (ex_loc f' rfl) ex_int (by decide)) ex_int) mulL))) fun v h2 t2 x2 r2 => k v h2 t2 (st1.trans (st2.trans (st3.trans (st4.trans (st.trans (x2.stay _)))))) ?_)
      simpa [sealI, sealW] using r2
end
end Mine
end
noncomputable section -- G4
open PySem PySem.W PyProof.Rows PySem.Builtin
set_option maxRecDepth 100000
set_option linter.unusedVariables false
namespace Mine
theorem fmt_meets (line : Int) (h0 : 0 ≤ line) (h1 : line < 10 ^ 10) (b : Addr) (t t1 t2 t3 : Tok) : Meets («str.__mod__» ⟨[.str ⟨#[37, 115, 58, 37, 100, 40, 37, 115, 41]⟩ t, .ref b], []⟩) (fun _ R s => IsTup s.heap b #[.str (Str.ofString "~") t1, .int line t2, .str (Str.ofString "") t3] ∧ ∀ t' k, R (.ok (.ret (.str (Str.ofString "~" ++ Str.ofString ":" ++ Str.ofString (toString line) ++ Str.ofString "(" ++ Str.ofString "" ++ Str.ofString ")") t'))) { s with toks := k }) := by
  k_dflt kpt_run
/-- a function's text in the tables -/
def textOf (line : Int) : Str := if line = 0 then Str.ofString "" else Str.ofString "~:" ++ Str.ofString (toString line) ++ Str.ofString "()"
theorem hundred (P : Int → Prop) (h : ∀ i : Fin 100, P (i.val : Int)) (k : Int) (h0 : 0 ≤ k) (h1 : k < 100) : P k := by
  have := h ⟨k.toNat, by omega⟩
  simpa [Int.toNat_of_nonneg h0] using this
theorem textOf_fmt (line : Int) (h0 : 0 ≤ line) (h1 : line < 100) : line ≠ 0 → Str.ofString "~" ++ Str.ofString ":" ++ Str.ofString (toString line) ++ Str.ofString "(" ++ Str.ofString "" ++ Str.ofString ")" = textOf line :=
  hundred (fun line => line ≠ 0 → Str.ofString "~" ++ Str.ofString ":" ++ Str.ofString (toString line) ++ Str.ofString "(" ++ Str.ofString "" ++ Str.ofString ")" = textOf line) (by decide +kernel) line h0 h1
section
variable {prog : Program} {w : World} {n : Nat} {h₀ : Heap} {env : Env}
theorem tx_eqT {l r : Expr} {pos : Pos} {x y : Str} {a b : Int} (hl : Ex prog w (n + 1) env l h₀ [] (.tup [.str x, .int a])) (hr : Ex prog w (n + 1) env r h₀ [] (.tup [.str y, .int b])) (hm : behindInMarks .Eq r = false := by rfl) : Tx prog w (n + 1) env (.Compare l [.Eq] [r] pos) h₀ ((x == y) && (a == b)) :=
  tx_cmp hl hr (fun A s u v Q E hA _ ru rv k => by
    obtain ⟨p, vs, rfl, ht, _, rl⟩ := ru.tup_inv
    obtain ⟨q, us, rfl, ht', _, rl'⟩ := rv.tup_inv
    cases rl with
    | cons r1 rl =>
      cases rl with
      | cons r2 rl =>
        cases rl
        cases rl' with
        | cons r3 rl' =>
          cases rl' with
          | cons r4 rl' =>
            cases rl'
            obtain ⟨t1, rfl⟩ := r1.str_inv
            obtain ⟨t2, rfl⟩ := r2.int_inv
            obtain ⟨t3, rfl⟩ := r3.str_inv
            obtain ⟨t4, rfl⟩ := r4.int_inv
            refine SeqAt.eq_tupleAt (e := fun j => if j = 0 then x == y else a == b) ht ht' (by have := hA.un; omega) (fun j h1 h2 => ?_) ?_
            · have hj : j = 0 ∨ j = 1 := by simp at h1; omega
              rcases hj with rfl | rfl
              · exact SeqAt.EqAt.str_str _ _ _ _
              · exact SeqAt.EqAt.int_int _ _ _ _
            · have e : ((List.range (min (([.str x t1, .int a t2] : List Value).toArray.size) (([.str y t3, .int b t4] : List Value).toArray.size))).all (fun j => if j = 0 then x == y else a == b) && ([.str x t1, .int a t2] : List Value).toArray.size == ([.str y t3, .int b t4] : List Value).toArray.size) = ((x == y) && (a == b)) := by
                simp [List.range_succ]
              rw [e]
              exact k s.heap s.toks (Ext.refl _)) hm
theorem cl_std (T : TopOk h₀) (line : Int) (h0 : 0 ≤ line) (h1 : line < 100) : Cl prog w 3 h₀ (.ref 21) [.tup [.str (Str.ofString "~"), .int line, .str (Str.ofString "")]] (.str (textOf line)) := by
  obtain ⟨o, pm, cd, ho, hd, hc⟩ := T.std
  refine cl_def (names := ["func_name"]) ho hd T.lim hc rfl rfl (fun vs hl => ?_) (by show ∀ x ∈ (dScope (gdef 1)).names, _; decide) (by show ∀ x ∈ _, (dScope (gdef 1)).names.lookup x = _; decide) (by decide) fun A s L W Q E hA hx hL fr k => ?_
  · match vs, hl with
    | [v], _ => rfl
  refine wpAny_execs_cons (st_if hA (tx_eqT (x := Str.ofString "~") (a := line) (y := Str.ofString "~") (b := 0) (ex_cut (a := 0) (b := 2) (k := 2) ((ex_loc fr rfl).bare fr.live) Bd.none (Bd.some ex_int) rfl rfl rfl rfl) (ex_tuple (ExL.cons ex_str (ExL.cons ex_int ExL.nil)))) (fun hb h2 tk2 x2 => ?_) fun hb h2 tk2 x2 => ?_)
  · have hl0 : line = 0 := by simpa using hb
    subst hl0
    have fr2 := fr.ext x2
    refine wpAny_execs_cons (st_assign (s := { s with heap := h2, toks := tk2 }) hA fr2 (ex_place (ex_loc fr2 rfl) ex_int (by decide) (by decide) rfl) fun h3 tk3 st3 f3 => ?_)
    refine wpAny_execs_cons (st_if (s := { s with heap := h3, toks := tk3 }) (b := false) (n := 2) hA ?_ (fun e => nomatch e) fun _ h4 tk4 x4 => ?_)
    · intro A' s' Q' E' hA' hx' kk
      refine wpAny_isTrue_BoolOp (wpAny_allTrue_And_cons (wpAny_isTrue_value (wpAny_Call_method (T := "str") (id := "str.startswith") rfl rfl rfl F.plainAttrs_str F.slot_str_startswith F.type_str_startswith ?_)))
      have ex := (ex_loc (n := 2) (x := "name") (pos := ⟨5, 11, 5, 15⟩) f3 rfl)
      refine ex A' s' _ _ hA' f3.live hx' fun v h5 t5 x5 r5 => ?_
      obtain ⟨t, rfl⟩ := r5.str_inv
      refine ⟨typeIs_str _ _ _, (fun a e => nomatch e), Calls.callWith_builtin rfl (Calls.evalArgs_plain (wpAny_items_cons (wpAny_Constant_str (wpAny_items_nil ?_))))⟩
      exact SC.startswith (wpAny_truthy_bool (kk h5 _ x5))
    · exact wpAny_execs_cons (st_return (s := { s with heap := h4, toks := tk4 }) hA (f3.ext x4).live (ex_loc (f3.ext x4) rfl) fun v h5 t5 x5 r5 => k v h5 t5 ((x2.stay _).trans (st3.trans ((x4.trans x5).stay _))) r5)
  · have hl0 : line ≠ 0 := by
      intro e; subst e; simp at hb
    have fr2 := fr.ext x2
    refine wpAny_execs_cons (st_return (s := { s with heap := h2, toks := tk2 }) (V := L :: W) (d := .str (textOf line)) hA fr2.live ?_ fun v h3 t3 x3 r3 => k v h3 t3 ((x2.trans x3).stay _) r3)
    refine ex_bin ex_str (ex_loc fr2 rfl) fun A' s' u v Q' E' hA' _ _ ru rv kk => ?_
    obtain ⟨t, rfl⟩ := ru.str_inv
    obtain ⟨b, vs, rfl, ht, _, rl⟩ := rv.tup_inv
    cases rl with
    | cons r1 rl =>
      cases rl with
      | cons r2 rl =>
        cases rl with
        | cons r3 rl =>
          cases rl
          obtain ⟨t1, rfl⟩ := r1.str_inv
          obtain ⟨t2, rfl⟩ := r2.int_inv
          obtain ⟨t3, rfl⟩ := r3.str_inv
          have hT : s'.TypeIs (.ref b) "tuple" := Heap.IsTuple.typeIs ht
          have hX : (Str.ofString "%s:%d(%s)" : Str) = ⟨#[37, 115, 58, 37, 100, 40, 37, 115, 41]⟩ := by decide +kernel
          rw [hX]
          exact KPt.bin_left (T := "str") (U := "tuple") (op := .Mod) (by decide) (typeIs_str s' _ t) hT F.fills_str_mod KPt.fills_tuple F.slot_str_mod
            (call_meets F.slot_str_mod (typeIs_str s' _ t) F.entry_str_mod (F.args_str_mod_2 _ _) (fmt_meets line h0 (by omega) b t t1 t2 t3) ⟨ht, fun t' k' => ⟨(fun e => nomatch e), kk _ s'.heap k' (Ext.refl _) (textOf_fmt line h0 h1 hl0 ▸ .str _ _)⟩⟩)
end
end Mine
end
noncomputable section -- C1
open PySem PySem.W PyProof.Rows
set_option maxRecDepth 100000
set_option linter.unusedVariables false
namespace Mine
section
variable {prog : Program} {w : World} {n : Nat} {env : Env} {h₀ h₁ : Heap} {V W : List Addr} {L : Addr} {ρ : List (Str × D)}
theorem zip_get {α β : Type} : ∀ {ks : List α} {vs : List β} {i : Nat} {k : α} {v : β}, (ks.zip vs)[i]? = some (k, v) → ks[i]? = some k ∧ vs[i]? = some v
  | [], _, _, _, _, h => by simp at h
  | _ :: _, [], _, _, _, h => by simp at h
  | a :: ks, b :: vs, 0, k, v, h => by simp at h; simp [h]
  | a :: ks, b :: vs, i + 1, k, v, h => by simp only [List.zip_cons_cons, List.getElem?_cons_succ] at h ⊢; exact zip_get h
/-- for k, v in d.items(): the turns may change the frame and the object at nd -/
theorem st_forItems {A : Around} {s : Shared} {x xk xv : Str} {px pk pv pt apos cpos pos : Pos} {k0 : Nat} {body : List Stmt} {Q : Flow → Shared → Prop} {E : Value → Shared → Prop} {ks : List Str} {ds : List D} (hA : AOk n A) (l : Fra prog w s.heap env.locals V ρ)
    (hx : ρ.lookup x = some (.dS ks ds)) (R : Nat → List (Str × D)) (nd : Addr) (hnd : nd ∈ V) (hndL : nd ≠ env.locals) (M : Nat → Heap → Prop) (hM0 : M 0 s.heap) (hMs : ∀ i h h', M i h → (∀ o, h.get? nd = some o → h'.get? nd = some o) → M i h')
    (hR0 : ∀ y d, (R 0).lookup y = some d → ρ.lookup y = some d)
    (turn : ∀ V' i k d h1 tk E', (∀ b ∈ V, b ∈ V') → ks[i]? = some k → ds[i]? = some d → Fra prog w h1 env.locals V' ((xv, d) :: (xk, .str k) :: R i) → M i h1 → Stay [env.locals, nd] s.heap h1 →
      wpAny (model prog w) A (execs body env) (fun f s3 => f = .next ∧ ∃ h3 tk3, s3 = { s with heap := h3, toks := tk3 } ∧ Stay [env.locals, nd] h1 h3 ∧ Fra prog w h3 env.locals V' (R (i + 1)) ∧ M (i + 1) h3) E' { s with heap := h1, toks := tk })
    (done : ∀ h' tk, Stay [env.locals, nd] s.heap h' → Fra prog w h' env.locals V (R ks.length) → M ks.length h' → Q .next { s with heap := h', toks := tk })
    (hline : (apos.endLine == cpos.line) = true := by rfl) (hk : env.scope.kind = .function := by rfl) (hl : env.kindOf x = some .local := by rfl) (hlk : env.kindOf xk = some .local := by rfl) (hlv : env.kindOf xv = some .local := by rfl) (hdb : (x == ("__debug__" : Str)) = false := by decide)
    (hbase : attributeBase (.Name x px) "items" env (eval (.Name x px) env) = eval (.Name x px) env := by rfl) (hfs : ∀ v, foldedSetIterable (.Call (.Attribute (.Name x px) "items" apos) [] [] cpos) env v = pure v := by intro _; rfl)
    (hass : assignEach [.Name xk pk, .Name xv pv] env = [(false, assign (.Name xk pk) env), (false, assign (.Name xv pv) env)] := by rfl) :
    wpAny (model prog w) A (exec (.For (.Tuple [.Name xk pk, .Name xv pv] k0 pt) (.Call (.Attribute (.Name x px) "items" apos) [] [] cpos) body [] pos) env) Q E s := by
  obtain ⟨v0, l0, r0⟩ := l.loc.get hx hk hl
  obtain ⟨d, vs, rfl, hd, hlen, hsm, hdV, rl⟩ := r0.dS_inv
  obtain ⟨od, es, ep, hod, hod'⟩ := id hd
  have hat : s.heap.DictAt (strKind prog w) d (ks.zip vs) ep := ⟨od, es, hod, hod'⟩
  have hzl : (ks.zip vs).length = ks.length := by simp [hlen]
  refine wpAny_For (wpAny_Call_items hsm hd hbase hline (fun Q' hq => wpAny_Name (l0 A s _ _ (Ext.refl _) hq) hdb) ?_) hfs
  refine wpAny_pyIter_items (knd := strKind prog w) (d := d) (kvs := ks.zip vs) (ep := ep) ⟨_, Heap.get?_push_size _ rfl, rfl, rfl⟩ (hat.push _) ?_
  have hsz : (s.heap.push { cls := .type "dict_items", data := .fields #[.ref d] }).objs.size = s.heap.objs.size + 1 := Heap.size_push ..
  generalize hit0 : (s.heap.push { cls := .type "dict_items", data := .fields #[.ref d] }).objs.size = it at *
  have hIs : s.heap.get? it = none := Heap.get?_none_of_le (by omega)
  have hIV : it ∉ V := not_in l.live hIs
  have hLV : env.locals ∈ V := l.mem
  have hitd : d ≠ it := fun e => by rw [e, hIs] at hod; cases hod
  generalize hH0 : (s.heap.push { cls := .type "dict_items", data := .fields #[.ref d] }).push { cls := .type "dict_itemiterator", data := .fields #[.none, .bool false, .ref d, .int 0 0, .int (ks.zip vs).length 0, .int ep 0, .none, .none] } = H0
  have hget0 : IsItemIter H0 it d 0 (ks.zip vs).length ep .none .none := by rw [← hH0, ← hit0]; exact Heap.get?_push_size _ rfl
  have x0 : Ext s.heap H0 := by rw [← hH0]; exact (Ext.push _ _).trans (Ext.push _ _)
  have wv : ∀ b ∈ [env.locals, nd], b ∈ V := by
    intro b hb
    rcases List.mem_cons.mp hb with rfl | hb
    · exact hLV
    · rw [List.mem_singleton.mp hb]; exact hnd
  refine codeAny_forLoop_any (R := fun r s' => match r with | .ok f => Q f s' | .error e => cameBackBy (model prog w) A env E e s')
    (fun k s' => ∃ h' tk i ok ov, s' = { s with heap := h', toks := tk } ∧ IsItemIter h' it d i (ks.zip vs).length ep ok ov ∧ i ≤ ks.length ∧ k = ks.length + 1 - i ∧ Fra prog w h' env.locals (it :: V) (R i) ∧ M i h' ∧ Stay [env.locals, nd] s.heap h' ∧ Stay (it :: V) s.heap h') ?_ (ks.length + 1)
    ⟨H0, s.toks, 0, .none, .none, rfl, hget0, Nat.zero_le _, rfl, (l.sub hR0).more hIs x0 ⟨_, hget0⟩, hMs 0 _ _ hM0 (fun o e => x0 nd o e), x0.stay _, x0.stay _⟩
  rintro k s' ⟨H, tk, i, ok, ov, rfl, hit', hi, rfl, hF, hM, hS, hR⟩
  have hdH : H.DictAt (strKind prog w) d (ks.zip vs) ep := ⟨od, es, hR d od (by simp [hitd, hdV]) hod, hod'⟩
  by_cases hlt : i < ks.length
  · obtain ⟨key0, hkey0⟩ : ∃ k, ks[i]? = some k := ⟨ks[i], by simp [hlt]⟩
    have hltv : i < vs.length := by omega
    have hx' : (ks.zip vs)[i]? = some (ks[i], vs[i]) := by simp [List.getElem?_zip_eq_some, hlt, hltv]
    refine wpAny_pyNext_items_item hit' hdH hx' fun key h₁ hkey heo ht₁ hz₁ hk₁ => ?_
    refine wpAny_letOwnedTupleGo_items heo fun h₂ he₂ hs₂ => ?_
    replace hs₂ : Heap.SameBut it h₁ h₂ := hs₂
    have hiH : it < H.objs.size := Heap.lt_size hit'
    have st2 : Stay [it] H h₂ := fun b o hb e => hs₂.extBut b o (by simpa using hb) (hk₁ b o (by simpa using hb) e)
    have ht₂ : h₂.IsTuple H.objs.size #[key, vs[i]] := ⟨_, (hs₂.2 _ (Nat.ne_of_gt hiH)).trans ht₁, rfl, _, rfl⟩
    have F2 : Fra prog w h₂ env.locals (it :: V) (R i) := hF.next hLV hIV st2 ⟨_, he₂⟩
    have hn2 : (assignEach [Expr.Name xk pk, Expr.Name xv pv] env).length = (#[key, vs[i]] : Array Value).size := by rw [hass]; rfl
    refine wpAny_assign_Tuple hA.hd ht₂ hn2 (by rw [hass]; rfl) fun h₃ hx₃ => ?_
    have x3 : Ext h₂ h₃ := fun b o e => hx₃ b o (Nat.ne_of_lt (Heap.lt_size e)) e
    rw [hass]
    show wpAny _ _ (do holding [vs[i]] (assign (.Name xk pk) env key); do holding [] (assign (.Name xv pv) env vs[i]); pure ()) _ _ _
    obtain ⟨tkey, rfl⟩ := Value.isStrOf_shape hkey
    have mV : nd ≠ it := fun e => hIV (e ▸ hnd)
    refine wpAny_bind (wpAny_holding (wpAny_assign_Name (st_store (s := { s with heap := h₃, toks := tk }) (F2.ext x3) (.str _ _) (fun h₄ tk4 st4 f4 => wpAny_bind (wpAny_holding (wpAny_assign_Name (st_store (s := { s with heap := h₄, toks := tk4 }) (d := ds[i]'(by rw [← rl.length]; exact hltv)) f4 ?_ (fun h₅ tk5 st5 f5 => wpAny_pure ?_) hk hlv)))) hk hlk)))
    · obtain ⟨dd, hdd, rv⟩ := rl.get' (i := i) (v := vs[i]) (by simp [hltv])
      have e1 : dd = ds[i]'(by rw [← rl.length]; exact hltv) := by
        rw [List.getElem?_eq_getElem (by rw [← rl.length]; exact hltv)] at hdd
        exact (Option.some.inj hdd).symm
      subst e1
      refine (Rp.more hIs rv).stay ?_
      intro b o hb e
      refine st4 b o (fun m => hb ?_) (x3 b o (st2 b o (fun m => hb ?_) (hR b o hb e)))
      · rw [List.mem_singleton.mp m]; exact List.mem_cons_of_mem _ hLV
      · rw [List.mem_singleton.mp m]; exact List.mem_cons_self
    · have hL : env.locals ≠ it := fun e => hIV (e ▸ hLV)
      have s5 : Stay [env.locals] h₂ h₅ := (x3.stay _).trans (st4.trans st5)
      have hS5 : Stay [env.locals, nd] s.heap h₅ := fun b o hb e => s5 b o (fun m => hb (by simp at m; simp [m])) (st2 b o (by simp; rintro rfl; rw [hIs] at e; cases e) (hS b o hb e))
      have hM5 : M i h₅ := by
        refine hMs i _ _ hM fun o e => ?_
        exact s5 nd o (by simpa using hndL) (st2 nd o (by simpa using mV) e)
      refine wpAny_mono (turn (it :: V) i ks[i] _ h₅ tk5 _ (fun b hb => List.mem_cons_of_mem _ hb) (by simp [hlt]) (List.getElem?_eq_getElem (by rw [← rl.length]; exact hltv)) f5 hM5 hS5) (fun f s3 h3 => ?_) fun _ _ e => e
      obtain ⟨rfl, h6, tk6, rfl, st6, f6, hM6⟩ := h3
      refine ⟨ks.length + 1 - (i + 1), by omega, h6, tk6, i + 1, _, _, rfl, st6 it _ (fun m => hIV (wv it m)) (s5 it _ (by simpa using hL.symm) he₂), hlt, rfl, f6, hM6, hS5.trans st6, ?_⟩
      intro b o hb e
      refine st6 b o (fun m => hb (List.mem_cons_of_mem _ (wv b m))) (s5 b o (fun m => hb ?_) (st2 b o (fun m => hb ?_) (hR b o hb e)))
      · rw [List.mem_singleton.mp m]; exact List.mem_cons_of_mem _ hLV
      · rw [List.mem_singleton.mp m]; exact List.mem_cons_self
  · have hin : i = ks.length := by omega
    subst hin
    refine wpAny_pyNext_items_end hA.hd hit' hdH (by simp [hzl]) fun h₁ he₁ => wpAny_execs_nil ?_
    have st1 : Stay [it] H h₁ := fun b o hb e => he₁ b o (by simpa using hb) e
    refine done h₁ tk (fun b o hb e => st1 b o (by simp; rintro rfl; rw [hIs] at e; cases e) (hS b o hb e)) (hF.drop hLV hIV st1) (hMs _ _ _ hM fun o e => st1 nd o (by simp; rintro rfl; exact hIV hnd) e)

/-! add_callers -/
def keysOf (kv : List (Str × Int)) : List Str := kv.map (·.1)
def valsOf (kv : List (Str × Int)) : List D := kv.map fun p => D.int p.2
/-- a table of counts -/
def dC (kv : List (Str × Int)) : D := .dS (keysOf kv) (valsOf kv)
def putC (kv : List (Str × Int)) (k : Str) (i : Int) : List (Str × Int) := if kv.any (fun p => p.1 = k) then kv.map (fun p => if p.1 = k then (p.1, p.2 + i) else p) else kv ++ [(k, i)]
/-- the object at nd is a dict that holds kv -/
def Holds (prog : Program) (w : World) (h : Heap) (nd : Addr) (kv : List (Str × Int)) : Prop := ∃ vs, h.DictOf (strKind prog w) nd ((keysOf kv).zip vs) ∧ (keysOf kv).length = vs.length ∧ RpL prog w h [] vs (valsOf kv)
theorem Holds.keep {h h' : Heap} {nd : Addr} {kv : List (Str × Int)} (x : Holds prog w h nd kv) (k : ∀ o, h.get? nd = some o → h'.get? nd = some o) : Holds prog w h' nd kv := by
  obtain ⟨vs, ⟨o, es, ep, ho, r⟩, hl, rl⟩ := x
  refine ⟨vs, ⟨o, es, ep, k o ho, r⟩, hl, ?_⟩
  have key : ∀ {kv : List (Str × Int)} {vs : List Value}, RpL prog w h [] vs (valsOf kv) → RpL prog w h' [] vs (valsOf kv) := by
    intro kv
    induction kv with
    | nil => intro vs r; cases r; exact .nil
    | cons p kv ih => intro vs r; cases r with | cons a b => cases a; exact .cons (.int _ _) (ih b)
  exact key rl
/-- the values' data as ints -/
theorem vals_ints {h : Heap} {W : List Addr} : ∀ {kv : List (Str × Int)} {vs : List Value}, RpL prog w h W vs (valsOf kv) → (∀ (h' : Heap) (W' : List Addr), RpL prog w h' W' vs (valsOf kv))
  | [], _, .nil => fun _ _ => .nil
  | _ :: _, _, .cons a b => fun h' W' => by cases a; exact .cons (.int _ _) (vals_ints b h' W')
theorem stored_zip {kv : List (Str × Int)} {vs : List Value} {k : Str} {i : Int} {t : Tok} {h : Heap} (hl : (keysOf kv).length = vs.length) (r : RpL prog w h [] vs (valsOf kv)) (b : Bool) (hb : (kv.any fun p => p.1 = k) = b) :
    ∃ us, stored ((keysOf kv).zip vs) k (.int i t) = (keysOf (if b then kv.map (fun p => if p.1 = k then (p.1, i) else p) else kv ++ [(k, i)])).zip us ∧ (keysOf (if b then kv.map (fun p => if p.1 = k then (p.1, i) else p) else kv ++ [(k, i)])).length = us.length ∧ RpL prog w h [] us (valsOf (if b then kv.map (fun p => if p.1 = k then (p.1, i) else p) else kv ++ [(k, i)])) := by
  have any_eq : ∀ {kv : List (Str × Int)} {vs : List Value}, (keysOf kv).length = vs.length → (((keysOf kv).zip vs).any fun q => decide (q.1 = k)) = (kv.any fun p => p.1 = k) := by
    intro kv
    induction kv with
    | nil => intro vs _; rfl
    | cons p kv ih =>
      intro vs hl
      cases vs with
      | nil => simp [keysOf] at hl
      | cons v vs =>
        simp only [keysOf, List.map_cons, List.zip_cons_cons, List.any_cons]
        have := ih (vs := vs) (by simpa [keysOf] using hl)
        simp only [keysOf] at this
        rw [this]
  subst hb
  unfold stored
  rw [any_eq hl]
  cases hb : (kv.any fun p => decide (p.1 = k)) with
  | true =>
    simp only [if_true]
    clear hb
    induction kv generalizing vs with
    | nil => exact ⟨[], by simp [keysOf], rfl, .nil⟩
    | cons p kv ih =>
      cases r with
      | cons a b =>
        rename_i v vs
        obtain ⟨us, e1, e2, e3⟩ := ih (vs := vs) (by simpa [keysOf] using hl) b
        by_cases hp : p.1 = k
        · refine ⟨.int i t :: us, ?_, ?_, ?_⟩
          · simp only [keysOf, List.map_cons, List.zip_cons_cons, hp, if_true] at e1 ⊢
            rw [e1]
          · simpa [keysOf, hp] using e2
          · simp only [valsOf, List.map_cons, hp, if_true]
            exact .cons (.int _ _) e3
        · refine ⟨v :: us, ?_, ?_, ?_⟩
          · simp only [keysOf, List.map_cons, List.zip_cons_cons, hp, if_false] at e1 ⊢
            rw [e1]
          · simpa [keysOf, hp] using e2
          · simp only [valsOf, List.map_cons, hp, if_false]
            exact .cons a e3
  | false =>
    refine ⟨vs ++ [.int i t], ?_, ?_, ?_⟩
    · simp only [Bool.false_eq_true, if_false, keysOf, List.map_append, List.map_cons, List.map_nil]
      rw [List.zip_append (by simpa [keysOf] using hl)]
      rfl
    · simp [keysOf] at hl ⊢; omega
    · simp only [Bool.false_eq_true, if_false, valsOf, List.map_append, List.map_cons, List.map_nil]
      exact RpL.append (.cons (.int _ _) .nil) r
end
end Mine
end
noncomputable section -- C2
open PySem PySem.W PyProof.Rows
set_option maxRecDepth 100000
set_option linter.unusedVariables false
namespace Mine
theorem lookup_cons' {x y : Str} {d e : D} {ρ ρ' : List (Str × D)} (h : ((x, d) :: ρ).lookup y = some e) (hx : ρ'.lookup x = some d) (hr : ρ.lookup y = some e → ρ'.lookup y = some e) : ρ'.lookup y = some e := by
  rcases lookup_cons_some h with ⟨rfl, rfl⟩ | ⟨_, h⟩
  · exact hx
  · exact hr h
section
variable {prog : Program} {w : World} {n : Nat} {env : Env} {h₀ h₁ : Heap} {V W : List Addr} {L : Addr} {ρ : List (Str × D)}
theorem Fra.same {h h' : Heap} {a : Addr} (l : Fra prog w h L V ρ) (ha : a ∈ V) (hL : L ≠ a) (x : Heap.SameBut a h h') (ho : ∃ o, h'.get? a = some o) : Fra prog w h' L V ρ :=
  ⟨l.loc.stay (X := [a]) (Stay.of_same x (by simp)) (by simpa using hL) (fun b hb => List.mem_singleton.mp hb ▸ ha), fun b hb => by
    by_cases e : b = a
    · exact e ▸ ho
    · obtain ⟨o, h1⟩ := l.live b hb
      exact ⟨o, (x.2 b e).trans h1⟩, l.mem⟩
theorem DictOf.obj {K : Type} [DecidableEq K] {knd : KeyKind prog w K} {h : Heap} {a : Addr} {kvs : List (K × Value)} (x : h.DictOf knd a kvs) : ∃ o, h.get? a = some o := let ⟨o, _, _, ho, _⟩ := x; ⟨o, ho⟩
/-- nd[k] = v, an int -/
theorem st_put {A : Around} {s : Shared} {x : Str} {px p1 pos : Pos} {ie value : Expr} {nd : Addr} {kv kv' : List (Str × Int)} {k : Str} {i : Int} {b : Bool} {Q : Flow → Shared → Prop} {E : Value → Shared → Prop} (hA : AOk n A) (l : Fra prog w s.heap env.locals V ρ) (hx : ρ.lookup x = some (.raw (.ref nd)))
    (hndV : nd ∈ V) (hndL : env.locals ≠ nd) (hh : Holds prog w s.heap nd kv) (hi : Ex prog w n env ie s.heap V (.str k)) (hv : Ex prog w n env value s.heap V (.int i)) (hb : (kv.any fun p => p.1 = k) = b) (hkv : (if b then kv.map (fun p => if p.1 = k then (p.1, i) else p) else kv ++ [(k, i)]) = kv') (hsz : kv.length ≤ sizeLine)
    (kk : ∀ h' tk, Stay [nd] s.heap h' → Fra prog w h' env.locals V ρ → Holds prog w h' nd kv' → Q .next { s with heap := h', toks := tk })
    (hs : swapsWith value (some (.Subscript (.Name x px) ie p1)) pos.line env = pure false := by rfl) (hk : env.scope.kind = .function := by rfl) (hl : env.kindOf x = some .local := by rfl) (hdb : (x == ("__debug__" : Str)) = false := by decide) :
    wpAny (model prog w) A (exec (.Assign [.Subscript (.Name x px) ie p1] value pos) env) Q E s :=
  wpAny_Assign_Subscript (hv A s _ _ hA l.live (Ext.refl _) fun v h1 t1 x1 r1 => by
    have l1 := l.ext x1
    refine ex_loc (n := n) l1 hx hk hl hdb A _ _ _ hA l1.live (Ext.refl _) fun ov h2 t2 x2 r2 => ?_
    refine hi A _ _ _ hA l.live (x1.trans x2) fun iv h3 t3 x3 r3 => ?_
    have e2 := r2.raw_inv
    subst e2
    obtain ⟨ti, rfl⟩ := r3.str_inv
    obtain ⟨tv, rfl⟩ := r1.int_inv
    have x13 := x1.trans (x2.trans x3)
    obtain ⟨vs, hd, hlen, rl⟩ := hh.keep fun o e => x13 nd o e
    have hzl : ((keysOf kv).zip vs).length ≤ sizeLine := by simp [keysOf] at hlen ⊢; omega
    refine wpAny_setItem_pairs (s := { s with heap := h3, toks := t3 }) (strKind_is prog w k ti) hd (fun h' hd' hsb => ?_) hzl
    obtain ⟨us, e1, e2, e3⟩ := stored_zip (prog := prog) (w := w) (k := k) (i := i) (t := tv) hlen rl b hb
    rw [hkv] at e1 e2 e3
    rw [e1] at hd'
    refine kk h' _ ((x13.stay _).trans (Stay.of_same hsb (by simp))) ((l.ext x13).same hndV hndL hsb (DictOf.obj hd')) ⟨us, hd', e2, vals_ints e3 _ _⟩) hs
theorem take_succ_snoc {α : Type} {l : List α} {i : Nat} {a : α} (h : l[i]? = some a) : l.take (i + 1) = l.take i ++ [a] := by simp [List.take_add_one, h]
theorem not_any_take {kv : List (Str × Int)} {i : Nat} {p : Str × Int} (hn : (keysOf kv).Nodup) (h : kv[i]? = some p) : ((kv.take i).any fun q => q.1 = p.1) = false := by
  rw [List.any_eq_false]
  intro q hq e
  have e' : q.1 = p.1 := by simpa using e
  obtain ⟨j, hj, hj'⟩ := List.getElem_of_mem hq
  have hj2 : j < i ∧ j < kv.length := by simp at hj; omega
  have h1 : (keysOf kv)[j]? = some p.1 := by
    simp only [keysOf, List.getElem?_map]
    have : kv[j]? = some q := by
      rw [List.getElem_take] at hj'
      rw [← hj']; simp [hj2.2]
    rw [this]; simp [e']
  have h2 : (keysOf kv)[i]? = some p.1 := by simp [keysOf, h]
  have := (List.getElem?_inj (by simpa [keysOf] using hj2.2) hn).mp (h1.trans h2.symm)
  omega
theorem value_at {h : Heap} {W : List Addr} {k : Str} : ∀ {kv : List (Str × Int)} {vs : List Value}, RpL prog w h W vs (valsOf kv) → (keysOf kv).Nodup →
    ((kv.any fun p => p.1 = k) = true → ∃ a t, valueAt ((keysOf kv).zip vs) k = some (.int a t) ∧ ∀ p ∈ kv, p.1 = k → p.2 = a) ∧ ((kv.any fun p => p.1 = k) = false → valueAt ((keysOf kv).zip vs) k = none)
  | [], _, .nil, _ => ⟨fun h => by simp at h, fun _ => rfl⟩
  | p :: kv, v :: vs, .cons a b, hn => by
    have hn' := List.nodup_cons.mp (show (p.1 :: keysOf kv).Nodup from hn)
    obtain ⟨i1, i2⟩ := value_at (k := k) b hn'.2
    by_cases hp : p.1 = k
    · refine ⟨fun _ => ?_, fun h => by simp [hp] at h⟩
      cases a with
      | int _ t =>
        refine ⟨p.2, t, by simp [valueAt, keysOf, hp], fun q hq hk => ?_⟩
        rcases List.mem_cons.mp hq with rfl | hq
        · rfl
        · exact absurd (List.mem_map.mpr ⟨q, hq, hk.trans hp.symm⟩) hn'.1
    · have e1 : ((p :: kv).any fun p => p.1 = k) = (kv.any fun p => p.1 = k) := by simp [hp]
      have e2 : valueAt ((keysOf (p :: kv)).zip (v :: vs)) k = valueAt ((keysOf kv).zip vs) k := by simp [valueAt, keysOf, hp]
      rw [e1, e2]
      refine ⟨fun h => ?_, i2⟩
      obtain ⟨a', t, h1, h2⟩ := i1 h
      refine ⟨a', t, h1, fun q hq hk => ?_⟩
      rcases List.mem_cons.mp hq with rfl | hq
      · exact absurd hk hp
      · exact h2 q hq hk
theorem cl_isi {i : Int} : Cl prog w n h₀ (.builtin "isinstance") [.int i, .raw (.type "tuple")] (.bool false) := fun A s W vs Q E _ _ _ r k => by
  cases r with
  | cons a b =>
    cases b with
    | cons b c =>
      cases c
      obtain ⟨t, rfl⟩ := a.int_inv
      have e := b.raw_inv
      subst e
      exact IsiPair.int_tuple (k _ s.heap _ (Ext.refl _) (.bool _))
/-- nd[k] += v -/
theorem st_more {A : Around} {s : Shared} {x : Str} {px p1 pos : Pos} {ie value : Expr} {nd : Addr} {kv : List (Str × Int)} {k : Str} {i : Int} {Q : Flow → Shared → Prop} {E : Value → Shared → Prop} (hA : AOk n A) (l : Fra prog w s.heap env.locals V ρ) (hx : ρ.lookup x = some (.raw (.ref nd)))
    (hndV : nd ∈ V) (hndL : env.locals ≠ nd) (hh : Holds prog w s.heap nd kv) (hn : (keysOf kv).Nodup) (hi : Ex prog w n env ie s.heap V (.str k)) (hv : Ex prog w n env value s.heap V (.int i)) (hb : (kv.any fun p => p.1 = k) = true) (hsz : kv.length ≤ sizeLine)
    (kk : ∀ h' tk, Stay [nd] s.heap h' → Fra prog w h' env.locals V ρ → Holds prog w h' nd (putC kv k i) → Q .next { s with heap := h', toks := tk })
    (hai : ∀ ov iv new, augStore ie ov iv new = (do holding [new, ov, iv] (setItem ov iv new); release [new, ov, iv] []; pure .next) := by intros; rfl) (hk : env.scope.kind = .function := by rfl) (hl : env.kindOf x = some .local := by rfl) (hdb : (x == ("__debug__" : Str)) = false := by decide) :
    wpAny (model prog w) A (exec (.AugAssign (.Subscript (.Name x px) ie p1) .Add value pos) env) Q E s :=
  wpAny_AugAssign_SubscriptAny (ex_loc (n := n) l hx hk hl hdb A s _ _ hA l.live (Ext.refl _) fun ov h1 t1 x1 r1 => by
    have e1 := r1.raw_inv
    subst e1
    refine hi A _ _ _ hA l.live x1 fun iv h2 t2 x2 r2 => ?_
    obtain ⟨ti, rfl⟩ := r2.str_inv
    obtain ⟨vs, hd, hlen, rl⟩ := hh.keep fun o e => x2 nd o (x1 nd o e)
    obtain ⟨a, ta, hva, hall⟩ := (value_at (k := k) rl hn).1 hb
    refine wpAny_getItem_of (s := { s with heap := h2, toks := t2 }) (strKind_is prog w k ti) hd.mapOf hva ?_
    refine hv A _ _ _ hA l.live (x1.trans x2) fun v h3 t3 x3 r3 => ?_
    obtain ⟨tv, rfl⟩ := r3.int_inv
    refine iadd_int ?_
    obtain ⟨vs, hd, hlen, rl⟩ := hh.keep fun o e => x3 nd o (x2 nd o (x1 nd o e))
    have hzl : ((keysOf kv).zip vs).length ≤ sizeLine := by simp [keysOf] at hlen ⊢; omega
    refine wpAny_setItem_pairs (s := { s with heap := h3, toks := t3 + 1 }) (strKind_is prog w k ti) hd (fun h' hd' hsb => ?_) hzl
    obtain ⟨us, e1, e2, e3⟩ := stored_zip (prog := prog) (w := w) (k := k) (i := a + i) (t := t3) hlen rl true hb
    have ekv : (if true = true then kv.map (fun p => if p.1 = k then (p.1, a + i) else p) else kv ++ [(k, a + i)]) = putC kv k i := by
      rw [if_pos rfl, putC, if_pos (by simpa using hb)]
      refine List.map_congr_left fun p hp => ?_
      by_cases hq : p.1 = k
      · rw [if_pos hq, if_pos hq, hall p hp hq]
      · rw [if_neg hq, if_neg hq]
    rw [ekv] at e1 e2 e3
    rw [e1] at hd'
    have x13 := x1.trans (x2.trans x3)
    exact kk h' _ ((x13.stay _).trans (Stay.of_same hsb (by simp))) ((l.ext x13).same hndV hndL hsb (DictOf.obj hd')) ⟨us, hd', e2, vals_ints e3 _ _⟩) hai
theorem cl_callers (T : TopOk h₀) (kv : List (Str × Int)) (k : Str) (i : Int) (hsz : kv.length ≤ 1000) : Cl prog w 3 h₀ (.ref 35) [dC kv, dC [(k, i)]] (dC (putC kv k i)) := by
  obtain ⟨o, pm, cd, ho, hd, hc⟩ := T.callers
  refine cl_def (names := ["target", "source"]) ho hd T.lim hc rfl rfl (fun vs hl => ?_) (by show ∀ x ∈ (dScope (gdef 3)).names, _; decide) (by show ∀ x ∈ _, (dScope (gdef 3)).names.lookup x = _; decide) (by decide) fun A s L W Q E hA hx hL fr kk => ?_
  · match vs, hl with
    | [a, b], _ => rfl
  have hnew : s.heap.get? s.heap.objs.size = none := get_new _
  have hsizes : 42 < s.heap.objs.size := by
    obtain ⟨og, _, _, hog, _⟩ := T.gen
    exact Heap.lt_size (hx _ _ hog)
  -- the keys are apart
  have hnodup : (keysOf kv).Nodup := by
    obtain ⟨v, _, r⟩ := fr.loc.get (prog := prog) (w := w) (x := "target") (d := dC kv) (env := callEnv (fdAt 3 pm cd) L 35) rfl
    obtain ⟨a, vs, _, ⟨_, _, _, _, _, _, _, _, hn⟩, hl, _⟩ := r.dS_inv
    rwa [List.map_fst_zip (by omega)] at hn
  refine wpAny_execs_cons (wpAny_Assign_Name (wpAny_Dict_empty ?_))
  generalize hnd : s.heap.objs.size = nd at *
  generalize hH : s.heap.push { cls := .type "dict", data := .dict #[] } = H1
  have x1 : Ext s.heap H1 := hH ▸ Ext.push _ _
  have hD1 : H1.DictOf (strKind prog w) nd [] := by rw [← hH, ← hnd]; exact Heap.DictOf.new _
  have hndV0 : nd ∉ L :: W := not_in fr.live hnew
  have hLn : L ≠ nd := fun e => hndV0 (by simp [e])
  have fr1 : Fra prog w H1 L (nd :: L :: W) [("target", dC kv), ("source", dC [(k, i)])] := fr.more hnew x1 (DictOf.obj hD1)
  refine st_store (env := callEnv (fdAt 3 pm cd) L 35) (s := { s with heap := H1 }) fr1 (.raw (.ref nd)) fun h2 tk2 st2 f2 => ?_
  replace st2 : Stay [L] H1 h2 := st2
  have hD2 : Holds prog w h2 nd [] := ⟨[], (by
    obtain ⟨o, es, ep, ho, r⟩ := hD1
    exact ⟨o, es, ep, st2 nd o (by simpa using hLn.symm) ho, r⟩), rfl, .nil⟩
  have s2 : Stay [L, nd] s.heap h2 := (x1.stay _).trans (st2.mono (by simp))
  refine wpAny_execs_cons (st_forItems (s := { s with heap := h2, toks := tk2 }) hA f2 (x := "target") (ks := keysOf kv) (ds := valsOf kv) rfl (fun _ => [("source", dC [(k, i)]), ("new_callers", .raw (.ref nd))]) nd (by simp) hLn.symm (fun j h => Holds prog w h nd (kv.take j)) (by simpa using hD2) (fun j h h' hm hk => hm.keep hk) (fun y d h => lookup_two h rfl rfl) ?_ ?_)
  · intro V' j key d h3 tk3 E' hVV hkey hd' f3 hM3 st3
    obtain ⟨p, hp, rfl⟩ : ∃ p, kv[j]? = some p ∧ p.1 = key := by
      simp only [keysOf, List.getElem?_map] at hkey
      cases e : kv[j]? with
      | none => rw [e] at hkey; cases hkey
      | some p => rw [e] at hkey; exact ⟨p, rfl, by simpa using hkey⟩
    have hdp : d = .int p.2 := by
      simp only [valsOf, List.getElem?_map, hp] at hd'
      simpa using hd'.symm
    subst hdp
    refine wpAny_execs_cons (st_put (s := { s with heap := h3, toks := tk3 }) hA f3 rfl (hVV nd (by simp)) hLn hM3 (ex_loc f3 rfl) (ex_loc f3 rfl) (not_any_take hnodup hp) (kv' := kv.take (j + 1)) (by rw [take_succ_snoc hp]; rfl) (by rw [sizeLine_eq]; simp; omega) fun h4 tk4 st4 f4 hM4 => ?_)
    exact wpAny_execs_nil ⟨rfl, h4, tk4, rfl, st4.mono (by simp), f4.sub fun y d h => lookup_two h rfl rfl, hM4⟩
  · intro h3 tk3 st3 f3 hM3
    replace st3 : Stay [L, nd] h2 h3 := st3
    have hM3' : Holds prog w h3 nd kv := by
      have e : (keysOf kv).length = kv.length := by simp [keysOf]
      rw [e, List.take_length] at hM3
      exact hM3
    have T3 : TopOk h3 := T.ext fun b o e => by
      have hb1 : b ≠ L := by rintro rfl; rw [hL] at e; cases e
      have hb2 : b ≠ nd := by rintro rfl; have := hx _ _ e; rw [hnew] at this; cases this
      exact st3 b o (by simp [hb1, hb2]) (s2 b o (by simp [hb1, hb2]) (hx b o e))
    refine wpAny_execs_cons (st_forItems (s := { s with heap := h3, toks := tk3 }) hA f3 (x := "source") (ks := [k]) (ds := [.int i]) rfl (fun _ => [("new_callers", .raw (.ref nd))]) nd (by simp) hLn.symm (fun j h => Holds prog w h nd (if j = 0 then kv else putC kv k i)) (by simpa using hM3') (fun j h h' hm hk => hm.keep hk) (fun y d h => lookup_one h rfl) ?_ ?_)
    · intro V' j key d h5 tk5 E' hVV hkey hd' f5 hM5 st5
      replace st5 : Stay [L, nd] h3 h5 := st5
      obtain ⟨hj, rfl, rfl⟩ : j = 0 ∧ key = k ∧ d = .int i := by
        cases j with
        | zero => simp at hkey hd'; exact ⟨rfl, hkey.symm, hd'.symm⟩
        | succ j => simp at hkey
      subst hj
      have hM5 : Holds prog w h5 nd kv := hM5
      have hds : (nd == sysModules) = false := by simp [sysModules]; omega
      have T5 : TopOk h5 := T.ext fun b o e => by
        have hb1 : b ≠ L := by rintro rfl; rw [hL] at e; cases e
        have hb2 : b ≠ nd := by rintro rfl; have := hx _ _ e; rw [hnew] at this; cases this
        exact st5 b o (by simp [hb1, hb2]) (st3 b o (by simp [hb1, hb2]) (s2 b o (by simp [hb1, hb2]) (hx b o e)))
      have tst : Tx prog w 2 (callEnv (fdAt 3 pm cd) L 35) (.Compare (.Name "func" ⟨20, 11, 20, 15⟩) [.In] [.Name "new_callers" ⟨20, 19, 20, 30⟩] ⟨20, 11, 20, 30⟩) h5 (kv.any fun p => p.1 = key) :=
        tx_cmp (a := .str key) (b := .raw (.ref nd)) ((ex_loc f5 rfl).bare f5.live) ((ex_loc f5 rfl).bare f5.live) fun A' s' u v Q' E' hA' hx' ru rv k' => by
          obtain ⟨t, rfl⟩ := ru.str_inv
          have e := rv.raw_inv
          subst e
          obtain ⟨vs, hd, hlen, rl⟩ := hM5.keep fun o e => hx' nd o e
          refine wpAny_in_of (strKind_is prog w key t) hds hd.mapOf ?_
          have e : (valueAt ((keysOf kv).zip vs) key).isSome = (kv.any fun p => p.1 = key) := by
            cases hb : (kv.any fun p => decide (p.1 = key)) with
            | true => obtain ⟨a, ta, hva, _⟩ := (value_at (k := key) rl hnodup).1 hb; rw [hva]; rfl
            | false => rw [(value_at (k := key) rl hnodup).2 hb]; rfl
          rw [e]
          exact k' s'.heap _ (Ext.refl _)
      refine wpAny_execs_cons (st_if (s := { s with heap := h5, toks := tk5 }) hA tst (fun hb h6 tk6 x6 => ?_) fun hb h6 tk6 x6 => ?_)
      · have f6 := f5.ext x6
        have T6 := T5.ext x6
        refine wpAny_execs_cons (st_if (s := { s with heap := h6, toks := tk6 }) hA (tx_bool (b := false) ((ex_callB (ld_bi T6 (by simp) (fun _ r => r.2.2.2.2.2.2.2.2.1)) (ExL.cons (ex_loc f6 rfl) (ExL.cons (ex_name (ld_bi T6 (by simp) (fun _ r => r.2.2.2.2.2.2.2.2.2)) (.raw (.type "tuple"))) ExL.nil)) cl_isi).bare f6.live)) (fun e => nomatch e) fun _ h7 tk7 x7 => ?_)
        have f7 := f6.ext x7
        refine wpAny_execs_cons (st_more (s := { s with heap := h7, toks := tk7 }) hA f7 rfl (hVV nd (by simp)) hLn (hM5.keep fun o e => x7 nd o (x6 nd o e)) hnodup (ex_loc f7 rfl) (ex_loc f7 rfl) hb (by rw [sizeLine_eq]; omega) fun h8 tk8 st8 f8 hM8 => ?_)
        exact wpAny_execs_nil (wpAny_execs_nil (wpAny_execs_nil ⟨rfl, h8, tk8, rfl, ((x6.trans x7).stay _).trans (st8.mono (by simp)), f8.sub fun y d h => lookup_one h rfl, hM8⟩))
      · have f6 := f5.ext x6
        refine wpAny_execs_cons (st_put (s := { s with heap := h6, toks := tk6 }) hA f6 rfl (hVV nd (by simp)) hLn (hM5.keep fun o e => x6 nd o e) (ex_loc f6 rfl) (ex_loc f6 rfl) hb (kv' := putC kv key i) (by rw [putC, hb]; rfl) (by rw [sizeLine_eq]; omega) fun h8 tk8 st8 f8 hM8 => ?_)
        exact wpAny_execs_nil (wpAny_execs_nil ⟨rfl, h8, tk8, rfl, (x6.stay _).trans (st8.mono (by simp)), f8.sub fun y d h => lookup_one h rfl, hM8⟩)
    · intro h4 tk4 st4 f4 hM4
      replace st4 : Stay [L, nd] h3 h4 := st4
      refine wpAny_execs_cons (wpAny_Return_some ?_)
      refine ex_loc (n := 2) f4 (x := "new_callers") rfl rfl rfl (by decide) A _ _ _ hA f4.live (Ext.refl _) fun v h5 t5 x5 r5 => ?_
      have e5 := r5.raw_inv
      subst e5
      obtain ⟨us, hd5, hl5, rl5⟩ := Holds.keep hM4 fun o e => x5 nd o e
      refine kk _ h5 t5 ?_ ?_
      · intro b o hb e
        have hb1 : b ≠ L := by simpa using hb
        have hb2 : b ≠ nd := by rintro rfl; rw [hnew] at e; cases e
        exact x5 b o (st4 b o (by simp [hb1, hb2]) (st3 b o (by simp [hb1, hb2]) (s2 b o (by simp [hb1, hb2]) e)))
      · have hds : (nd == sysModules) = false := by simp [sysModules]; omega
        exact .dS hd5 hl5 hds hndV0 (vals_ints rl5 _ _)
end
end Mine
end
noncomputable section -- C3
open PySem PySem.W PyProof.Rows
set_option maxRecDepth 100000
set_option linter.unusedVariables false
namespace Mine
section
variable {prog : Program} {w : World} {n : Nat} {env : Env} {h₀ h₁ : Heap} {V W : List Addr} {L : Addr}
def names5 (elts : List Expr) : List (Str × Pos) := elts.filterMap fun | .Name x p => some (x, p) | _ => none
theorem st_inOrder {A : Around} (hk : env.scope.kind = .function) {E : Value → Shared → Prop} : ∀ (xs : List (Str × Pos)) {s : Shared} {vs : List Value} {ds : List D} {ρ : List (Str × D)} {Q : Unit → Shared → Prop}, (∀ x ∈ xs, env.kindOf x.1 = some .local) → xs.length = vs.length → Fra prog w s.heap env.locals V ρ → RpL prog w s.heap V vs ds →
    (∀ h' tk, Stay [env.locals] s.heap h' → Fra prog w h' env.locals V (((xs.map (·.1)).zip ds).reverse ++ ρ) → Q () { s with heap := h', toks := tk }) → wpAny (model prog w) A (assignInOrder (xs.map fun x => assign (.Name x.1 x.2) env) vs) Q E s
  | [], s, vs, ds, ρ, Q, _, hl, f, r, k => by
    cases r with
    | nil => exact wpAny_pure (k s.heap s.toks (Stay.refl _ _) f)
    | cons _ _ => simp at hl
  | x :: xs, s, vs, ds, ρ, Q, hx, hl, f, r, k => by
    cases r with
    | nil => simp at hl
    | cons a b =>
      rename_i v vs d ds
      show wpAny _ _ (do holding vs (assign (.Name x.1 x.2) env v); assignInOrder (xs.map fun x => assign (.Name x.1 x.2) env) vs) _ _ _
      refine wpAny_bind (wpAny_holding (wpAny_assign_Name (st_store f a (fun h1 tk1 st1 f1 => ?_) hk (hx x List.mem_cons_self))))
      refine st_inOrder hk xs (s := { s with heap := h1, toks := tk1 }) (fun y hy => hx y (List.mem_cons_of_mem _ hy)) (by simpa using hl) f1 (b.stay (st1.mono fun b hb => List.mem_singleton.mp hb ▸ f.mem)) fun h2 tk2 st2 f2 => ?_
      refine k h2 tk2 (st1.trans st2) ?_
      simpa using f2
theorem st_unpack {A : Around} {s : Shared} {elts : List Expr} {k0 : Nat} {tpos pos : Pos} {value : Expr} {ds : List D} {ρ : List (Str × D)} (xs : List (Str × Pos)) {Q : Flow → Shared → Prop} {E : Value → Shared → Prop} (hA : AOk n A) (l : Fra prog w s.heap env.locals V ρ) (ex : Ex prog w n env value s.heap V (.tup ds))
    (hass : assignEach elts env = xs.map fun x => (false, assign (.Name x.1 x.2) env)) (hxs : ∀ x ∈ xs, env.kindOf x.1 = some .local) (hlen : xs.length = ds.length)
    (k : ∀ h' tk, Stay [env.locals] s.heap h' → Fra prog w h' env.locals V (((xs.map (·.1)).zip ds).reverse ++ ρ) → Q .next { s with heap := h', toks := tk })
    (hs : swapsWithSole [.Tuple elts k0 tpos] value pos.line env = pure false := by rfl) (hw : swappedStores [.Tuple elts k0 tpos] value env = pure none := by rfl) (hk : env.scope.kind = .function := by rfl) :
    wpAny (model prog w) A (exec (.Assign [.Tuple elts k0 tpos] value pos) env) Q E s :=
  Assign_Tuple (ex A s _ _ hA l.live (Ext.refl _) fun v h1 t1 x1 r1 => by
    obtain ⟨a, vs, rfl, ht, _, rl⟩ := r1.tup_inv
    have hvl : xs.length = vs.length := by rw [hlen, rl.length]
    refine wpAny_assign_Tuple hA.hd ht (by rw [hass]; simp [hvl]) (by rw [hass]; simp [List.findIdx?_map]) fun h2 hx2 => ?_
    have x2 : Ext h1 h2 := fun b o e => hx2 b o (Nat.ne_of_lt (Heap.lt_size e)) e
    have e1 : (assignEach elts env).map (·.2) = xs.map fun x => assign (.Name x.1 x.2) env := by rw [hass]; simp
    rw [e1]
    refine st_inOrder hk xs (s := { s with heap := h2, toks := t1 }) hxs hvl (l.ext (x1.trans x2)) (rl.ext x2) fun h3 tk3 st3 f3 => k h3 tk3 (((x1.trans x2).stay _).trans st3) f3) hs hw

/-- a cell of the table -/
structure Cell where
  cc : Int
  nc : Int
  tt : Int
  ct : Int
  kv : List (Str × Int)
def dT (c : Cell) : D := .tup [.int c.cc, .int c.nc, .int c.tt, .int c.ct, dC c.kv]
def addT (c : Cell) (a b e f : Int) (k : Str) (i : Int) : Cell := ⟨a + c.cc, b + c.nc, e + c.tt, f + c.ct, putC c.kv k i⟩
theorem cl_stats (T : TopOk h₀) (c : Cell) (a b e f : Int) (k : Str) (i : Int) (hsz : c.kv.length ≤ 1000) : Cl prog w 5 h₀ (.ref 28) [dT c, .tup [.int a, .int b, .int e, .int f, dC [(k, i)]]] (dT (addT c a b e f k i)) := by
  obtain ⟨o, pm, cd, ho, hd, hc⟩ := T.stats
  refine cl_def (names := ["target", "source"]) ho hd T.lim hc rfl rfl (fun vs hl => ?_) (by show ∀ x ∈ (dScope (gdef 2)).names, _; decide) (by show ∀ x ∈ _, (dScope (gdef 2)).names.lookup x = _; decide) (by decide) fun A s L W Q E hA hx hL fr kk => ?_
  · match vs, hl with
    | [a, b], _ => rfl
  refine wpAny_execs_cons (st_unpack [("cc", ⟨12, 4, 12, 6⟩), ("nc", ⟨12, 8, 12, 10⟩), ("tt", ⟨12, 12, 12, 14⟩), ("ct", ⟨12, 16, 12, 18⟩), ("callers", ⟨12, 20, 12, 27⟩)] hA fr (ex_loc fr (x := "source") rfl) rfl (by show ∀ x ∈ (_ : List (Str × Pos)), (dScope (gdef 2)).names.lookup x.1 = _; decide) rfl fun h1 tk1 st1 f1 => ?_)
  replace st1 : Stay [L] s.heap h1 := st1
  refine wpAny_execs_cons (st_unpack (s := { s with heap := h1, toks := tk1 }) [("t_cc", ⟨13, 4, 13, 8⟩), ("t_nc", ⟨13, 10, 13, 14⟩), ("t_tt", ⟨13, 16, 13, 20⟩), ("t_ct", ⟨13, 22, 13, 26⟩), ("t_callers", ⟨13, 28, 13, 37⟩)] hA f1 (ex_loc f1 (x := "target") (d := dT c) rfl) rfl (by show ∀ x ∈ (_ : List (Str × Pos)), (dScope (gdef 2)).names.lookup x.1 = _; decide) rfl fun h2 tk2 st2 f2 => ?_)
  replace st2 : Stay [L] h1 h2 := st2
  have T2 : TopOk h2 := T.ext fun b o e => st2 b o (by simp; rintro rfl; rw [hL] at e; cases e) (st1 b o (by simp; rintro rfl; rw [hL] at e; cases e) (hx b o e))
  refine wpAny_execs_cons (st_return (s := { s with heap := h2, toks := tk2 }) hA f2.live (ex_tuple (ExL.cons (ex_add (ex_loc f2 rfl) (ex_loc f2 rfl)) (ExL.cons (ex_add (ex_loc f2 rfl) (ex_loc f2 rfl)) (ExL.cons (ex_add (ex_loc f2 rfl) (ex_loc f2 rfl)) (ExL.cons (ex_add (ex_loc f2 rfl) (ex_loc f2 rfl)) (ExL.cons (ex_def (ld_fn T2 fun _ r => r.2.2.1) T2.callers (ExL.cons (ex_loc f2 (d := dC c.kv) rfl) (ExL.cons (ex_loc f2 (d := dC [(k, i)]) rfl) ExL.nil)) (cl_callers T2 _ _ _ hsz).lower) ExL.nil)))))) fun v h3 t3 x3 r3 => kk v h3 t3 (st1.trans (st2.trans (x3.stay _))) r3)
end
end Mine
end
noncomputable section -- E1
open PySem PySem.W PyProof.Rows
set_option maxRecDepth 100000
set_option linter.unusedVariables false
namespace Mine
section
variable {prog : Program} {w : World} {n : Nat} {env : Env} {h₀ h₁ : Heap} {V W : List Addr} {L : Addr}
/-- a comprehension's tests: none, or one -/
def Txs (prog : Program) (w : World) (n : Nat) (env : Env) (ifs : List Expr) (h₀ : Heap) (b : Bool) : Prop :=
  ∀ (A : Around) (s : Shared) (Q : Bool → Shared → Prop) (E : Value → Shared → Prop), AOk n A → Ext h₀ s.heap → (∀ h' tk, Ext s.heap h' → Q b { s with heap := h', toks := tk }) →
    wpAny (model prog w) A (forIn ifs true fun c r => if r = true then do let ok ← isTrue c env (eval c env); pure (ForInStep.yield ok) else pure (ForInStep.yield r)) Q E s
theorem Txs.nil : Txs prog w n env [] h₀ true := fun A s Q E _ _ k => wpAny_pure (k s.heap s.toks (Ext.refl _))
theorem Txs.one {c : Expr} {b : Bool} (t : Tx prog w n env c h₀ b) : Txs prog w n env [c] h₀ b := fun A s Q E hA hx k => by
  rw [List.forIn_cons]
  refine wpAny_bind ?_
  rw [if_pos rfl]
  refine wpAny_bind (t A s _ _ hA hx fun h' tk x => wpAny_pure ?_)
  exact wpAny_pure (k h' tk x)
theorem mem_of_one {a b : Addr} {l : List Addr} (m : b ∈ [a]) (h : a ∈ l) : b ∈ l := List.mem_singleton.mp m ▸ h
/-- V' : V and new addresses -/
def Grow (h₀ : Heap) (V V' : List Addr) : Prop := (∀ b ∈ V, b ∈ V') ∧ ∀ b ∈ V', b ∈ V ∨ h₀.get? b = none
theorem Rp.grow {h h' : Heap} {V V' : List Addr} {v : Value} {d : D} (g : Grow h V V') (x : Ext h h') (r : Rp prog w h V v d) : Rp prog w h' V' v d :=
  (r.turn fun b o e q z => (g.2 b z).elim q fun q' => by rw [q'] at e; cases e).ext x
/-- what the elements give -/
structure Elt (prog : Program) (w : World) (n : Nat) (env : Env) (scope : Scope) (cl : List (Str × Addr)) (x : Str) (ifs : List Expr) (elt : Expr) (h₀ : Heap) (V : List Addr) (ds : List D) (p : D → Bool) (f : D → D) : Prop where
  test : ∀ V' C h1 d, Grow h₀ V V' → Ext h₀ h1 → d ∈ ds → Fra prog w h1 C V' [(x, d)] → Txs prog w n (compEnvC scope cl C env) ifs h1 (p d)
  elt : ∀ V' C h1 d, Grow h₀ V V' → Ext h₀ h1 → d ∈ ds → p d = true → Fra prog w h1 C V' [(x, d)] → Ex prog w n (compEnvC scope cl C env) elt h1 V' (f d)
set_option maxHeartbeats 4000000 in
theorem comp_core {A : Around} {s₂ : Shared} {elt iter : Expr} {x : Str} {px : Pos} {ifs : List Expr} {scope : Scope} {cl : List (Str × Addr)} {pos : Pos} {I : Addr} {fp : List Addr} {P : Nat → Value → Prop} {St : Nat → Heap → Prop} {hp : Heap} {ds : List D} {p : D → Bool} {f : D → D} {RR : Value → Addr → Result → Shared → Prop} {E : Value → Shared → Prop}
    (hA : AOk n A) (W : Walks prog w A I fp [I] ds.length P St) (hst : St 0 s₂.heap) (xp : Ext h₀ hp) (x0 : Ext hp s₂.heap) (hI : hp.get? I = none) (hob : ∀ i h, St i h → ∃ o, h.get? I = some o) (hfp : ∀ b ∈ fp, b < s₂.heap.objs.size ∧ b ∉ V) (hP : ∀ i v d, P i v → ds[i]? = some d → Rp prog w hp V v d)
    (hV : Live hp V) (hsz : ds.length ≤ sizeLine) (hcell : ∀ y ∈ scope.names, y.2 ≠ .cell) (hkind : scope.kind = .function) (hx : scope.names.lookup x = some .local) (el : Elt prog w n env scope cl x ifs elt h₀ V ds p f)
    (hRR : ∀ Dl C h' tk m' ys, s₂.heap.get? Dl = none → s₂.heap.get? C = none → Dl ≠ C → h'.Ns C m' → h'.IsList Dl ys.toArray → RpL prog w h' (I :: C :: Dl :: V) ys ((ds.filter p).map f) → Stay [I] s₂.heap h' → RR (.ref Dl) C (.ok .next) { s₂ with heap := h', toks := tk }) :
    wpAny (model prog w) A (newList []) (fun acc s₃ => wpAny (model prog w) A (newFunctionEnv scope env.globals cl [] env.qual none .none (some env)) (fun cenv s₄ =>
      codeAny (model prog w) A (.compStart (.ListComp elt [⟨.Name x px, iter, ifs, 0⟩] scope pos) 0 (.ref I) acc { cenv with scope := relabel scope env }) (RR acc cenv.locals) s₄) E s₃) E s₂ := by
  refine wpAny_newObj_type (wpAny_newFunctionEnv hcell (by intro y hy; simp at hy) (fun h₁ hns₁ hsb₁ => ?_) hkind)
  dsimp only at hns₁ hsb₁ ⊢
  generalize hH2 : s₂.heap.push { cls := .type "list", dict := none, data := .seq ([] : List Value).toArray } = H2 at hns₁ hsb₁ ⊢
  have hC : H2.objs.size = s₂.heap.objs.size + 1 := by rw [← hH2, Heap.size_push]
  generalize hDl : s₂.heap.objs.size = Dl at *
  generalize hCC : H2.objs.size = C at *
  have hDC : Dl ≠ C := by omega
  have hDnew : s₂.heap.get? Dl = none := by rw [← hDl]; exact get_new _
  have hCnew : s₂.heap.get? C = none := Heap.get?_none_of_le (by omega)
  have x1 : Ext s₂.heap h₁ := fun b o e => hsb₁.extBut b o (fun q => by rw [q, hCnew] at e; cases e) (Heap.get?_push_of_some _ (hH2 ▸ Heap.get?_push_of_some _ e))
  have hl1 : h₁.PlainList Dl #[] := ⟨_, hsb₁.extBut _ _ hDC (Heap.get?_push_of_some _ (by rw [← hH2, ← hDl]; exact Heap.get?_push_size _ rfl))⟩
  have hI2 : ∃ o, s₂.heap.get? I = some o := hob _ _ hst
  have hIC : I ≠ C := by rintro rfl; obtain ⟨o, e⟩ := hI2; rw [hCnew] at e; cases e
  have hID : I ≠ Dl := by rintro rfl; obtain ⟨o, e⟩ := hI2; rw [hDnew] at e; cases e
  have hVnot : ∀ b, hp.get? b = none → b ∉ V := fun b hb => not_in hV hb
  have hpn : ∀ b, s₂.heap.get? b = none → hp.get? b = none := fun b hb => by
    cases e : hp.get? b with
    | none => rfl
    | some o => rw [x0 _ _ e] at hb; cases hb
  have hIV : I ∉ V := hVnot _ hI
  have hCV : C ∉ V := hVnot _ (hpn _ hCnew)
  have hDV : Dl ∉ V := hVnot _ (hpn _ hDnew)
  have hCf : C ∉ fp := fun m => by have : @LT.lt Nat _ C Dl := (hfp C m).1; omega
  have hDf : Dl ∉ fp := fun m => Nat.lt_irrefl _ (hfp Dl m).1
  have hst1 : St 0 h₁ := W.frame _ _ _ hst fun b _ o e => x1 b o e
  have kl : (compEnvC scope cl C env).scope.kind = .function := hkind
  have klx : (compEnvC scope cl C env).kindOf x = some .local := lookup_relabel_local hx
  have loop : ∀ s₃ : Shared, s₃ = { s₂ with heap := h₁, toks := s₂.toks + ([] : List (Str × Value)).length } →
      codeAny (model prog w) A (.compLoop (.ListComp elt [⟨.Name x px, iter, ifs, 0⟩] scope pos) 0 (.ref I) (.ref Dl) (compEnvC scope cl C env)) (RR (.ref Dl) C) s₃ := by
    rintro s₃ rfl
    refine codeAny_compLoop_tests
      (fun k s' => ∃ h' tk i ys, s' = { s₂ with heap := h', toks := tk } ∧ St i h' ∧ i ≤ ds.length ∧ k = ds.length + 1 - i ∧ h'.PlainList Dl ys.toArray ∧ Fra prog w h' C (I :: C :: Dl :: V) [] ∧ RpL prog w h' (I :: C :: Dl :: V) ys (((ds.take i).filter p).map f) ∧ Stay [I] s₂.heap h' ∧ Stay (I :: C :: Dl :: V) hp h') ?_ (ds.length + 1)
      ⟨h₁, _, 0, [], rfl, hst1, Nat.zero_le _, rfl, hl1, ⟨⟨_, hns₁, fun y d e => by simp at e⟩, ?_, by simp⟩, by simpa using RpL.nil, x1.stay _, (x0.trans x1).stay _⟩
    · rintro k s' ⟨H, tk, i, ys, rfl, hst', hi, rfl, hlH, hF, hys, hS, hR⟩
      by_cases hlt : i < ds.length
      · refine W.item i _ _ _ hlt hst' fun v h2 tk2 hPv hst2 hk2 => ?_
        have st2 : Stay [I] H h2 := fun b o hb e => hk2 b o hb e
        have hIo2 := hob _ _ hst2
        have F2 : Fra prog w h2 C (I :: C :: Dl :: V) [] := hF.next (by simp) (by simp [hIC, hID, hIV]) st2 hIo2
        have hd : ds[i]? = some ds[i] := by simp [hlt]
        have hR2 : Stay (I :: C :: Dl :: V) hp h2 := fun b o hb e => st2 b o (fun m => hb (mem_of_one m (by simp))) (hR b o hb e)
        have rv : Rp prog w h2 (I :: C :: Dl :: V) v ds[i] := ((hP i v _ hPv hd).turn fun b o e q z => by
          simp only [List.mem_cons] at z
          rcases z with rfl | rfl | rfl | z
          · rw [hI] at e; cases e
          · rw [hpn _ hCnew] at e; cases e
          · rw [hpn _ hDnew] at e; cases e
          · exact q z).stay hR2
        refine wpAny_assign_Name (st_store (env := compEnvC scope cl C env) (s := { s₂ with heap := h2, toks := tk2 }) F2 rv (fun h3 tk3 st3 f3 => ?_) kl klx)
        replace st3 : Stay [C] h2 h3 := st3
        replace f3 : Fra prog w h3 C (I :: C :: Dl :: V) [(x, ds[i])] := f3
        have dm : ds[i] ∈ ds := List.getElem_mem hlt
        have hst3 : St (i + 1) h3 := W.frame _ _ _ hst2 fun b hb o e => st3 b o (by simp; rintro rfl; exact hCf hb) e
        have e03 : Ext h₀ h3 := fun b o e => st3 b o (by simp; rintro rfl; have := xp _ _ e; rw [hpn _ hCnew] at this; cases this) (st2 b o (by simp; rintro rfl; have := xp _ _ e; rw [hI] at this; cases this) (hS b o (by simp; rintro rfl; have := xp _ _ e; rw [hI] at this; cases this) (x0 b o (xp b o e))))
        have sub : Grow h₀ V (I :: C :: Dl :: V) := ⟨fun b hb => by simp [hb], fun b hb => by
          have nn : ∀ b, hp.get? b = none → h₀.get? b = none := fun b hb => by
            cases e : h₀.get? b with
            | none => rfl
            | some o => rw [xp _ _ e] at hb; cases hb
          simp only [List.mem_cons] at hb
          rcases hb with rfl | rfl | rfl | hb
          · exact .inr (nn _ hI)
          · exact .inr (nn _ (hpn _ hCnew))
          · exact .inr (nn _ (hpn _ hDnew))
          · exact .inl hb⟩
        have tk1 : ds.take (i + 1) = ds.take i ++ [ds[i]] := take_succ_snoc hd
        have hl3 : h3.PlainList Dl ys.toArray := hlH.at fun o e => st3 Dl o (by simpa using hDC) (st2 Dl o (by simpa using hID.symm) e)
        have s23 : Stay [I, C] H h3 := (st2.mono (by simp)).trans (st3.mono (by simp))
        have hS3 : Stay [I] s₂.heap h3 := fun b o hb e => st3 b o (by simp; rintro rfl; rw [hCnew] at e; cases e) (st2 b o hb (hS b o hb e))
        have hR3 : Stay (I :: C :: Dl :: V) hp h3 := fun b o hb e => st3 b o (fun m => hb (mem_of_one m (by simp))) (hR2 b o hb e)
        have hys3 : RpL prog w h3 (I :: C :: Dl :: V) ys (((ds.take i).filter p).map f) := hys.stay (s23.mono (by simp))
        refine el.test (I :: C :: Dl :: V) C h3 ds[i] sub e03 dm f3 A _ _ _ hA (Ext.refl _) fun h4 tk4 x4 => ?_
        cases hp' : p ds[i] with
        | false =>
          simp only [Bool.false_eq_true, if_false]
          refine ⟨ds.length + 1 - (i + 1), by omega, h4, tk4, i + 1, ys, rfl, W.frame _ _ _ hst3 fun b _ o e => x4 b o e, hlt, rfl, hl3.at fun o e => x4 Dl o e, (f3.ext x4).sub (fun y d e => by simp at e), ?_, fun b o hb e => x4 b o (hS3 b o hb e), fun b o hb e => x4 b o (hR3 b o hb e)⟩
          rw [tk1, List.filter_append]
          simpa [hp'] using hys3.ext x4
        | true =>
          simp only [if_true]
          have f4 := f3.ext x4
          refine el.elt (I :: C :: Dl :: V) C h4 ds[i] sub (e03.trans x4) dm hp' f4 A _ _ _ hA f4.live (Ext.refl _) fun y h5 tk5 x5 ry => ?_
          have hl5 : h5.PlainList Dl ys.toArray := hl3.at fun o e => x5 Dl o (x4 Dl o e)
          have hyl : ys.toArray.size ≤ sizeLine := by
            have e1 := hys.length
            have e2 : (((ds.take i).filter p).map f).length ≤ ds.length := by
              rw [List.length_map]
              exact Nat.le_trans (List.length_filter_le _ _) (by simp; omega)
            rw [List.size_toArray]; omega
          refine wpAny_list_append_plain (hsz := hyl) hl5 fun h6 hl6 hs6 => ?_
          replace hs6 : Heap.SameBut Dl h5 h6 := hs6
          have hl6' : h6.PlainList Dl (ys ++ [y]).toArray := by simpa using hl6
          have s6 : Stay [Dl] h5 h6 := Stay.of_same hs6 (by simp)
          refine ⟨ds.length + 1 - (i + 1), by omega, h6, tk5, i + 1, ys ++ [y], rfl, W.frame _ _ _ hst3 fun b hb o e => s6 b o (by simp; rintro rfl; exact hDf hb) (x5 b o (x4 b o e)), hlt, rfl, hl6', ((f4.ext x5).same (by simp) hDC.symm hs6 (let ⟨n, e⟩ := hl6; ⟨_, e⟩)).sub (fun y d e => by simp at e), ?_, fun b o hb e => s6 b o (by simp; rintro rfl; rw [hDnew] at e; cases e) (x5 b o (x4 b o (hS3 b o hb e))), fun b o hb e => s6 b o (fun m => hb (mem_of_one m (by simp))) (x5 b o (x4 b o (hR3 b o hb e)))⟩
          rw [tk1, List.filter_append, List.map_append]
          have e1 : List.map f (List.filter p [ds[i]]) = [f ds[i]] := by simp [hp']
          rw [e1]
          exact RpL.append (.cons (ry.stay (s6.mono (by simp))) .nil) ((hys3.ext (x4.trans x5)).stay (s6.mono (by simp)))
      · have hin : i = ds.length := by omega
        subst hin
        refine W.done _ _ _ hst' fun h2 tk2 hk2 => ?_
        have st2 : Stay [I] H h2 := fun b o hb e => hk2 b o hb e
        obtain ⟨m', hn', _⟩ := hF.loc
        rw [List.take_length] at hys
        exact hRR Dl C h2 tk2 m' ys hDnew hCnew hDC (hn'.at' fun o e => st2 C o (by simpa using hIC.symm) e) (hlH.at fun o e => st2 Dl o (by simpa using hID.symm) e).isList (hys.stay (st2.mono (by simp))) (fun b o hb e => st2 b o hb (hS b o hb e))
    · intro b hb
      simp only [List.mem_cons] at hb
      rcases hb with rfl | rfl | rfl | hb
      · obtain ⟨o, e⟩ := hI2; exact ⟨o, x1 _ _ e⟩
      · obtain ⟨o, _, _, e, _⟩ := hns₁; exact ⟨o, e⟩
      · obtain ⟨nn, e⟩ := hl1; exact ⟨_, e⟩
      · obtain ⟨o, e⟩ := hV b hb; exact ⟨o, x1 _ _ (x0 _ _ e)⟩
  exact codeAny_compStart_list (loop _ rfl) (W.self 0 _ _ _ hst1 (loop _ rfl))
/-- [elt for x in iter if ..] -/
theorem ex_comp {elt iter : Expr} {x : Str} {px : Pos} {ifs : List Expr} {scope : Scope} {cl : List (Str × Addr)} {pos : Pos} {ds : List D} (p : D → Bool) (f : D → D) (src : Src prog w n env iter h₀ V ds) (el : Elt prog w n env scope cl x ifs elt h₀ V ds p f) (hsz : ds.length ≤ 1000)
    (hclos : closureFor scope env = pure cl := by rfl) (hcell : ∀ y ∈ scope.names, y.2 ≠ .cell := by decide) (hkind : scope.kind = .function := by rfl) (hnames : ∀ y ∈ scope.names, y.2 = .local → scope.names.lookup y.1 = some .local := by decide) (hx : scope.names.lookup x = some .local := by rfl)
    (hs : ∀ x, foldedSetIterable iter env x = pure x := by intro _; rfl) : Ex prog w n env (.ListComp elt [⟨.Name x px, iter, ifs, 0⟩] scope pos) h₀ V (.lst ((ds.filter p).map f)) :=
  fun A s Q E hA hV hx0 k => by
    rw [eval_ListComp]
    refine wpAny_comprehension_free (use := none) rfl hs hclos hkind hnames (src A s _ _ hA hV hx0 fun I fp P St hp h' tk W st xp x0 hI hob hfp hP => ?_)
    refine comp_core (h₀ := h₀) (hp := hp) (RR := fun acc C => compPost (model prog w) A E none Q acc C) hA (W A hA.hd) st (hx0.trans xp) x0 hI hob hfp hP (hV.ext (hx0.trans xp)) (by rw [sizeLine_eq]; omega) hcell hkind hx el ?_
    intro Dl C h2 tk2 m' ys hDn hCn hDC hn hl hys st2
    refine ⟨m', hn, fun h3 hs3 => ?_⟩
    have s3 : Stay [C] h2 h3 := Stay.of_same hs3 (by simp)
    have xx : Ext s.heap h3 := fun b o e => s3 b o (by simp; rintro rfl; have := x0 _ _ (xp _ _ e); rw [hCn] at this; cases this) (st2 b o (by simp; rintro rfl; have := xp _ _ e; rw [hI] at this; cases this) (x0 _ _ (xp _ _ e)))
    refine k _ h3 tk2 xx (.lst (hl.extBut hs3.extBut hDC) ?_ ((hys.stay (s3.mono (by simp))).less (by simp +contextual)))
    exact not_in (hV.ext (hx0.trans (xp.trans x0))) hDn
end
end Mine
end
noncomputable section -- F1
open PySem PySem.W PyProof.Rows
set_option maxRecDepth 100000
set_option linter.unusedVariables false
namespace Mine
/-- a frame with cells of its own -/
structure Frc (prog : Program) (w : World) (env : Env) (h : Heap) (V : List Addr) (ρ κ : List (Str × D)) : Prop where
  loc : Loc prog w h env.locals V ρ
  cel : ∀ x c, env.cells.lookup x = some c → ∃ o, h.IsCell c o ∧ ∀ d, κ.lookup x = some d → ∃ v, o = some v ∧ Rp prog w h V v d
  live : Live h V
  mem : env.locals ∈ V
  memc : ∀ x c, env.cells.lookup x = some c → c ∈ V ∧ c ≠ env.locals
  inj : ∀ x y c, env.cells.lookup x = some c → env.cells.lookup y = some c → x = y
section
variable {prog : Program} {w : World} {n : Nat} {env : Env} {h₀ h₁ : Heap} {V W : List Addr} {ρ κ : List (Str × D)}
theorem Frc.ext {h h' : Heap} (l : Frc prog w env h V ρ κ) (x : Ext h h') : Frc prog w env h' V ρ κ :=
  ⟨l.loc.ext x, fun y c hc => let ⟨o, ho, hd⟩ := l.cel y c hc; ⟨o, ho.keeps x, fun d e => let ⟨v, hv, r⟩ := hd d e; ⟨v, hv, r.ext x⟩⟩, l.live.ext x, l.mem, l.memc, l.inj⟩
theorem Frc.sub {h : Heap} {ρ' κ' : List (Str × D)} (l : Frc prog w env h V ρ κ) (x : ∀ y d, ρ'.lookup y = some d → ρ.lookup y = some d) (z : ∀ y d, κ'.lookup y = some d → κ.lookup y = some d) : Frc prog w env h V ρ' κ' :=
  ⟨l.loc.sub x, fun y c hc => let ⟨o, ho, hd⟩ := l.cel y c hc; ⟨o, ho, fun d e => hd d (z y d e)⟩, l.live, l.mem, l.memc, l.inj⟩
theorem Frc.turn {h : Heap} {V' : List Addr} (l : Frc prog w env h V ρ κ) (lv : Live h V') (hs : ∀ b ∈ V, b ∈ V') (x : ∀ b o, h.get? b = some o → b ∉ V → b ∉ V') : Frc prog w env h V' ρ κ :=
  ⟨l.loc.turn x, fun y c hc => let ⟨o, ho, hd⟩ := l.cel y c hc; ⟨o, ho, fun d e => let ⟨v, hv, r⟩ := hd d e; ⟨v, hv, r.turn x⟩⟩, lv, hs _ l.mem, fun y c hc => ⟨hs _ (l.memc y c hc).1, (l.memc y c hc).2⟩, l.inj⟩
theorem Frc.more {h h' : Heap} {I : Addr} (l : Frc prog w env h V ρ κ) (hI : h.get? I = none) (x : Ext h h') (ho : ∃ o, h'.get? I = some o) : Frc prog w env h' (I :: V) ρ κ := by
  have l2 : Frc prog w env h' V ρ κ := l.ext x
  refine ⟨(l.loc.more hI).ext x, fun y c hc => ?_, fun b hb => (List.mem_cons.mp hb).elim (fun e => e ▸ ho) fun hb => l2.live b hb, List.mem_cons_of_mem _ l.mem, fun y c hc => ⟨List.mem_cons_of_mem _ (l.memc y c hc).1, (l.memc y c hc).2⟩, l.inj⟩
  obtain ⟨o, ho, hd⟩ := l.cel y c hc
  exact ⟨o, ho.keeps x, fun d e => let ⟨v, hv, r⟩ := hd d e; ⟨v, hv, (Rp.more hI r).ext x⟩⟩
theorem Frc.grow {h h' : Heap} {V' : List Addr} (l : Frc prog w env h V ρ κ) (g : Grow h V V') (x : Ext h h') (lv : Live h' V') : Frc prog w env h' V' ρ κ := by
  obtain ⟨⟨m, hn, hm⟩, cel, live, mem, memc, inj⟩ := l
  refine ⟨⟨m, hn.keeps x, fun y d e => ?_⟩, fun y c hc => ?_, lv, g.1 _ mem, fun y c hc => ⟨g.1 _ (memc y c hc).1, (memc y c hc).2⟩, inj⟩
  · obtain ⟨v, hv, r⟩ := hm y d e
    exact ⟨v, hv, r.grow g x⟩
  · obtain ⟨o, ho, hd⟩ := cel y c hc
    exact ⟨o, ho.keeps x, fun d e => let ⟨v, hv, r⟩ := hd d e; ⟨v, hv, r.grow g x⟩⟩
/-- a change at one address of V that is neither the frame nor a cell -/
theorem Frc.stay {h h' : Heap} {X : List Addr} (l : Frc prog w env h V ρ κ) (hX : ∀ b ∈ X, b ∈ V) (hL : env.locals ∉ X) (hC : ∀ x c, env.cells.lookup x = some c → c ∉ X) (x : Stay X h h') (ho : ∀ b ∈ X, ∃ o, h'.get? b = some o) : Frc prog w env h' V ρ κ := by
  refine ⟨l.loc.stay x hL hX, fun y c hc => ?_, fun b hb => ?_, l.mem, l.memc, l.inj⟩
  · obtain ⟨o, ⟨oc, hoc, hod⟩, hd⟩ := l.cel y c hc
    exact ⟨o, ⟨oc, x c oc (hC y c hc) hoc, hod⟩, fun d e => let ⟨v, hv, r⟩ := hd d e; ⟨v, hv, r.stay (x.mono hX)⟩⟩
  · by_cases hb' : b ∈ X
    · exact ho b hb'
    · obtain ⟨o, e⟩ := l.live b hb
      exact ⟨o, x b o hb' e⟩
/-- an address given up -/
theorem Frc.drop {h h' : Heap} {I : Addr} (l : Frc prog w env h (I :: V) ρ κ) (hI : I ∉ V) (hL : env.locals ∈ V) (hC : ∀ x c, env.cells.lookup x = some c → c ∈ V) (x : Stay [I] h h') : Frc prog w env h' V ρ κ := by
  have hLI : env.locals ∉ [I] := by simp; rintro e; exact hI (e ▸ hL)
  refine ⟨(l.loc.stay x hLI (by simp)).less fun b hb => List.mem_cons_of_mem _ hb, fun y c hc => ?_, fun b hb => ?_, hL, fun y c hc => ⟨hC y c hc, (l.memc y c hc).2⟩, l.inj⟩
  · obtain ⟨o, ⟨oc, hoc, hod⟩, hd⟩ := l.cel y c hc
    exact ⟨o, ⟨oc, x c oc (by simp; rintro rfl; exact hI (hC y c hc)) hoc, hod⟩, fun d e => let ⟨v, hv, r⟩ := hd d e; ⟨v, hv, (r.stay (x.mono (by simp))).less fun b hb => List.mem_cons_of_mem _ hb⟩⟩
  · obtain ⟨o, e⟩ := l.live b (List.mem_cons_of_mem _ hb)
    exact ⟨o, x b o (by simp; rintro rfl; exact hI hb) e⟩
theorem exl {x : Str} {pos : Pos} {d : D} (l : Frc prog w env h₀ V ρ κ) (hx : ρ.lookup x = some d) (hk : env.scope.kind = .function := by rfl) (hl : env.kindOf x = some .local := by rfl) (hd : (x == ("__debug__" : Str)) = false := by decide) : Ex prog w n env (.Name x pos) h₀ V d :=
  let ⟨_, l, r⟩ := l.loc.get hx hk hl
  ex_name l r hd
theorem Frc.at {x : Str} {c : Addr} {d : D} (l : Frc prog w env h₀ V ρ κ) (hc : env.cells.lookup x = some c) (hx : κ.lookup x = some d) : ∃ v, h₀.IsCell c (some v) ∧ Rp prog w h₀ V v d := by
  obtain ⟨o, ho, hd⟩ := l.cel x c hc
  obtain ⟨v, rfl, r⟩ := hd d hx
  exact ⟨v, ho, r⟩
theorem exc {x : Str} {c : Addr} {pos : Pos} {d : D} (l : Frc prog w env h₀ V ρ κ) (hc : env.cells.lookup x = some c) (hx : κ.lookup x = some d) (hk : env.scope.kind = .function := by rfl) (hl : env.kindOf x = some .cell := by rfl) (hd : (x == ("__debug__" : Str)) = false := by decide) : Ex prog w n env (.Name x pos) h₀ V d :=
  let ⟨_, hv, r⟩ := l.at hc hx
  ex_name (ld_cell hc hv hk hl) r hd
/-- a free name inside a comprehension -/
theorem exf {x : Str} {c : Addr} {pos : Pos} {d : D} {V' : List Addr} {env' : Env} (l : Frc prog w env h₀ V ρ κ) (hc : env.cells.lookup x = some c) (hx : κ.lookup x = some d) (g : Grow h₀ V V') (y : Ext h₀ h₁) (hc' : env'.cells.lookup x = some c := by rfl) (hk : env'.scope.kind = .function := by rfl) (hl : env'.kindOf x = some .cell := by rfl) (hd : (x == ("__debug__" : Str)) = false := by decide) : Ex prog w n env' (.Name x pos) h₁ V' d :=
  let ⟨_, hv, r⟩ := l.at hc hx
  ex_name (ld_cell hc' (hv.keeps y) hk hl) (r.grow g y) hd
theorem sc_store {A : Around} {s : Shared} {x : Str} {v : Value} {d : D} {Q : Unit → Shared → Prop} {E : Value → Shared → Prop} (l : Frc prog w env s.heap V ρ κ) (r : Rp prog w s.heap V v d)
    (k : ∀ h' tk, Stay [env.locals] s.heap h' → Frc prog w env h' V ((x, d) :: ρ) κ → Q () { s with heap := h', toks := tk })
    (hk : env.scope.kind = .function := by rfl) (hl : env.kindOf x = some .local := by rfl) : wpAny (model prog w) A (storeName env x v) Q E s := by
  refine st_store (V := V) ⟨l.loc, l.live, l.mem⟩ r (fun h' tk st f => k h' tk st ⟨f.loc, fun y c hc => ?_, f.live, l.mem, l.memc, l.inj⟩) hk hl
  obtain ⟨o, ⟨oc, hoc, hod⟩, hd⟩ := l.cel y c hc
  exact ⟨o, ⟨oc, st c oc (by simpa using (l.memc y c hc).2) hoc, hod⟩, fun d e => let ⟨v, hv, r⟩ := hd d e; ⟨v, hv, r.stay (st.mono fun b hb => List.mem_singleton.mp hb ▸ l.mem)⟩⟩
theorem sc_cell {A : Around} {s : Shared} {x : Str} {c : Addr} {v : Value} {d : D} {Q : Unit → Shared → Prop} {E : Value → Shared → Prop} (l : Frc prog w env s.heap V ρ κ) (hc : env.cells.lookup x = some c) (r : Rp prog w s.heap V v d)
    (k : ∀ h' tk, Stay [c] s.heap h' → Frc prog w env h' V ρ ((x, d) :: κ) → Q () { s with heap := h', toks := tk })
    (hk : env.scope.kind = .function := by rfl) (hl : env.kindOf x = some .cell := by rfl) : wpAny (model prog w) A (storeName env x v) Q E s := by
  obtain ⟨o0, ho0, _⟩ := l.cel x c hc
  refine wpAny_storeName_cell hk hl hc ho0 fun h' hv hs => k h' s.toks (Stay.of_same hs (by simp)) ?_
  have st : Stay [c] s.heap h' := Stay.of_same hs (by simp)
  have hcV := (l.memc x c hc).1
  have stV : Stay V s.heap h' := st.mono fun b hb => List.mem_singleton.mp hb ▸ hcV
  refine ⟨l.loc.stay st (by simpa using (l.memc x c hc).2.symm) (fun b hb => List.mem_singleton.mp hb ▸ hcV), fun y c' hc' => ?_, fun b hb => ?_, l.mem, l.memc, l.inj⟩
  · by_cases hy : y = x
    · subst hy
      rw [hc] at hc'
      cases hc'
      refine ⟨some v, hv, fun d' e => ?_⟩
      rcases lookup_cons_some e with ⟨_, rfl⟩ | ⟨h1, _⟩
      · exact ⟨v, rfl, r.stay stV⟩
      · exact absurd rfl h1
    · obtain ⟨o, ⟨oc, hoc, hod⟩, hd⟩ := l.cel y c' hc'
      have hcc : c' ≠ c := fun q => hy (l.inj y x c' hc' (q ▸ hc))
      refine ⟨o, ⟨oc, st c' oc (by simpa using hcc) hoc, hod⟩, fun d' e => ?_⟩
      rcases lookup_cons_some e with ⟨h1, _⟩ | ⟨_, e⟩
      · exact absurd h1 hy
      · obtain ⟨v', hv', r'⟩ := hd d' e
        exact ⟨v', hv', r'.stay stV⟩
  · by_cases hb' : b = c
    · obtain ⟨o, ho, _⟩ := hv; exact ⟨o, hb' ▸ ho⟩
    · obtain ⟨o, e⟩ := l.live b hb
      exact ⟨o, st b o (by simpa using hb') e⟩
theorem sc_assign {A : Around} {s : Shared} {x : Str} {p pos : Pos} {value : Expr} {d : D} {Q : Flow → Shared → Prop} {E : Value → Shared → Prop} (hA : AOk n A) (l : Frc prog w env s.heap V ρ κ) (ex : Ex prog w n env value s.heap V d)
    (k : ∀ h' tk, Stay [env.locals] s.heap h' → Frc prog w env h' V ((x, d) :: ρ) κ → Q .next { s with heap := h', toks := tk })
    (hs : swapsWith value (some (.Name x p)) pos.line env = pure false := by rfl) (hk : env.scope.kind = .function := by rfl) (hl : env.kindOf x = some .local := by rfl) : wpAny (model prog w) A (exec (.Assign [.Name x p] value pos) env) Q E s :=
  wpAny_Assign_Name (ex A s _ _ hA l.live (Ext.refl _) fun v h1 t1 x1 r1 => sc_store (l.ext x1) r1 (fun h' tk hsb l' => k h' tk ((x1.stay _).trans hsb) l') hk hl) hs
theorem sc_assignC {A : Around} {s : Shared} {x : Str} {c : Addr} {p pos : Pos} {value : Expr} {d : D} {Q : Flow → Shared → Prop} {E : Value → Shared → Prop} (hA : AOk n A) (l : Frc prog w env s.heap V ρ κ) (hc : env.cells.lookup x = some c) (ex : Ex prog w n env value s.heap V d)
    (k : ∀ h' tk, Stay [c] s.heap h' → Frc prog w env h' V ρ ((x, d) :: κ) → Q .next { s with heap := h', toks := tk })
    (hs : swapsWith value (some (.Name x p)) pos.line env = pure false := by rfl) (hk : env.scope.kind = .function := by rfl) (hl : env.kindOf x = some .cell := by rfl) : wpAny (model prog w) A (exec (.Assign [.Name x p] value pos) env) Q E s :=
  wpAny_Assign_Name (ex A s _ _ hA l.live (Ext.refl _) fun v h1 t1 x1 r1 => sc_cell (l.ext x1) hc r1 (fun h' tk hsb l' => k h' tk ((x1.stay _).trans hsb) l') hk hl) hs
/-- y = [..], y a name of the frame's own: the list is new, nothing else holds it -/
theorem sc_comp {A : Around} {s : Shared} {elt iter : Expr} {x y : Str} {px py : Pos} {ifs : List Expr} {scope : Scope} {cl : List (Str × Addr)} {pos spos : Pos} {ds : List D} {Q : Flow → Shared → Prop} {E : Value → Shared → Prop} (p : D → Bool) (f : D → D) (hA : AOk n A) (l : Frc prog w env s.heap V ρ κ)
    (src : Src prog w n env iter s.heap V ds) (el : Elt prog w n env scope cl x ifs elt s.heap V ds p f) (hsz : ds.length ≤ 1000)
    (k : ∀ Dl ys h' tk, s.heap.get? Dl = none → h'.IsList Dl ys.toArray → RpL prog w h' (Dl :: V) ys ((ds.filter p).map f) → Stay [env.locals] s.heap h' → Frc prog w env h' (Dl :: V) ((y, .raw (.ref Dl)) :: ρ) κ → Q .next { s with heap := h', toks := tk })
    (hsw : swapsWith (.ListComp elt [⟨.Name x px, iter, ifs, 0⟩] scope pos) (some (.Name y py)) spos.line env = pure true := by rfl)
    (hclos : closureFor scope env = pure cl := by rfl) (hcell : ∀ y ∈ scope.names, y.2 ≠ .cell := by decide) (hkind : scope.kind = .function := by rfl) (hnames : ∀ y ∈ scope.names, y.2 = .local → scope.names.lookup y.1 = some .local := by decide) (hx : scope.names.lookup x = some .local := by rfl)
    (hs : ∀ x, foldedSetIterable iter env x = pure x := by intro _; rfl) (hk : env.scope.kind = .function := by rfl) (hl : env.kindOf y = some .local := by rfl) :
    wpAny (model prog w) A (exec (.Assign [.Name y py] (.ListComp elt [⟨.Name x px, iter, ifs, 0⟩] scope pos) spos) env) Q E s := by
  rw [exec_Assign_Name_used _ _ _ _ hsw]
  refine wpAny_bind (wpAny_standAt (wpAny_bind ?_))
  show wpAny _ A (do let _ ← comprehension (.ListComp elt [⟨.Name x px, iter, ifs, 0⟩] scope pos) scope env _ (newList []) false (eval iter env) (some (assign (.Name y py) env))) _ _ s
  refine wpAny_bind (wpAny_mono (wpAny_comprehension_free (use := some (assign (.Name y py) env)) (Q := fun _ s' => Q .next s') rfl hs hclos hkind hnames
    (src A s _ _ hA l.live (Ext.refl _) fun I fp P St hp h' tk W st xp x0 hI hob hfp hP => ?_)) (fun _ s' hq => wpAny_pure (wpAny_pure hq)) fun _ _ e => e)
  refine comp_core (h₀ := s.heap) (hp := hp) (RR := fun acc C => compPost (model prog w) A E (some (assign (.Name y py) env)) (fun _ s' => Q .next s') acc C) hA (W A hA.hd) st xp x0 hI hob hfp hP (l.live.ext xp) (by rw [sizeLine_eq]; omega) hcell hkind hx el ?_
  intro Dl C h2 tk2 m' ys hDn hCn hDC hn hl2 hys st2
  have back : ∀ b, h'.get? b = none → s.heap.get? b = none := fun b hb => by
    cases e : s.heap.get? b with
    | none => rfl
    | some o => rw [x0 _ _ (xp _ _ e)] at hb; cases hb
  have hIs : s.heap.get? I = none := by
    cases e : s.heap.get? I with
    | none => rfl
    | some o => rw [xp _ _ e] at hI; cases hI
  have e2 : Ext s.heap h2 := fun b o e => st2 b o (by simp; rintro rfl; rw [hIs] at e; cases e) (x0 _ _ (xp _ _ e))
  have l2 : Frc prog w env h2 (C :: Dl :: V) ρ κ := l.grow ⟨fun b hb => by simp [hb], fun b hb => by
      simp only [List.mem_cons] at hb
      rcases hb with rfl | rfl | hb
      · exact .inr (back _ hCn)
      · exact .inr (back _ hDn)
      · exact .inl hb⟩ e2 fun b hb => by
      simp only [List.mem_cons] at hb
      rcases hb with rfl | rfl | hb
      · obtain ⟨o, _, _, ho, _⟩ := hn; exact ⟨o, ho⟩
      · obtain ⟨o, ho, _⟩ := hl2; exact ⟨o, ho⟩
      · obtain ⟨o, ho⟩ := l.live b hb; exact ⟨o, e2 _ _ ho⟩
  show wpAny _ A (assign (.Name y py) env (.ref Dl)) _ _ _
  have hLC : env.locals ≠ C := fun q => not_in l.live (back _ hCn) (q ▸ l.mem)
  have hLD : env.locals ≠ Dl := fun q => not_in l.live (back _ hDn) (q ▸ l.mem)
  refine wpAny_assign_Name (sc_store (s := { s with heap := h2, toks := tk2 }) l2 (.raw (.ref Dl)) (fun h3 tk3 st3 l3 => ?_) hk hl)
  refine ⟨m', hn.at' fun o e => st3 C o (by simpa using hLC.symm) e, fun h4 hs4 => ?_⟩
  have s4 : Stay [C] h3 h4 := Stay.of_same hs4 (by simp)
  have hl4 : h4.IsList Dl ys.toArray := by
    obtain ⟨o, ho, r⟩ := hl2
    exact ⟨o, s4 Dl o (by simpa using hDC) (st3 Dl o (by simpa using hLD.symm) ho), r⟩
  refine k Dl ys h4 tk3 (back _ hDn) hl4 ?_ ?_ ?_
  · refine RpL.less (W := I :: C :: Dl :: V) (by simp +contextual) ((hys.stay (st3.mono ?_)).stay (s4.mono (by simp)))
    intro b hb; rw [List.mem_singleton.mp hb]; simp [l.mem]
  · intro b o hb e
    exact s4 b o (by simp; rintro rfl; rw [back _ hCn] at e; cases e) (st3 b o hb (e2 b o e))
  · have hCV : C ∉ V := not_in l.live (back _ hCn)
    exact l3.drop (by simp [hDC.symm, hCV]) (by simp [l.mem]) (fun x c hc => by simp [(l.memc x c hc).1]) s4
/-- such a list, never changed: a list of data -/
theorem Frc.frozen {h : Heap} {Dl : Addr} {y : Str} {ys : List Value} {es : List D} (l : Frc prog w env h (Dl :: V) ((y, .raw (.ref Dl)) :: ρ) κ) (hD : Dl ∉ V) (hL : env.locals ∈ V) (hC : ∀ x c, env.cells.lookup x = some c → c ∈ V) (hl : h.IsList Dl ys.toArray) (r : RpL prog w h (Dl :: V) ys es) : Frc prog w env h V ((y, .lst es) :: ρ) κ := by
  have less : ∀ b ∈ V, b ∈ Dl :: V := fun b hb => List.mem_cons_of_mem _ hb
  obtain ⟨⟨m, hn, hm⟩, cel, live, mem, memc, inj⟩ := l
  refine ⟨⟨m, hn, fun z d e => ?_⟩, fun z c hc => ?_, fun b hb => live b (less b hb), hL, fun z c hc => ⟨hC z c hc, (memc z c hc).2⟩, inj⟩
  · rcases lookup_cons_some e with ⟨rfl, rfl⟩ | ⟨hz, e⟩
    · obtain ⟨v, hv, r0⟩ := hm z (.raw (.ref Dl)) (by simp)
      have e0 := r0.raw_inv
      subst e0
      exact ⟨_, hv, .lst hl hD (r.less less)⟩
    · obtain ⟨v, hv, r0⟩ := hm z d (by rw [List.lookup_cons, beq_eq_false_iff_ne.mpr hz]; exact e)
      exact ⟨v, hv, r0.less less⟩
  · obtain ⟨o, ho, hd⟩ := cel z c hc
    exact ⟨o, ho, fun d e => let ⟨v, hv, r⟩ := hd d e; ⟨v, hv, r.less less⟩⟩
end
end Mine
end
noncomputable section -- M1
open PySem PySem.W PyProof.Rows
set_option maxRecDepth 100000
set_option linter.unusedVariables false
namespace Mine
/-- an object that may be changed -/
inductive Mo where
  | lst (ds : List D)
  | pls (ds : List D)
  | dI (kd : List (Int × D))
def MoAt (prog : Program) (w : World) (h : Heap) (V : List Addr) (a : Addr) : Mo → Prop
  | .lst ds => ∃ vs, h.IsList a vs.toArray ∧ RpL prog w h V vs ds
  | .pls ds => ∃ vs, h.PlainList a vs.toArray ∧ RpL prog w h V vs ds
  | .dI kd => ∃ kvs : List (Int × Value), h.DictOf (intKind prog w) a kvs ∧ kvs.map (·.1) = kd.map (·.1) ∧ (a == sysModules) = false ∧ RpL prog w h V (kvs.map (·.2)) (kd.map (·.2))
section
variable {prog : Program} {w : World} {n : Nat} {env : Env} {h₀ h₁ : Heap} {V W : List Addr} {ρ κ : List (Str × D)} {μ : List (Addr × Mo)}
theorem MoAt.map {h h' : Heap} {V' : List Addr} {a : Addr} {m : Mo} (x : MoAt prog w h V a m) (ho : ∀ o, h.get? a = some o → h'.get? a = some o) (hr : ∀ vs ds, RpL prog w h V vs ds → RpL prog w h' V' vs ds) : MoAt prog w h' V' a m := by
  cases m with
  | lst ds => obtain ⟨vs, ⟨o, e, r⟩, rl⟩ := x; exact ⟨vs, ⟨o, ho o e, r⟩, hr _ _ rl⟩
  | pls ds => obtain ⟨vs, ⟨o, e⟩, rl⟩ := x; exact ⟨vs, ⟨o, ho _ e⟩, hr _ _ rl⟩
  | dI kd => obtain ⟨vs, ⟨o, es, ep, e, r⟩, hl, hs, rl⟩ := x; exact ⟨vs, ⟨o, es, ep, ho o e, r⟩, hl, hs, hr _ _ rl⟩
theorem MoAt.obj {h : Heap} {a : Addr} {m : Mo} (x : MoAt prog w h V a m) : ∃ o, h.get? a = some o := by
  cases m with
  | lst ds => obtain ⟨vs, ⟨o, e, r⟩, rl⟩ := x; exact ⟨o, e⟩
  | pls ds => obtain ⟨vs, ⟨o, e⟩, rl⟩ := x; exact ⟨_, e⟩
  | dI kd => obtain ⟨vs, ⟨o, es, ep, e, r⟩, hl, hs, rl⟩ := x; exact ⟨o, e⟩
theorem RpL.grow {h h' : Heap} {V V' : List Addr} {vs : List Value} {ds : List D} (g : Grow h V V') (x : Ext h h') (r : RpL prog w h V vs ds) : RpL prog w h' V' vs ds :=
  (r.turn fun b o e q z => (g.2 b z).elim q fun q' => by rw [q'] at e; cases e).ext x
/-- what a frame's turns may change -/
def Fp (env : Env) (μ : List (Addr × Mo)) : List Addr := env.locals :: (env.cells.map (·.2) ++ μ.map (·.1))
structure Fm (prog : Program) (w : World) (env : Env) (h : Heap) (V : List Addr) (ρ κ : List (Str × D)) (μ : List (Addr × Mo)) : Prop where
  fr : Frc prog w env h V ρ κ
  cl : ∀ p ∈ env.cells, env.cells.lookup p.1 = some p.2
  top : ∃ h₀, TopOk h₀ ∧ Ext h₀ h ∧ ∀ b ∈ V, h₀.get? b = none
  obj : ∀ p ∈ μ, p.1 ∈ V ∧ p.1 ≠ env.locals ∧ (∀ x c, env.cells.lookup x = some c → p.1 ≠ c) ∧ MoAt prog w h V p.1 p.2
  nd : (μ.map (·.1)).Nodup
theorem Fm.tk {h : Heap} (l : Fm prog w env h V ρ κ μ) : TopOk h := let ⟨_, t, x, _⟩ := l.top; t.ext x
theorem Fm.live {h : Heap} (l : Fm prog w env h V ρ κ μ) : Live h V := l.fr.live
theorem Fm.fp {h : Heap} (l : Fm prog w env h V ρ κ μ) : ∀ b ∈ Fp env μ, b ∈ V := by
  intro b hb
  simp only [Fp, List.mem_cons, List.mem_append, List.mem_map] at hb
  rcases hb with rfl | ⟨p, hp, rfl⟩ | ⟨p, hp, rfl⟩
  · exact l.fr.mem
  · exact (l.fr.memc _ _ (l.cl p hp)).1
  · exact (l.obj p hp).1
theorem Fm.ext {h h' : Heap} (l : Fm prog w env h V ρ κ μ) (x : Ext h h') : Fm prog w env h' V ρ κ μ :=
  ⟨l.fr.ext x, l.cl, let ⟨h₀, t, y, z⟩ := l.top; ⟨h₀, t, y.trans x, z⟩, fun p hp => let ⟨a, b, c, d⟩ := l.obj p hp; ⟨a, b, c, d.map (fun o e => x _ o e) fun _ _ r => r.ext x⟩, l.nd⟩
theorem Fm.sub {h : Heap} {ρ' κ' : List (Str × D)} {μ' : List (Addr × Mo)} (l : Fm prog w env h V ρ κ μ) (x : ∀ y d, ρ'.lookup y = some d → ρ.lookup y = some d) (z : ∀ y d, κ'.lookup y = some d → κ.lookup y = some d) (m : μ'.Sublist μ) : Fm prog w env h V ρ' κ' μ' :=
  ⟨l.fr.sub x z, l.cl, l.top, fun p hp => l.obj p (m.mem hp), (m.map _).nodup l.nd⟩
theorem Fm.grow {h h' : Heap} {V' : List Addr} (l : Fm prog w env h V ρ κ μ) (g : Grow h V V') (x : Ext h h') (lv : Live h' V') : Fm prog w env h' V' ρ κ μ :=
  ⟨l.fr.grow g x lv, l.cl, let ⟨h₀, t, y, z⟩ := l.top; ⟨h₀, t, y.trans x, fun b hb => (g.2 b hb).elim (z b) fun e => by
    cases e' : h₀.get? b with
    | none => rfl
    | some o => rw [y _ _ e'] at e; cases e⟩, fun p hp => let ⟨a, b, c, d⟩ := l.obj p hp; ⟨g.1 _ a, b, c, d.map (fun o e => x _ o e) fun _ _ r => r.grow g x⟩, l.nd⟩
theorem Grow.one {h : Heap} {a : Addr} (e : h.get? a = none) : Grow h V (a :: V) := ⟨fun b hb => List.mem_cons_of_mem _ hb, fun b hb => (List.mem_cons.mp hb).elim (fun q => .inr (q ▸ e)) .inl⟩
theorem Fm.more {h h' : Heap} {I : Addr} (l : Fm prog w env h V ρ κ μ) (hI : h.get? I = none) (x : Ext h h') (ho : ∃ o, h'.get? I = some o) : Fm prog w env h' (I :: V) ρ κ μ :=
  l.grow (Grow.one hI) x fun b hb => (List.mem_cons.mp hb).elim (fun e => e ▸ ho) fun hb => (l.live.ext x) b hb
/-- fewer addresses -/
theorem Fm.less {h : Heap} {V' : List Addr} (l : Fm prog w env h V ρ κ μ) (s : ∀ b ∈ V', b ∈ V) (f : ∀ b ∈ Fp env μ, b ∈ V') : Fm prog w env h V' ρ κ μ := by
  have hL : env.locals ∈ V' := f _ (by simp [Fp])
  have hC : ∀ x c, env.cells.lookup x = some c → c ∈ V' := fun x c e => f _ (by
    have : (x, c) ∈ env.cells := by
      clear f hL
      generalize env.cells = cs at e
      induction cs with
      | nil => simp at e
      | cons p cs ih =>
        obtain ⟨y, d⟩ := p
        rw [List.lookup_cons] at e
        cases hb : x == y with
        | true => rw [hb] at e; cases e; rw [eq_of_beq hb]; exact List.mem_cons_self
        | false => rw [hb] at e; exact List.mem_cons_of_mem _ (ih e)
    simp only [Fp, List.mem_cons, List.mem_append, List.mem_map]
    exact .inr (.inl ⟨_, this, rfl⟩))
  refine ⟨⟨l.fr.loc.less s, fun y c hc => let ⟨o, ho, hd⟩ := l.fr.cel y c hc; ⟨o, ho, fun d e => let ⟨v, hv, r⟩ := hd d e; ⟨v, hv, r.less s⟩⟩, fun b hb => l.live b (s b hb), hL, fun x c e => ⟨hC x c e, (l.fr.memc x c e).2⟩, l.fr.inj⟩, l.cl, let ⟨h₀, t, y, z⟩ := l.top; ⟨h₀, t, y, fun b hb => z b (s b hb)⟩, fun p hp => ?_, l.nd⟩
  obtain ⟨a, b, c, d⟩ := l.obj p hp
  refine ⟨f _ ?_, b, c, d.map (fun _ e => e) fun _ _ r => r.less s⟩
  simp only [Fp, List.mem_cons, List.mem_append, List.mem_map]
  exact .inr (.inr ⟨p, hp, rfl⟩)
/-- a change elsewhere in V -/
theorem Fm.stay {h h' : Heap} {X : List Addr} (l : Fm prog w env h V ρ κ μ) (hX : ∀ b ∈ X, b ∈ V) (hF : ∀ b ∈ X, b ∉ Fp env μ) (x : Stay X h h') (ho : ∀ b ∈ X, ∃ o, h'.get? b = some o) : Fm prog w env h' V ρ κ μ := by
  have hC : ∀ x c, env.cells.lookup x = some c → c ∈ Fp env μ := fun x c e => by
    have : (x, c) ∈ env.cells := by
      clear hF
      generalize env.cells = cs at e
      induction cs with
      | nil => simp at e
      | cons p cs ih =>
        obtain ⟨y, d⟩ := p
        rw [List.lookup_cons] at e
        cases hb : x == y with
        | true => rw [hb] at e; cases e; rw [eq_of_beq hb]; exact List.mem_cons_self
        | false => rw [hb] at e; exact List.mem_cons_of_mem _ (ih e)
    simp only [Fp, List.mem_cons, List.mem_append, List.mem_map]
    exact .inr (.inl ⟨_, this, rfl⟩)
  refine ⟨l.fr.stay hX (fun m => hF _ m (by simp [Fp])) (fun y c e m => hF _ m (hC y c e)) x ho, l.cl, ?_, fun p hp => ?_, l.nd⟩
  · obtain ⟨h₀, t, y, z⟩ := l.top
    exact ⟨h₀, t, fun b o e => x b o (fun m => by rw [z b (hX b m)] at e; cases e) (y b o e), z⟩
  · obtain ⟨a, b, c, d⟩ := l.obj p hp
    refine ⟨a, b, c, d.map (fun o e => x _ o (fun m => hF _ m ?_) e) fun _ _ r => r.stay (x.mono hX)⟩
    simp only [Fp, List.mem_cons, List.mem_append, List.mem_map]
    exact .inr (.inr ⟨p, hp, rfl⟩)
theorem Fm.next {h h' : Heap} {I : Addr} (l : Fm prog w env h (I :: V) ρ κ μ) (hI : I ∉ Fp env μ) (x : Stay [I] h h') (ho : ∃ o, h'.get? I = some o) : Fm prog w env h' (I :: V) ρ κ μ :=
  l.stay (by simp) (fun b hb => List.mem_singleton.mp hb ▸ hI) x fun b hb => List.mem_singleton.mp hb ▸ ho
theorem Fm.drop {h h' : Heap} {I : Addr} (l : Fm prog w env h (I :: V) ρ κ μ) (hV : I ∉ V) (hF : ∀ b ∈ Fp env μ, b ∈ V) (x : Stay [I] h h') : Fm prog w env h' V ρ κ μ := by
  have hI : I ∉ Fp env μ := fun m => hV (hF _ m)
  have hL : env.locals ∈ V := hF _ (by simp [Fp])
  have hC : ∀ x c, env.cells.lookup x = some c → c ∈ V := fun y c e => by
    have := (l.less (V' := V) (fun b hb => List.mem_cons_of_mem _ hb) hF).fr.memc y c e
    exact this.1
  refine ⟨l.fr.drop hV hL hC x, l.cl, ?_, fun p hp => ?_, l.nd⟩
  · obtain ⟨h₀, t, y, z⟩ := l.top
    exact ⟨h₀, t, fun b o e => x b o (by simp; rintro rfl; rw [z b (by simp)] at e; cases e) (y b o e), fun b hb => z b (List.mem_cons_of_mem _ hb)⟩
  · obtain ⟨a, b, c, d⟩ := l.obj p hp
    have hp' : p.1 ∈ Fp env μ := by
      simp only [Fp, List.mem_cons, List.mem_append, List.mem_map]
      exact .inr (.inr ⟨p, hp, rfl⟩)
    refine ⟨hF _ hp', b, c, d.map (fun o e => x _ o (by simp; rintro rfl; exact hI hp') e) fun _ _ r => (r.stay (x.mono (by simp))).less fun b hb => List.mem_cons_of_mem _ hb⟩
/-- a change of the frame's own names and cells -/
theorem Fm.set {h h' : Heap} {X : List Addr} {ρ' κ' : List (Str × D)} (l : Fm prog w env h V ρ κ μ) (hX : ∀ b ∈ X, b ∈ V) (hμ : ∀ p ∈ μ, p.1 ∉ X) (x : Stay X h h') (f : Frc prog w env h' V ρ' κ') : Fm prog w env h' V ρ' κ' μ := by
  refine ⟨f, l.cl, ?_, fun p hp => ?_, l.nd⟩
  · obtain ⟨h₀, t, y, z⟩ := l.top
    exact ⟨h₀, t, fun b o e => x b o (fun m => by rw [z b (hX b m)] at e; cases e) (y b o e), z⟩
  · obtain ⟨a, b, c, d⟩ := l.obj p hp
    exact ⟨a, b, c, d.map (fun o e => x _ o (hμ p hp) e) fun _ _ r => r.stay (x.mono hX)⟩
/-- a change of one object -/
theorem Fm.put {h h' : Heap} {a : Addr} {m m' : Mo} (l : Fm prog w env h V ρ κ ((a, m) :: μ)) (x : Stay [a] h h') (y : MoAt prog w h' V a m') : Fm prog w env h' V ρ κ ((a, m') :: μ) := by
  obtain ⟨ha, hb, hc, _⟩ := l.obj (a, m) (by simp)
  have nd := l.nd
  simp only [List.map_cons, List.nodup_cons] at nd
  have l' : Fm prog w env h V ρ κ μ := l.sub (fun _ _ e => e) (fun _ _ e => e) (List.sublist_cons_self _ _)
  have hX : ∀ b ∈ [a], b ∈ V := fun b hb => List.mem_singleton.mp hb ▸ ha
  have l2 : Fm prog w env h' V ρ κ μ := l'.set hX (fun p hp q => nd.1 (List.mem_map.mpr ⟨p, hp, List.mem_singleton.mp q⟩)) x (l'.fr.stay hX (by simpa using hb.symm) (fun z c e => by simpa using (hc z c e).symm) x fun b hb => List.mem_singleton.mp hb ▸ y.obj)
  refine ⟨l2.fr, l2.cl, l2.top, fun p hp => ?_, by simpa using nd⟩
  rcases List.mem_cons.mp hp with rfl | hp
  · exact ⟨ha, hb, hc, y⟩
  · exact l2.obj p hp
theorem Fm.perm {h : Heap} {μ' : List (Addr × Mo)} (l : Fm prog w env h V ρ κ μ) (e : μ.Perm μ') : Fm prog w env h V ρ κ μ' :=
  ⟨l.fr, l.cl, l.top, fun p hp => l.obj p (e.mem_iff.mpr hp), (e.map _).nodup_iff.mp l.nd⟩
theorem Fp.has {b : Addr} : b ∈ Fp env μ ↔ b = env.locals ∨ (∃ p ∈ env.cells, p.2 = b) ∨ ∃ p ∈ μ, p.1 = b := by
  simp [Fp, List.mem_map]
theorem mem_cells {x : Str} {c : Addr} : ∀ {cs : List (Str × Addr)}, cs.lookup x = some c → (x, c) ∈ cs
  | [], e => by simp at e
  | (y, d) :: cs, e => by
    rw [List.lookup_cons] at e
    cases hb : x == y with
    | true => rw [hb] at e; cases e; rw [eq_of_beq hb]; exact List.mem_cons_self
    | false => rw [hb] at e; exact List.mem_cons_of_mem _ (mem_cells e)
theorem fm_store {A : Around} {s : Shared} {x : Str} {v : Value} {d : D} {Q : Unit → Shared → Prop} {E : Value → Shared → Prop} (l : Fm prog w env s.heap V ρ κ μ) (r : Rp prog w s.heap V v d)
    (k : ∀ h' tk, Stay (Fp env μ) s.heap h' → Fm prog w env h' V ((x, d) :: ρ) κ μ → Q () { s with heap := h', toks := tk })
    (hk : env.scope.kind = .function := by rfl) (hl : env.kindOf x = some .local := by rfl) : wpAny (model prog w) A (storeName env x v) Q E s :=
  sc_store l.fr r (fun h' tk st f => k h' tk (st.mono (by simp [Fp])) (l.set (X := [env.locals]) (fun b hb => List.mem_singleton.mp hb ▸ l.fr.mem) (fun p hp => by simpa using (l.obj p hp).2.1) st f)) hk hl
theorem fm_storeC {A : Around} {s : Shared} {x : Str} {c : Addr} {v : Value} {d : D} {Q : Unit → Shared → Prop} {E : Value → Shared → Prop} (l : Fm prog w env s.heap V ρ κ μ) (hc : env.cells.lookup x = some c) (r : Rp prog w s.heap V v d)
    (k : ∀ h' tk, Stay (Fp env μ) s.heap h' → Fm prog w env h' V ρ ((x, d) :: κ) μ → Q () { s with heap := h', toks := tk })
    (hk : env.scope.kind = .function := by rfl) (hl : env.kindOf x = some .cell := by rfl) : wpAny (model prog w) A (storeName env x v) Q E s :=
  sc_cell l.fr hc r (fun h' tk st f => k h' tk (st.mono fun b hb => Fp.has.mpr (.inr (.inl ⟨_, mem_cells hc, (List.mem_singleton.mp hb).symm⟩))) (l.set (X := [c]) (fun b hb => List.mem_singleton.mp hb ▸ (l.fr.memc x c hc).1) (fun p hp => by simpa using (l.obj p hp).2.2.1 x c hc) st f)) hk hl
theorem fm_assign {A : Around} {s : Shared} {x : Str} {p pos : Pos} {value : Expr} {d : D} {Q : Flow → Shared → Prop} {E : Value → Shared → Prop} (hA : AOk n A) (l : Fm prog w env s.heap V ρ κ μ) (ex : Ex prog w n env value s.heap V d)
    (k : ∀ h' tk, Stay (Fp env μ) s.heap h' → Fm prog w env h' V ((x, d) :: ρ) κ μ → Q .next { s with heap := h', toks := tk })
    (hs : swapsWith value (some (.Name x p)) pos.line env = pure false := by rfl) (hk : env.scope.kind = .function := by rfl) (hl : env.kindOf x = some .local := by rfl) : wpAny (model prog w) A (exec (.Assign [.Name x p] value pos) env) Q E s :=
  wpAny_Assign_Name (ex A s _ _ hA l.live (Ext.refl _) fun v h1 t1 x1 r1 => fm_store (l.ext x1) r1 (fun h' tk hsb l' => k h' tk ((x1.stay _).trans hsb) l') hk hl) hs
theorem fm_assignC {A : Around} {s : Shared} {x : Str} {c : Addr} {p pos : Pos} {value : Expr} {d : D} {Q : Flow → Shared → Prop} {E : Value → Shared → Prop} (hA : AOk n A) (l : Fm prog w env s.heap V ρ κ μ) (hc : env.cells.lookup x = some c) (ex : Ex prog w n env value s.heap V d)
    (k : ∀ h' tk, Stay (Fp env μ) s.heap h' → Fm prog w env h' V ρ ((x, d) :: κ) μ → Q .next { s with heap := h', toks := tk })
    (hs : swapsWith value (some (.Name x p)) pos.line env = pure false := by rfl) (hk : env.scope.kind = .function := by rfl) (hl : env.kindOf x = some .cell := by rfl) : wpAny (model prog w) A (exec (.Assign [.Name x p] value pos) env) Q E s :=
  wpAny_Assign_Name (ex A s _ _ hA l.live (Ext.refl _) fun v h1 t1 x1 r1 => fm_storeC (l.ext x1) hc r1 (fun h' tk hsb l' => k h' tk ((x1.stay _).trans hsb) l') hk hl) hs
end
end Mine
end
noncomputable section -- M2
open PySem PySem.W PyProof.Rows
set_option maxRecDepth 100000
set_option linter.unusedVariables false
namespace Mine
section
variable {prog : Program} {w : World} {n : Nat} {env : Env} {h₀ h₁ : Heap} {V W : List Addr} {ρ κ : List (Str × D)} {μ : List (Addr × Mo)}
theorem Fp.same {μ' : List (Addr × Mo)} (e : μ'.map (·.1) = μ.map (·.1)) : Fp env μ' = Fp env μ := by simp [Fp, e]
/-- a loop's target -/
def Tgt (prog : Program) (w : World) (env : Env) (target : Expr) (fρ fκ : D → List (Str × D) → List (Str × D)) : Prop :=
  ∀ (A : Around) (s : Shared) (V : List Addr) (ρ κ : List (Str × D)) (μ : List (Addr × Mo)) (v : Value) (d : D) (Q : Unit → Shared → Prop) (E : Value → Shared → Prop), Fm prog w env s.heap V ρ κ μ → Rp prog w s.heap V v d →
    (∀ h' tk, Stay (Fp env μ) s.heap h' → Fm prog w env h' V (fρ d ρ) (fκ d κ) μ → Q () { s with heap := h', toks := tk }) → wpAny (model prog w) A (assign target env v) Q E s
theorem Tgt.loc {x : Str} {p : Pos} (hk : env.scope.kind = .function := by rfl) (hl : env.kindOf x = some .local := by rfl) : Tgt prog w env (.Name x p) (fun d ρ => (x, d) :: ρ) (fun _ κ => κ) :=
  fun A s V ρ κ μ v d Q E l r k => wpAny_assign_Name (fm_store l r k hk hl)
theorem Tgt.cel {x : Str} {c : Addr} {p : Pos} (hc : env.cells.lookup x = some c) (hk : env.scope.kind = .function := by rfl) (hl : env.kindOf x = some .cell := by rfl) : Tgt prog w env (.Name x p) (fun _ ρ => ρ) (fun d κ => (x, d) :: κ) :=
  fun A s V ρ κ μ v d Q E l r k => wpAny_assign_Name (fm_storeC l hc r k hk hl)
theorem fm_for {A : Around} {s : Shared} {target iter : Expr} {body : List Stmt} {pos : Pos} {Q : Flow → Shared → Prop} {E : Value → Shared → Prop} {ds : List D} {fρ fκ : D → List (Str × D) → List (Str × D)} (hA : AOk n A) (l : Fm prog w env s.heap V ρ κ μ) (hs : Src prog w n env iter s.heap V ds) (tg : Tgt prog w env target fρ fκ)
    (R K : Nat → List (Str × D)) (M : Nat → List (Addr × Mo)) (hR0 : ∀ y d, (R 0).lookup y = some d → ρ.lookup y = some d) (hK0 : ∀ y d, (K 0).lookup y = some d → κ.lookup y = some d) (hM0 : M 0 = μ) (hM : ∀ i, (M i).map (·.1) = μ.map (·.1))
    (turn : ∀ V' i d h1 tk E', ds[i]? = some d → Fm prog w env h1 V' (fρ d (R i)) (fκ d (K i)) (M i) →
      wpAny (model prog w) A (execs body env) (fun f s3 => f = .next ∧ ∃ h3 tk3 V3, s3 = { s with heap := h3, toks := tk3 } ∧ Stay (Fp env μ) h1 h3 ∧ (∀ b ∈ V', b ∈ V3) ∧ Fm prog w env h3 V3 (R (i + 1)) (K (i + 1)) (M (i + 1))) E' { s with heap := h1, toks := tk })
    (done : ∀ h' tk, Stay (Fp env μ) s.heap h' → Fm prog w env h' V (R ds.length) (K ds.length) (M ds.length) → Q .next { s with heap := h', toks := tk })
    (hlet : ∀ it v, letOwnedTupleGo target it v = pure () := by intro _ _; rfl) (hfs : ∀ x, foldedSetIterable iter env x = pure x := by intro _; rfl) :
    wpAny (model prog w) A (exec (.For target iter body [] pos) env) Q E s := by
  have hF : ∀ i, Fp env (M i) = Fp env μ := fun i => Fp.same (hM i)
  refine st_for (V := V) (Wm := Fp env μ) hA l.live hs (fun I i h => Fm prog w env h (I :: V) (R i) (K i) (M i)) l.fp ?_ ?_ ?_ ?_ hlet hfs
  · intro I h' hI x' ho
    exact (l.sub hR0 hK0 (by rw [hM0]; exact List.Sublist.refl _)).more hI x' ho
  · intro I i h h' hI hJ st ho
    exact hJ.next (by rw [hF]; exact fun m => not_in l.live hI (l.fp _ m)) st ho
  · intro I i v d h1 tk E' hI hd ho hJ r st
    refine tg A { s with heap := h1, toks := tk } (I :: V) _ _ _ v d _ _ hJ r fun h2 tk2 st2 f2 => ?_
    rw [hF] at st2
    refine wpAny_mono (turn (I :: V) i d h2 tk2 E' hd f2) (fun f s3 h3 => ?_) fun _ _ e => e
    obtain ⟨rfl, h3, tk3, V3, rfl, st3, hV3, f3⟩ := h3
    exact ⟨rfl, h3, tk3, rfl, st2.trans st3, f3.less hV3 fun b hb => List.mem_cons_of_mem _ (l.fp b (by rw [hF] at hb; exact hb))⟩
  · intro I H h' tk hI st hJ st'
    exact done h' tk st (hJ.drop (not_in l.live hI) (fun b hb => l.fp b (by rw [hF] at hb; exact hb)) st')
/-- what is new to the heap does not count -/
theorem Stay.fresh {X Y : List Addr} {a b c : Heap} (x : Stay X a b) (y : Stay Y b c) (hy : ∀ p ∈ Y, p ∈ X ∨ a.get? p = none) : Stay X a c := fun p o hp e => y p o (fun m => (hy p m).elim hp fun q => by rw [q] at e; cases e) (x p o hp e)
/-- y = [..] of a comprehension: a list that may be changed -/
theorem fm_comp {A : Around} {s : Shared} {elt iter : Expr} {x y : Str} {px py : Pos} {ifs : List Expr} {scope : Scope} {cl : List (Str × Addr)} {pos spos : Pos} {ds : List D} {Q : Flow → Shared → Prop} {E : Value → Shared → Prop} (p : D → Bool) (f : D → D) (hA : AOk n A) (l : Fm prog w env s.heap V ρ κ μ)
    (src : Src prog w n env iter s.heap V ds) (el : Elt prog w n env scope cl x ifs elt s.heap V ds p f) (hsz : ds.length ≤ 1000)
    (k : ∀ a h' tk, s.heap.get? a = none → Stay (Fp env μ) s.heap h' → Fm prog w env h' (a :: V) ((y, .raw (.ref a)) :: ρ) κ ((a, .lst ((ds.filter p).map f)) :: μ) → Q .next { s with heap := h', toks := tk })
    (hsw : swapsWith (.ListComp elt [⟨.Name x px, iter, ifs, 0⟩] scope pos) (some (.Name y py)) spos.line env = pure true := by rfl)
    (hclos : closureFor scope env = pure cl := by rfl) (hcell : ∀ y ∈ scope.names, y.2 ≠ .cell := by decide) (hkind : scope.kind = .function := by rfl) (hnames : ∀ y ∈ scope.names, y.2 = .local → scope.names.lookup y.1 = some .local := by decide) (hx : scope.names.lookup x = some .local := by rfl)
    (hs : ∀ x, foldedSetIterable iter env x = pure x := by intro _; rfl) (hk : env.scope.kind = .function := by rfl) (hl : env.kindOf y = some .local := by rfl) :
    wpAny (model prog w) A (exec (.Assign [.Name y py] (.ListComp elt [⟨.Name x px, iter, ifs, 0⟩] scope pos) spos) env) Q E s := by
  refine sc_comp p f hA l.fr src el hsz (fun Dl ys h' tk hD hlD hys st f' => ?_) hsw hclos hcell hkind hnames hx hs hk hl
  have hDV : Dl ∉ V := not_in l.live hD
  have sF : Stay (Fp env μ) s.heap h' := st.mono (by simp [Fp])
  obtain ⟨h₀, t, yy, z⟩ := l.top
  refine k Dl h' tk hD sF ⟨f', l.cl, ⟨h₀, t, fun b o e => st b o (fun m => by rw [List.mem_singleton.mp m, z _ l.fr.mem] at e; cases e) (yy b o e), fun b hb => (List.mem_cons.mp hb).elim (fun q => by
      subst q
      cases e' : h₀.get? b with
      | none => rfl
      | some o => rw [yy _ _ e'] at hD; cases hD) (z b)⟩, fun q hq => ?_, ?_⟩
  · rcases List.mem_cons.mp hq with rfl | hq
    · exact ⟨by simp, fun (q : Dl = _) => hDV (q ▸ l.fr.mem), fun x c hc (q : Dl = _) => hDV (q ▸ (l.fr.memc x c hc).1), ys, hlD, hys⟩
    · obtain ⟨a, b, c, d⟩ := l.obj q hq
      refine ⟨List.mem_cons_of_mem _ a, b, c, (d.map (V' := Dl :: V) (fun o e => st _ o (by simpa using b) e) fun _ _ r => ?_)⟩
      exact (RpL.more hD r).stay (st.mono fun b hb => by rw [List.mem_singleton.mp hb]; exact List.mem_cons_of_mem _ l.fr.mem)
  · simp only [List.map_cons, List.nodup_cons]
    refine ⟨fun m => ?_, l.nd⟩
    obtain ⟨q, hq, e⟩ := List.mem_map.mp m
    exact hDV (e ▸ (l.obj q hq).1)
/-- a list that is not changed any more -/
theorem Fm.frozen {h : Heap} {a : Addr} {y : Str} {es : List D} (l : Fm prog w env h (a :: V) ((y, .raw (.ref a)) :: ρ) κ ((a, .lst es) :: μ)) (ha : a ∉ V) (hF : ∀ b ∈ Fp env μ, b ∈ V) : Fm prog w env h V ((y, .lst es) :: ρ) κ μ := by
  obtain ⟨_, _, _, ys, hl, r⟩ := l.obj (a, .lst es) (by simp)
  have l' : Fm prog w env h (a :: V) ((y, .raw (.ref a)) :: ρ) κ μ := l.sub (fun _ _ e => e) (fun _ _ e => e) (List.sublist_cons_self _ _)
  have l2 := l'.less (V' := V) (fun b hb => List.mem_cons_of_mem _ hb) hF
  exact ⟨l.fr.frozen ha (hF _ (by simp [Fp])) (fun x c e => (l2.fr.memc x c e).1) hl r, l2.cl, l2.top, l2.obj, l2.nd⟩
/-- y = [..] of a comprehension, not to be changed -/
theorem fm_compF {A : Around} {s : Shared} {elt iter : Expr} {x y : Str} {px py : Pos} {ifs : List Expr} {scope : Scope} {cl : List (Str × Addr)} {pos spos : Pos} {ds : List D} {Q : Flow → Shared → Prop} {E : Value → Shared → Prop} (p : D → Bool) (f : D → D) (hA : AOk n A) (l : Fm prog w env s.heap V ρ κ μ)
    (src : Src prog w n env iter s.heap V ds) (el : Elt prog w n env scope cl x ifs elt s.heap V ds p f) (hsz : ds.length ≤ 1000)
    (k : ∀ h' tk, Stay (Fp env μ) s.heap h' → Fm prog w env h' V ((y, .lst ((ds.filter p).map f)) :: ρ) κ μ → Q .next { s with heap := h', toks := tk })
    (hsw : swapsWith (.ListComp elt [⟨.Name x px, iter, ifs, 0⟩] scope pos) (some (.Name y py)) spos.line env = pure true := by rfl)
    (hclos : closureFor scope env = pure cl := by rfl) (hcell : ∀ y ∈ scope.names, y.2 ≠ .cell := by decide) (hkind : scope.kind = .function := by rfl) (hnames : ∀ y ∈ scope.names, y.2 = .local → scope.names.lookup y.1 = some .local := by decide) (hx : scope.names.lookup x = some .local := by rfl)
    (hs : ∀ x, foldedSetIterable iter env x = pure x := by intro _; rfl) (hk : env.scope.kind = .function := by rfl) (hl : env.kindOf y = some .local := by rfl) :
    wpAny (model prog w) A (exec (.Assign [.Name y py] (.ListComp elt [⟨.Name x px, iter, ifs, 0⟩] scope pos) spos) env) Q E s :=
  fm_comp p f hA l src el hsz (fun a h' tk ha st f' => k h' tk st (f'.frozen (not_in l.live ha) l.fp)) hsw hclos hcell hkind hnames hx hs hk hl
/-- a display, new -/
def Nw (prog : Program) (w : World) (n : Nat) (env : Env) (e : Expr) (h₀ : Heap) (V : List Addr) (m : Mo) : Prop :=
  ∀ (A : Around) (s : Shared) (Q : Value → Shared → Prop) (E : Value → Shared → Prop), AOk n A → Live h₀ V → Ext h₀ s.heap →
    (∀ a h' tk, Ext s.heap h' → s.heap.get? a = none → MoAt prog w h' (a :: V) a m → Q (.ref a) { s with heap := h', toks := tk }) → wpAny (model prog w) A (eval e env) Q E s
theorem nw_list {es : List Expr} {ds : List D} {pos : Pos} (x : ExL prog w n env h₀ V es ds) (hl : ds.length ≤ sizeLine := by first | decide | (simp only [List.length_cons, List.length_nil]; decide)) : Nw prog w n env (.List es pos) h₀ V (.pls ds) :=
  fun A s Q E hA hW hx k => wpAny_List (x.run A s _ _ _ hA hW hx fun vs h1 t1 x1 r1 => ⟨r1.length ▸ hl, k h1.objs.size _ t1 (x1.trans (Ext.push _ _)) (by
    cases e : s.heap.get? h1.objs.size with
    | none => rfl
    | some o => have := x1 _ _ e; rw [get_new] at this; cases this) ⟨vs, ⟨_, Heap.get?_push_size _ rfl⟩, (r1.more (get_new _)).ext (Ext.push _ _)⟩⟩)
theorem nw_dict {pos : Pos} (T : TopOk h₀) : Nw prog w n env (.Dict [] [] pos) h₀ V (.dI []) :=
  fun A s Q E hA hW hx k => wpAny_Dict_empty (k s.heap.objs.size _ s.toks (Ext.push _ _) (get_new _) ⟨[], Heap.DictOf.new _, rfl, (by
    have hsizes : 42 < s.heap.objs.size := by
      obtain ⟨og, _, _, hog, _⟩ := T.gen
      exact Heap.lt_size (hx _ _ hog)
    refine beq_eq_false_iff_ne.mpr fun q => ?_
    have q' : @Eq Nat s.heap.objs.size sysModules := q
    rw [q'] at hsizes
    exact absurd hsizes (by decide)), .nil⟩)
theorem fm_new {A : Around} {s : Shared} {x : Str} {p pos : Pos} {value : Expr} {m : Mo} {Q : Flow → Shared → Prop} {E : Value → Shared → Prop} (hA : AOk n A) (l : Fm prog w env s.heap V ρ κ μ) (ex : Nw prog w n env value s.heap V m)
    (k : ∀ a h' tk, s.heap.get? a = none → Stay (Fp env μ) s.heap h' → Fm prog w env h' (a :: V) ((x, .raw (.ref a)) :: ρ) κ ((a, m) :: μ) → Q .next { s with heap := h', toks := tk })
    (hs : swapsWith value (some (.Name x p)) pos.line env = pure false := by rfl) (hk : env.scope.kind = .function := by rfl) (hl : env.kindOf x = some .local := by rfl) : wpAny (model prog w) A (exec (.Assign [.Name x p] value pos) env) Q E s :=
  wpAny_Assign_Name (ex A s _ _ hA l.live (Ext.refl _) fun a h1 t1 x1 ha r1 => by
    have haV := not_in l.live ha
    have l1 : Fm prog w env h1 (a :: V) ρ κ μ := l.more ha x1 r1.obj
    have l2 : Fm prog w env h1 (a :: V) ρ κ ((a, m) :: μ) := ⟨l1.fr, l1.cl, l1.top, fun q hq => by
      rcases List.mem_cons.mp hq with rfl | hq
      · exact ⟨by simp, fun (q : a = _) => haV (q ▸ l.fr.mem), fun x c hc (q : a = _) => haV (q ▸ (l.fr.memc x c hc).1), r1⟩
      · exact l1.obj q hq, by
      simp only [List.map_cons, List.nodup_cons]
      refine ⟨fun m => ?_, l.nd⟩
      obtain ⟨q, hq, e⟩ := List.mem_map.mp m
      exact haV (e ▸ (l.obj q hq).1)⟩
    exact fm_store (s := { s with heap := h1, toks := t1 }) l2 (.raw (.ref a)) (fun h' tk hsb l' => k a h' tk ha ((x1.stay _).fresh hsb fun p hp => by
      rcases Fp.has.mp hp with e | e | ⟨q, hq, e⟩
      · exact .inl (Fp.has.mpr (.inl e))
      · exact .inl (Fp.has.mpr (.inr (.inl e)))
      · rcases List.mem_cons.mp hq with rfl | hq
        · exact .inr (e ▸ ha)
        · exact .inl (Fp.has.mpr (.inr (.inr ⟨q, hq, e⟩)))) l') hk hl) hs
end
end Mine
end
noncomputable section -- M3
open PySem PySem.W PyProof.Rows
set_option maxRecDepth 100000
set_option linter.unusedVariables false
namespace Mine
def putD (kd : List (Int × D)) (k : Int) (d : D) : List (Int × D) := if kd.any (fun q => q.1 = k) then kd.map (fun q => if q.1 = k then (q.1, d) else q) else kd ++ [(k, d)]
def atD (kd : List (Int × D)) (k : Int) : Option D := (kd.find? fun q => q.1 = k).map (·.2)
section
variable {prog : Program} {w : World} {n : Nat} {env : Env} {h₀ h₁ : Heap} {V W : List Addr} {ρ κ : List (Str × D)} {μ : List (Addr × Mo)}
theorem kv_cases {h : Heap} {k : Int} : ∀ {kvs : List (Int × Value)} {kd : List (Int × D)}, kvs.map (·.1) = kd.map (·.1) → RpL prog w h V (kvs.map (·.2)) (kd.map (·.2)) →
    (∀ d, atD kd k = some d → ∃ v, valueAt kvs k = some v ∧ Rp prog w h V v d) ∧ (atD kd k = none → valueAt kvs k = none) ∧ (kvs.any fun q => decide (q.1 = k)) = (kd.any fun q => decide (q.1 = k))
  | [], [], _, _ => ⟨fun d e => by simp [atD] at e, fun _ => rfl, rfl⟩
  | [], _ :: _, e, _ => by simp at e
  | _ :: _, [], e, _ => by simp at e
  | (k1, v) :: kvs, (k2, d) :: kd, e, r => by
    simp only [List.map_cons, List.cons.injEq] at e
    obtain ⟨rfl, e⟩ := e
    cases r with
    | cons a b =>
      obtain ⟨i1, i2, i3⟩ := kv_cases (k := k) e b
      by_cases hk : k1 = k
      · refine ⟨fun d' h' => ?_, fun h' => ?_, by simp [hk]⟩
        · simp [atD, hk] at h'; subst h'; exact ⟨v, by simp [valueAt, hk], a⟩
        · simp [atD, hk] at h'
      · refine ⟨fun d' h' => ?_, fun h' => ?_, by simp only [List.any_cons, hk]; rw [i3]⟩
        · simp only [atD, List.find?_cons, hk, decide_false] at h'
          obtain ⟨v', e1, e2⟩ := i1 d' h'
          exact ⟨v', by simpa only [valueAt, List.find?_cons, hk, decide_false] using e1, e2⟩
        · simp only [atD, List.find?_cons, hk, decide_false] at h'
          simpa only [valueAt, List.find?_cons, hk, decide_false] using i2 h'
theorem kv_stored {h : Heap} {k : Int} {u : Value} {du : D} (ru : Rp prog w h V u du) {kvs : List (Int × Value)} {kd : List (Int × D)} (e : kvs.map (·.1) = kd.map (·.1)) (r : RpL prog w h V (kvs.map (·.2)) (kd.map (·.2))) :
    (stored kvs k u).map (·.1) = (putD kd k du).map (·.1) ∧ RpL prog w h V ((stored kvs k u).map (·.2)) ((putD kd k du).map (·.2)) := by
  have i3 := (kv_cases (k := k) e r).2.2
  unfold stored putD
  rw [i3]
  cases hb : kd.any (fun q => decide (q.1 = k)) with
  | false =>
    simp only [Bool.false_eq_true, if_false, List.map_append, List.map_cons, List.map_nil]
    exact ⟨by rw [e], RpL.append (.cons ru .nil) r⟩
  | true =>
    simp only [if_true]
    clear hb i3
    induction kvs generalizing kd with
    | nil => cases kd with
      | nil => exact ⟨rfl, .nil⟩
      | cons _ _ => simp at e
    | cons p kvs ih =>
      cases kd with
      | nil => simp at e
      | cons q kd =>
        obtain ⟨k1, v⟩ := p
        obtain ⟨k2, d⟩ := q
        simp only [List.map_cons, List.cons.injEq] at e
        obtain ⟨rfl, e⟩ := e
        cases r with
        | cons a b =>
          obtain ⟨j1, j2⟩ := ih e b
          by_cases hk : k1 = k
          · simp only [List.map_cons, hk, if_true]
            exact ⟨by rw [j1], .cons ru j2⟩
          · simp only [List.map_cons, hk, if_false]
            exact ⟨by rw [j1], .cons a j2⟩
theorem Stay.perm {μ' : List (Addr × Mo)} {a b : Heap} (e : μ'.Perm μ) (x : Stay (Fp env μ') a b) : Stay (Fp env μ) a b := x.mono fun p hp => by
  rcases Fp.has.mp hp with q | q | ⟨q, hq, e'⟩
  · exact Fp.has.mpr (.inl q)
  · exact Fp.has.mpr (.inr (.inl q))
  · exact Fp.has.mpr (.inr (.inr ⟨q, e.mem_iff.mp hq, e'⟩))
theorem Fm.mo {h : Heap} {a : Addr} {m : Mo} (l : Fm prog w env h V ρ κ μ) (hm : (a, m) ∈ μ) : MoAt prog w h V a m := (l.obj _ hm).2.2.2
theorem MoAt.ext {h h' : Heap} {a : Addr} {m : Mo} (x : MoAt prog w h V a m) (e : Ext h h') : MoAt prog w h' V a m := x.map (fun o q => e _ o q) fun _ _ r => r.ext e
theorem fp_head {a : Addr} {m : Mo} {b : Addr} (hb : b ∈ [a]) : b ∈ Fp env ((a, m) :: μ) := Fp.has.mpr (.inr (.inr ⟨_, List.mem_cons_self, (List.mem_singleton.mp hb).symm⟩))
/-- x[i] of a list that may be changed -/
theorem ex_itemM {value slice : Expr} {pos : Pos} {a : Addr} {ds : List D} {k : Int} {d : D} (hm : MoAt prog w h₀ V a (.lst ds)) (hv : Ex prog w n env value h₀ V (.raw (.ref a))) (hs : Ex prog w n env slice h₀ V (.int k)) (h0 : 0 ≤ k) (hk : k < 2 ^ 63) (hd : ds[k.toNat]? = some d)
    (hp : ∀ o i, subscripted slice false o i = operate [o, i] (getItem o i) := by intro _ _; rfl) : Ex prog w n env (.Subscript value slice pos) h₀ V d :=
  ex_subscript hv hs fun A s u v Q E _ _ hx ru rv k => by
    have e := ru.raw_inv
    subst e
    obtain ⟨vs, hl, rl⟩ := hm.ext hx
    obtain ⟨t, rfl⟩ := rv.int_inv
    obtain ⟨x, hx, rx⟩ := rl.get hd
    exact tail_any hl.typeIs slot_list_getitem.lookup (wpAny_getItem_list hl h0 hk (by simpa using hx) (k x s.heap s.toks (Ext.refl _) rx)) (hp _ _)
/-- x[i] of a dict that may be changed -/
theorem ex_itemD {value slice : Expr} {pos : Pos} {a : Addr} {kd : List (Int × D)} {k : Int} {d : D} (hm : MoAt prog w h₀ V a (.dI kd)) (hv : Ex prog w n env value h₀ V (.raw (.ref a))) (hs : Ex prog w n env slice h₀ V (.int k)) (hd : atD kd k = some d)
    (hp : ∀ o i, subscripted slice false o i = operate [o, i] (getItem o i) := by intro _ _; rfl) : Ex prog w n env (.Subscript value slice pos) h₀ V d :=
  ex_subscript hv hs fun A s u v Q E _ _ hx ru rv kk => by
    have e := ru.raw_inv
    subst e
    obtain ⟨kvs, hl, hks, _, rl⟩ := hm.ext hx
    obtain ⟨t, rfl⟩ := rv.int_inv
    obtain ⟨x, hx, rx⟩ := (kv_cases (k := k) hks rl).1 d hd
    exact tail_any hl.mapOf.typeIs slot_dict_getitem.lookup (wpAny_getItem_of (intKind_is prog w k t) hl.mapOf hx (kk x s.heap _ (Ext.refl _) rx)) (hp _ _)
/-- k not in d -/
theorem tx_notInD {l r : Expr} {pos : Pos} {a : Addr} {kd : List (Int × D)} {k : Int} {d : D} (hm : MoAt prog w h₀ V a (.dI kd)) (hl : Ex prog w n env l h₀ [] (.int k)) (hr : Ex prog w n env r h₀ [] (.raw (.ref a))) (hd : atD kd k = some d) (hmk : behindInMarks .NotIn r = false := by rfl) : Tx prog w n env (.Compare l [.NotIn] [r] pos) h₀ false :=
  tx_cmp hl hr (fun A s u v Q E _ hx ru rv kk => by
    have e := rv.raw_inv
    subst e
    obtain ⟨t, rfl⟩ := ru.int_inv
    obtain ⟨kvs, hdd, hks, hsm, rl⟩ := hm.ext hx
    obtain ⟨x, hx, rx⟩ := (kv_cases (k := k) hks rl).1 d hd
    refine wpAny_notIn_of (intKind_is prog w k t) hsm hdd.mapOf ?_
    rw [hx]
    exact kk s.heap _ (Ext.refl _)) hmk
theorem fm_set {A : Around} {s : Shared} {o ie value : Expr} {p1 pos : Pos} {a : Addr} {ds : List D} {k : Int} {d : D} {Q : Flow → Shared → Prop} {E : Value → Shared → Prop} (hA : AOk n A) (l : Fm prog w env s.heap V ρ κ ((a, .lst ds) :: μ)) (hv : Ex prog w n env value s.heap V d) (ho : Ex prog w n env o s.heap V (.raw (.ref a))) (hi : Ex prog w n env ie s.heap V (.int k)) (h0 : 0 ≤ k) (hk : k < ds.length) (hk' : k < 2 ^ 63)
    (kk : ∀ h' tk, Stay (Fp env ((a, .lst ds) :: μ)) s.heap h' → Fm prog w env h' V ρ κ ((a, .lst (ds.set k.toNat d)) :: μ) → Q .next { s with heap := h', toks := tk })
    (hs : swapsWith value (some (.Subscript o ie p1)) pos.line env = pure false := by rfl) : wpAny (model prog w) A (exec (.Assign [.Subscript o ie p1] value pos) env) Q E s :=
  wpAny_Assign_Subscript (hv A s _ _ hA l.live (Ext.refl _) fun v h1 t1 x1 r1 => ho A _ _ _ hA l.live x1 fun ov h2 t2 x2 r2 => hi A _ _ _ hA l.live (x1.trans x2) fun iv h3 t3 x3 r3 => by
    have e := r2.raw_inv
    subst e
    obtain ⟨t, rfl⟩ := r3.int_inv
    have x13 := x1.trans (x2.trans x3)
    have l3 := l.ext x13
    obtain ⟨vs, hl, rl⟩ := l3.mo (a := a) (m := .lst ds) (by simp)
    have hn := rl.length
    refine wpAny_setItem_list (s := { s with heap := h3, toks := t3 }) hl h0 hk' (by simpa [hn] using hk) fun h4 hl4 hs4 => ?_
    have s4 : Stay [a] h3 h4 := Stay.of_same hs4 (by simp)
    have haV := (l.obj (a, .lst ds) (by simp)).1
    refine kk h4 t3 ((x13.stay _).trans (s4.mono fun b hb => fp_head hb)) (l3.put s4 ⟨vs.set k.toNat v, ?_, ?_⟩)
    · simpa using hl4
    · exact RpL.set ((r1.ext (x2.trans x3)).stay (s4.mono fun b hb => List.mem_singleton.mp hb ▸ haV)) (rl.stay (s4.mono fun b hb => List.mem_singleton.mp hb ▸ haV)) _) hs
theorem fm_setD {A : Around} {s : Shared} {o ie value : Expr} {p1 pos : Pos} {a : Addr} {kd : List (Int × D)} {k : Int} {d : D} {Q : Flow → Shared → Prop} {E : Value → Shared → Prop} (hA : AOk n A) (l : Fm prog w env s.heap V ρ κ ((a, .dI kd) :: μ)) (hv : Ex prog w n env value s.heap V d) (ho : Ex prog w n env o s.heap V (.raw (.ref a))) (hi : Ex prog w n env ie s.heap V (.int k)) (hsz : kd.length ≤ 1000)
    (kk : ∀ h' tk, Stay (Fp env ((a, .dI kd) :: μ)) s.heap h' → Fm prog w env h' V ρ κ ((a, .dI (putD kd k d)) :: μ) → Q .next { s with heap := h', toks := tk })
    (hs : swapsWith value (some (.Subscript o ie p1)) pos.line env = pure false := by rfl) : wpAny (model prog w) A (exec (.Assign [.Subscript o ie p1] value pos) env) Q E s :=
  wpAny_Assign_Subscript (hv A s _ _ hA l.live (Ext.refl _) fun v h1 t1 x1 r1 => ho A _ _ _ hA l.live x1 fun ov h2 t2 x2 r2 => hi A _ _ _ hA l.live (x1.trans x2) fun iv h3 t3 x3 r3 => by
    have e := r2.raw_inv
    subst e
    obtain ⟨t, rfl⟩ := r3.int_inv
    have x13 := x1.trans (x2.trans x3)
    have l3 := l.ext x13
    obtain ⟨kvs, hl, hks, hsm, rl⟩ := l3.mo (a := a) (m := .dI kd) (by simp)
    have hn : kvs.length = kd.length := by simpa using congrArg List.length hks
    refine wpAny_setItem_pairs (s := { s with heap := h3, toks := t3 }) (intKind_is prog w k t) hl (fun h4 hl4 hs4 => ?_) (by rw [sizeLine_eq]; omega)
    have s4 : Stay [a] h3 h4 := Stay.of_same hs4 (by simp)
    have haV := (l.obj (a, .dI kd) (by simp)).1
    obtain ⟨e1, e2⟩ := kv_stored (k := k) (r1.ext (x2.trans x3)) hks rl
    exact kk h4 _ ((x13.stay _).trans (s4.mono fun b hb => fp_head hb)) (l3.put s4 ⟨_, hl4, e1, hsm, e2.stay (s4.mono fun b hb => List.mem_singleton.mp hb ▸ haV)⟩)) hs
/-- x[i] += n -/
theorem fm_augI {A : Around} {s : Shared} {o ie value : Expr} {p1 pos : Pos} {a : Addr} {ds : List D} {k u v : Int} {Q : Flow → Shared → Prop} {E : Value → Shared → Prop} (hA : AOk n A) (l : Fm prog w env s.heap V ρ κ ((a, .lst ds) :: μ)) (hv : Ex prog w n env value s.heap V (.int v)) (ho : Ex prog w n env o s.heap V (.raw (.ref a))) (hi : Ex prog w n env ie s.heap V (.int k)) (h0 : 0 ≤ k) (hk : ds[k.toNat]? = some (.int u)) (hk' : k < 2 ^ 63)
    (kk : ∀ h' tk, Stay (Fp env ((a, .lst ds) :: μ)) s.heap h' → Fm prog w env h' V ρ κ ((a, .lst (ds.set k.toNat (.int (u + v)))) :: μ) → Q .next { s with heap := h', toks := tk })
    (ha : ∀ ov iv new, augStore ie ov iv new = (do holding [new, ov, iv] (setItem ov iv new); release [new, ov, iv] []; pure .next) := by intro _ _ _; rfl) : wpAny (model prog w) A (exec (.AugAssign (.Subscript o ie p1) .Add value pos) env) Q E s :=
  wpAny_AugAssign_Subscript_any (ho A s _ _ hA l.live (Ext.refl _) fun ov h1 t1 x1 r1 => hi A _ _ _ hA l.live x1 fun iv h2 t2 x2 r2 => by
    have e := r1.raw_inv
    subst e
    obtain ⟨t, rfl⟩ := r2.int_inv
    obtain ⟨vs, hl, rl⟩ := (l.ext (x1.trans x2)).mo (a := a) (m := .lst ds) (by simp)
    obtain ⟨x, hx, rx⟩ := rl.get hk
    obtain ⟨tx, rfl⟩ := rx.int_inv
    have hlt : k.toNat < ds.length := (List.getElem?_eq_some_iff.mp hk).1
    refine wpAny_getItem_list (s := { s with heap := h2, toks := t2 }) hl h0 hk' (by simpa using hx) (hv A _ _ _ hA l.live (x1.trans x2) fun v' h3 t3 x3 r3 => ?_)
    obtain ⟨tv, rfl⟩ := r3.int_inv
    refine iadd_int ?_
    have x13 := x1.trans (x2.trans x3)
    have l3 := l.ext x13
    obtain ⟨vs, hl, rl⟩ := l3.mo (a := a) (m := .lst ds) (by simp)
    have hn := rl.length
    refine wpAny_setItem_list (s := { s with heap := h3, toks := t3 + 1 }) hl h0 hk' (by simp [hn]; omega) fun h4 hl4 hs4 => ?_
    have s4 : Stay [a] h3 h4 := Stay.of_same hs4 (by simp)
    have haV := (l.obj (a, .lst ds) (by simp)).1
    refine kk h4 _ ((x13.stay _).trans (s4.mono fun b hb => fp_head hb)) (l3.put s4 ⟨vs.set k.toNat (.int (u + v) t3), ?_, ?_⟩)
    · simpa using hl4
    · exact RpL.set (.int _ _) (rl.stay (s4.mono fun b hb => List.mem_singleton.mp hb ▸ haV)) _) ha
/-- x.append(e) -/
theorem fm_append {A : Around} {s : Shared} {o e : Expr} {apos cpos pos : Pos} {a : Addr} {ds : List D} {d : D} {Q : Flow → Shared → Prop} {E : Value → Shared → Prop} (hA : AOk n A) (l : Fm prog w env s.heap V ρ κ ((a, .pls ds) :: μ)) (ho : Ex prog w n env o s.heap V (.raw (.ref a))) (hv : Ex prog w n env e s.heap V d) (hsz : ds.length ≤ 1000)
    (kk : ∀ h' tk, Stay (Fp env ((a, .pls ds) :: μ)) s.heap h' → Fm prog w env h' V ρ κ ((a, .pls (ds ++ [d])) :: μ) → Q .next { s with heap := h', toks := tk })
    (hbase : attributeBase o "append" env (eval o env) = eval o env := by rfl) (hline : (apos.endLine == cpos.line) = true := by rfl) (hse : starEach [e] env = [(false, eval e env)] := by rfl)
    (hi : interactive env = false := by rfl) (hs : swapsWith (.Call (.Attribute o "append" apos) [e] [] cpos) none pos.line env = pure false := by rfl) : wpAny (model prog w) A (exec (.Expr (.Call (.Attribute o "append" apos) [e] [] cpos) pos) env) Q E s := by
  refine wpAny_Expr_any (wpAny_Call_method (T := "list") (id := "list.append") hbase (by rw [hse]; rfl) hline F.plainAttrs_list slot_list_append F.type_list_append ?_) hi hs
  refine ho A s _ _ hA l.live (Ext.refl _) fun ov h1 t1 x1 r1 => ?_
  have e := r1.raw_inv
  subst e
  have l1 := l.ext x1
  obtain ⟨vs, hl, rl⟩ := l1.mo (a := a) (m := .pls ds) (by simp)
  refine ⟨hl.isList.typeIs, fun b q => ?_, ?_⟩
  · cases q
    obtain ⟨nn, q⟩ := hl
    exact ⟨_, q, rfl⟩
  · refine Calls.callWith_builtin (by rw [hse]; rfl) ?_
    have hr := ExL.run (ExL.cons hv ExL.nil hse) A { s with heap := h1, toks := t1 } cpos
    rw [hse] at hr ⊢
    refine Calls.evalArgs_plain (hr _ _ hA l.live x1 fun us h2 t2 x2 r2 => ?_)
    cases r2 with
    | cons ru rn =>
      cases rn
      have l2 := l1.ext x2
      obtain ⟨vs, hl, rl⟩ := l2.mo (a := a) (m := .pls ds) (by simp)
      have hn := rl.length
      refine wpAny_list_append_plain (s := { s with heap := h2, toks := t2 }) hl (fun h3 hl3 hs3 => ?_) (by rw [sizeLine_eq, List.size_toArray]; omega)
      have s3 : Stay [a] h2 h3 := Stay.of_same hs3 (by simp)
      have haV := (l.obj (a, .pls ds) (by simp)).1
      refine kk h3 _ (((x1.trans x2).stay _).trans (s3.mono fun b hb => fp_head hb)) (l2.put s3 ⟨vs ++ [_], by simpa using hl3, ?_⟩)
      exact RpL.append (.cons (ru.stay (s3.mono fun b hb => List.mem_singleton.mp hb ▸ haV)) .nil) (rl.stay (s3.mono fun b hb => List.mem_singleton.mp hb ▸ haV))
end
end Mine
end
noncomputable section -- M4
open PySem PySem.W PyProof.Rows
set_option maxRecDepth 100000
set_option linter.unusedVariables false
namespace Mine
section
variable {prog : Program} {w : World} {n : Nat} {env : Env} {h₀ h₁ : Heap} {V W : List Addr} {ρ κ : List (Str × D)} {μ : List (Addr × Mo)}
/-- sum of a list of ints -/
theorem cl_sum {ns : List Int} : Cl prog w n h₀ (.builtin "sum") [.lst (ns.map D.int)] (.int ns.sum) := fun A s W vs Q E hA _ _ r k => by
  cases r with
  | cons a b =>
    cases b
    obtain ⟨l, us, rfl, hl, _, rl⟩ := a.lst_inv
    have hi := rl.ints
    obtain ⟨xs, hxs⟩ := hi.allInts.items
    rw [hxs] at hl
    refine sum_intListG hA.hd hl fun h' tk t' hk => ?_
    have e : preSum (numAt xs) xs.size = ns.sum := by
      rw [preSum_eq, List.take_of_length_le (by simp), ← nums_intItems, ← hxs, show us.toArray.toList = us from rfl, hi.numsOf]
    rw [e]
    exact k _ h' tk hk (.int _ _)
theorem cl_max {a b : Int} : Cl prog w n h₀ (.builtin "max") [.int a, .int b] (.int (if b > a then b else a)) := fun A s W vs Q E hA _ _ r k => by
  cases r with
  | cons r1 r2 =>
    cases r2 with
    | cons r2 r3 =>
      cases r3
      obtain ⟨t, rfl⟩ := r1.int_inv
      obtain ⟨u, rfl⟩ := r2.int_inv
      refine max_two_ints hA.hd fun h' tk hk => ?_
      by_cases hb : b > a
      · rw [if_pos hb]; exact k _ h' tk hk (by rw [if_pos hb]; exact .int _ _)
      · rw [if_neg hb]; exact k _ h' tk hk (by rw [if_neg hb]; exact .int _ _)
theorem cl_min {a b : Int} : Cl prog w n h₀ (.builtin "min") [.int a, .int b] (.int (if b < a then b else a)) := fun A s W vs Q E hA _ _ r k => by
  cases r with
  | cons r1 r2 =>
    cases r2 with
    | cons r2 r3 =>
      cases r3
      obtain ⟨t, rfl⟩ := r1.int_inv
      obtain ⟨u, rfl⟩ := r2.int_inv
      refine min_two_ints hA.hd fun h' tk hk => ?_
      by_cases hb : b < a
      · rw [if_pos hb]; exact k _ h' tk hk (by rw [if_pos hb]; exact .int _ _)
      · rw [if_neg hb]; exact k _ h' tk hk (by rw [if_neg hb]; exact .int _ _)
theorem cl_lenL {ds : List D} (hd : ds.length ≤ 1000) : Cl prog w n h₀ (.builtin "len") [.lst ds] (.int ds.length) := fun A s W vs Q E hA _ _ r k => by
  cases r with
  | cons r1 r2 =>
    cases r2
    obtain ⟨l, us, rfl, hl, _, rl⟩ := r1.lst_inv
    have e := rl.length
    refine len_list hl (by rw [List.size_toArray]; omega) ?_
    rw [List.size_toArray, e]
    exact k _ s.heap _ (Ext.refl _) (.int _ _)
theorem cl_str {a : Int} (h0 : 0 ≤ a) (h1 : a < 100) : Cl prog w n h₀ (.type "str") [.int a] (.str (Str.ofString (toString a))) := fun A s W vs Q E hA _ _ r k => by
  cases r with
  | cons r1 r2 =>
    cases r2
    obtain ⟨t, rfl⟩ := r1.int_inv
    refine str_of_int_fit (N := 100) (by rw [if_neg (by omega)]; exact h1) (by decide) fun _ => k _ s.heap _ (Ext.refl _) (.str _ _)
theorem ex_addS {l r : Expr} {pos : Pos} {x y : Str} (hl : Ex prog w n env l h₀ W (.str x)) (hr : Ex prog w n env r h₀ W (.str y)) (hsz : x.length + y.length ≤ 1000) : Ex prog w n env (.BinOp l .Add r pos) h₀ W (.str (x ++ y)) :=
  ex_bin hl hr fun A s u v Q E _ _ _ ru rv k => by
    obtain ⟨t, rfl⟩ := ru.str_inv
    obtain ⟨t', rfl⟩ := rv.str_inv
    exact PyProof.Rows.add_str (fun t' tk => k _ s.heap tk (Ext.refl _) (.str _ _)) (by rw [sizeLine_eq]; omega)
theorem ex_addL {l r : Expr} {pos : Pos} {ds es : List D} (hl : Ex prog w n env l h₀ W (.lst ds)) (hr : Ex prog w n env r h₀ W (.lst es)) (hsz : ds.length + es.length ≤ 1000) : Ex prog w n env (.BinOp l .Add r pos) h₀ W (.lst (ds ++ es)) :=
  ex_bin hl hr fun A s u v Q E _ hW _ ru rv k => by
    obtain ⟨a, vs, rfl, hl, _, rl⟩ := ru.lst_inv
    obtain ⟨b, us, rfl, hb, _, rm⟩ := rv.lst_inv
    have e1 := rl.length
    have e2 := rm.length
    obtain ⟨⟨cls, dd, data, sl⟩, ho, hc, n, hd⟩ := id hl
    obtain ⟨⟨cls2, dd2, data2, sl2⟩, ho2, hc2, n2, hd2⟩ := id hb
    simp only at hc hd hc2 hd2
    subst hc hd hc2 hd2
    have e : vs.toArray ++ us.toArray = (vs ++ us).toArray := by simp
    refine concat_meets ⟨_, ho, rfl⟩ ⟨_, ho2, rfl⟩ noFill_list_add seq_list_add PySem.F.slot_list_add PySem.F.entry_list_add (PySem.F.args_list_add_2 _ _) (list_addW a b vs.toArray us.toArray n n2 dd dd2 sl sl2 (by rw [sizeLine_eq]; simp; omega)) ⟨ho, ho2, ?_⟩
    rw [e]
    exact k _ _ _ (Ext.push _ _) (rp_lst_new hW (RpL.append rm rl))
/-- x[a::c] of a list of ints -/
theorem ex_every {value lo st : Expr} {p pos : Pos} {ns : List Int} {a c : Int} (hv : Ex prog w n env value h₀ W (.lst (ns.map D.int))) (hlo : Ex prog w n env lo h₀ W (.int a)) (hst : Ex prog w n env st h₀ W (.int c)) (hc : c ≠ 0) (hsz : ns.length ≤ 1000) : Ex prog w n env (.Subscript value (.Slice (some lo) none (some st) p) pos) h₀ W (.lst ((pickNums ns (some a) none (some c)).map D.int)) :=
  fun A s Q E hA hW hx kk => Subscript_ (hv A s _ _ hA hW hx fun u h1 t1 x1 r1 => wpAny_Slice (hlo A _ _ _ hA hW (hx.trans x1) fun vl h2 t2 x2 pl => wpAny_pure (hst A _ _ _ hA hW (hx.trans (x1.trans x2)) fun vt h3 t3 x3 pt => by
    obtain ⟨l, vs, rfl, hl, _, rl⟩ := r1.lst_inv
    obtain ⟨tl, rfl⟩ := pl.int_inv
    obtain ⟨tt, rfl⟩ := pt.int_inv
    have x13 := x2.trans x3
    have hi := rl.ints
    have hl4 : (h3.push { cls := .type "slice", data := .fields #[.int a tl, .none, .int c tt] }).IsList l vs.toArray := (let ⟨o, ho, r⟩ := hl; ⟨o, Ext.push _ _ _ _ (x13 _ _ ho), r⟩)
    refine tail_any (s := { s with heap := h3.push { cls := .type "slice", data := .fields #[.int a tl, .none, .int c tt] }, toks := t3 }) hl4.typeIs slot_list_getitem.lookup (ops := [.ref l, .ref h3.objs.size]) (wpAny_getItem_list_slice hl4 (Heap.IsSliceOf.new ..) (IsPart.int a tl) IsPart.none (IsPart.int c tt) (by simpa using hc) ?_ (by rw [sizeLine_eq, List.size_toArray, hi.length]; omega)) rfl
    refine kk _ _ t3 (x1.trans (x13.trans ((Ext.push _ _).trans (Ext.push _ _)))) ?_
    have ip := hi.pick (some a) none (some c)
    have key : ∀ {us : List Value} {ms : List Int} {h : Heap}, IntsAre us ms → RpL prog w h W us (ms.map D.int) := by
      intro us ms h hh
      induction hh with
      | nil => exact .nil
      | cons n t _ ih => exact .cons (.int _ _) ih
    have := rp_lst_new (prog := prog) (w := w) (h := h3.push { cls := .type "slice", data := .fields #[.int a tl, .none, .int c tt] }) (W := W) ((hW.ext (hx.trans (x1.trans x13))).ext (Ext.push _ _)) (key ip)
    simpa using this)))
def isD (k : Int) : D → Bool
  | .int i => i == k
  | _ => false
theorem any_ints {h : Heap} {k : Int} {e : Value → Bool} (he : ∀ i t, e (.int i t) = (i == k)) : ∀ {ns : List Int} {vs : List Value}, RpL prog w h W vs (ns.map D.int) → vs.any e = ns.any (· == k)
  | [], _, .nil => rfl
  | n :: ns, _, .cons a b => by
    cases a
    simp only [List.any_cons, he, any_ints he b]
def eInt (k : Int) : Value → Bool
  | .int i _ => i == k
  | _ => false
theorem int_mem {h : Heap} : ∀ {ns : List Int} {vs : List Value}, RpL prog w h W vs (ns.map D.int) → ∀ y ∈ vs, ∃ i t, y = .int i t
  | [], _, .nil, y, hy => by cases hy
  | n :: ns, _, .cons a b, y, hy => by
    rcases List.mem_cons.mp hy with rfl | hy
    · obtain ⟨t, e⟩ := a.int_inv; exact ⟨n, t, e⟩
    · exact int_mem b y hy
theorem tx_inL {l r : Expr} {pos : Pos} {k : Int} {ns : List Int} (hl : Ex prog w n env l h₀ [] (.int k)) (hr : Ex prog w n env r h₀ [] (.lst (ns.map D.int))) (hm : behindInMarks .In r = false := by rfl) : Tx prog w n env (.Compare l [.In] [r] pos) h₀ (ns.any (· == k)) :=
  tx_cmp hl hr (fun A s u v Q E hA _ ru rv kk => by
    obtain ⟨t, rfl⟩ := ru.int_inv
    obtain ⟨a, vs, rfl, hl, _, rl⟩ := rv.lst_inv
    refine SeqAt.in_listAt (eInt k) hl (fun y hy => ?_) ?_
    · obtain ⟨i, t', rfl⟩ := int_mem rl y (by simpa using hy)
      exact SeqAt.EqAt.int_int _ _ _ _
    · rw [List.any_toArray, any_ints (fun _ _ => rfl) rl]
      exact kk s.heap s.toks (Ext.refl _)) hm
theorem tx_notInL {l r : Expr} {pos : Pos} {k : Int} {ns : List Int} (hl : Ex prog w n env l h₀ [] (.int k)) (hr : Ex prog w n env r h₀ [] (.lst (ns.map D.int))) (hm : behindInMarks .NotIn r = false := by rfl) : Tx prog w n env (.Compare l [.NotIn] [r] pos) h₀ (!ns.any (· == k)) :=
  tx_cmp hl hr (fun A s u v Q E hA _ ru rv kk => by
    obtain ⟨t, rfl⟩ := ru.int_inv
    obtain ⟨a, vs, rfl, hl, _, rl⟩ := rv.lst_inv
    refine SeqAt.notIn_listAt (eInt k) hl (fun y hy => ?_) ?_
    · obtain ⟨i, t', rfl⟩ := int_mem rl y (by simpa using hy)
      exact SeqAt.EqAt.int_int _ _ _ _
    · rw [List.any_toArray, any_ints (fun _ _ => rfl) rl]
      exact kk s.heap s.toks (Ext.refl _)) hm
theorem tx_notInM {l r : Expr} {pos : Pos} {a : Addr} {k : Int} {ns : List Int} (hm' : MoAt prog w h₀ V a (.lst (ns.map D.int))) (hl : Ex prog w n env l h₀ [] (.int k)) (hr : Ex prog w n env r h₀ [] (.raw (.ref a))) (hm : behindInMarks .NotIn r = false := by rfl) : Tx prog w n env (.Compare l [.NotIn] [r] pos) h₀ (!ns.any (· == k)) :=
  tx_cmp hl hr (fun A s u v Q E hA hx ru rv kk => by
    obtain ⟨t, rfl⟩ := ru.int_inv
    have e := rv.raw_inv
    subst e
    obtain ⟨vs, hl, rl⟩ := hm'.ext hx
    refine SeqAt.notIn_listAt (eInt k) hl (fun y hy => ?_) ?_
    · obtain ⟨i, t', rfl⟩ := int_mem rl y (by simpa using hy)
      exact SeqAt.EqAt.int_int _ _ _ _
    · rw [List.any_toArray, any_ints (fun _ _ => rfl) rl]
      exact kk s.heap s.toks (Ext.refl _)) hm
theorem tx_inT {l r : Expr} {pos : Pos} {k : Int} {ns : List Int} (hl : Ex prog w n env l h₀ [] (.int k)) (hr : Ex prog w n env r h₀ [] (.tup (ns.map D.int))) (hm : behindInMarks .In r = false := by rfl) : Tx prog w n env (.Compare l [.In] [r] pos) h₀ (ns.any (· == k)) :=
  tx_cmp hl hr (fun A s u v Q E hA _ ru rv kk => by
    obtain ⟨t, rfl⟩ := ru.int_inv
    obtain ⟨a, vs, rfl, hl, _, rl⟩ := rv.tup_inv
    refine SeqAt.in_tupleAt (eInt k) hl (fun y hy => ?_) ?_
    · obtain ⟨i, t', rfl⟩ := int_mem rl y (by simpa using hy)
      exact SeqAt.EqAt.int_int _ _ _ _
    · rw [List.any_toArray, any_ints (fun _ _ => rfl) rl]
      exact kk s.heap s.toks (Ext.refl _)) hm
/-- {} -/
theorem ex_dict0 {pos : Pos} (T : TopOk h₀) : Ex prog w n env (.Dict [] [] pos) h₀ W (dC []) :=
  fun A s Q E hA hW hx k => wpAny_Dict_empty (k _ _ s.toks (Ext.push _ _) (.dS (ks := []) (vs := []) (Heap.DictOf.new _) rfl (by
    have hsizes : 42 < s.heap.objs.size := by
      obtain ⟨og, _, _, hog, _⟩ := T.gen
      exact Heap.lt_size (hx _ _ hog)
    refine beq_eq_false_iff_ne.mpr fun q => ?_
    have q' : @Eq Nat s.heap.objs.size sysModules := q
    rw [q'] at hsizes
    exact absurd hsizes (by decide)) ((hW.ext hx).new) .nil))
/-- {k: v} -/
theorem ex_dict1 {ke ve : Expr} {pos : Pos} {k : Str} {i : Int} (T : TopOk h₀) (hk : Ex prog w n env ke h₀ W (.str k)) (hv : Ex prog w n env ve h₀ W (.int i)) : Ex prog w n env (.Dict [some ke] [ve] pos) h₀ W (dC [(k, i)]) :=
  fun A s Q E hA hW hx kk => wpAny_Dict_walk (knd := strKind prog w) rfl rfl (by simp) (by simp) (pairTrees_cons_walk (hk A _ _ _ hA hW (hx.trans (Ext.push _ _)) fun v1 h1 t1 x1 r1 => hv A _ _ _ hA hW (hx.trans ((Ext.push _ _).trans x1)) fun v2 h2 t2 x2 r2 => pairTrees_nil_walk (by
    obtain ⟨tk, rfl⟩ := r1.str_inv
    obtain ⟨ti, rfl⟩ := r2.int_inv
    have hD : h2.DictOf (strKind prog w) s.heap.objs.size [] := (let ⟨o, es, ep, ho, r⟩ := (Heap.DictOf.new (knd := strKind prog w) s.heap); ⟨o, es, ep, x2 _ _ (x1 _ _ ho), r⟩)
    refine display_done_str (vs := [(.str k tk, .int i ti)]) rfl (by simp [strPairs]) hD fun h' hd' hs' => ?_
    have hn := get_new s.heap
    refine kk _ h' _ (fun b o e => hs'.extBut b o (fun q => by rw [q, hn] at e; cases e) (x2 _ _ (x1 _ _ (Ext.push _ _ _ _ e)))) ?_
    refine .dS (ks := [k]) (vs := [.int i ti]) hd' rfl ?_ ((hW.ext hx).new) (.cons (.int _ _) .nil)
    have hsizes : 42 < s.heap.objs.size := by
      obtain ⟨og, _, _, hog, _⟩ := T.gen
      exact Heap.lt_size (hx _ _ hog)
    refine beq_eq_false_iff_ne.mpr fun q => ?_
    have q' : @Eq Nat s.heap.objs.size sysModules := q
    rw [q'] at hsizes
    exact absurd hsizes (by decide))))
/-- a, b, c = .. -/
theorem fm_inOrder {A : Around} (hk : env.scope.kind = .function) {E : Value → Shared → Prop} : ∀ (xs : List (Str × Pos)) {s : Shared} {vs : List Value} {ds : List D} {ρ : List (Str × D)} {Q : Unit → Shared → Prop}, (∀ x ∈ xs, env.kindOf x.1 = some .local) → xs.length = vs.length → Fm prog w env s.heap V ρ κ μ → RpL prog w s.heap V vs ds →
    (∀ h' tk, Stay (Fp env μ) s.heap h' → Fm prog w env h' V (((xs.map (·.1)).zip ds).reverse ++ ρ) κ μ → Q () { s with heap := h', toks := tk }) → wpAny (model prog w) A (assignInOrder (xs.map fun x => assign (.Name x.1 x.2) env) vs) Q E s
  | [], s, vs, ds, ρ, Q, _, hl, f, r, k => by
    cases r with
    | nil => exact wpAny_pure (k s.heap s.toks (Stay.refl _ _) f)
    | cons _ _ => simp at hl
  | x :: xs, s, vs, ds, ρ, Q, hx, hl, f, r, k => by
    cases r with
    | nil => simp at hl
    | cons a b =>
      rename_i v vs d ds
      show wpAny _ _ (do holding vs (assign (.Name x.1 x.2) env v); assignInOrder (xs.map fun x => assign (.Name x.1 x.2) env) vs) _ _ _
      refine wpAny_bind (wpAny_holding (wpAny_assign_Name (fm_store f a (fun h1 tk1 st1 f1 => ?_) hk (hx x List.mem_cons_self))))
      refine fm_inOrder hk xs (s := { s with heap := h1, toks := tk1 }) (fun y hy => hx y (List.mem_cons_of_mem _ hy)) (by simpa using hl) f1 (b.stay (st1.mono f.fp)) fun h2 tk2 st2 f2 => ?_
      refine k h2 tk2 (st1.trans st2) ?_
      simpa using f2
theorem fm_unpack {A : Around} {s : Shared} {elts : List Expr} {k0 : Nat} {tpos pos : Pos} {value : Expr} {ds : List D} (xs : List (Str × Pos)) {Q : Flow → Shared → Prop} {E : Value → Shared → Prop} (hA : AOk n A) (l : Fm prog w env s.heap V ρ κ μ) (ex : Ex prog w n env value s.heap V (.tup ds))
    (hass : assignEach elts env = xs.map fun x => (false, assign (.Name x.1 x.2) env)) (hxs : ∀ x ∈ xs, env.kindOf x.1 = some .local) (hlen : xs.length = ds.length)
    (k : ∀ h' tk, Stay (Fp env μ) s.heap h' → Fm prog w env h' V (((xs.map (·.1)).zip ds).reverse ++ ρ) κ μ → Q .next { s with heap := h', toks := tk })
    (hs : swapsWithSole [.Tuple elts k0 tpos] value pos.line env = pure false := by rfl) (hw : swappedStores [.Tuple elts k0 tpos] value env = pure none := by rfl) (hk : env.scope.kind = .function := by rfl) :
    wpAny (model prog w) A (exec (.Assign [.Tuple elts k0 tpos] value pos) env) Q E s :=
  Assign_Tuple (ex A s _ _ hA l.live (Ext.refl _) fun v h1 t1 x1 r1 => by
    obtain ⟨a, vs, rfl, ht, _, rl⟩ := r1.tup_inv
    have hvl : xs.length = vs.length := by rw [hlen, rl.length]
    refine wpAny_assign_Tuple hA.hd ht (by rw [hass]; simp [hvl]) (by rw [hass]; simp [List.findIdx?_map]) fun h2 hx2 => ?_
    have x2 : Ext h1 h2 := fun b o e => hx2 b o (Nat.ne_of_lt (Heap.lt_size e)) e
    have e1 : (assignEach elts env).map (·.2) = xs.map fun x => assign (.Name x.1 x.2) env := by rw [hass]; simp
    rw [e1]
    refine fm_inOrder hk xs (s := { s with heap := h2, toks := t1 }) hxs hvl (l.ext (x1.trans x2)) (rl.ext x2) fun h3 tk3 st3 f3 => k h3 tk3 (((x1.trans x2).stay _).trans st3) f3) hs hw
end
end Mine
end
noncomputable section -- S1
open PySem PySem.W PyProof.Rows
set_option maxRecDepth 100000
set_option linter.unusedVariables false
namespace Mine
/-! the sort's questions, answered by an order -/
noncomputable def evalT {α : Type} (n : Nat) (lt : Nat → Nat → Bool) : KasT α → Option α
  | .ret a => some a
  | .ask i j k => if i < n ∧ j < n then evalT n lt (k (lt i j)) else none
def rankOk (rs : List Nat) : Bool := !decide rs.Nodup || decide ((evalT rs.length (fun i j => decide (rs.getD i 0 < rs.getD j 0)) (kas_sort rs.length)).map (fun p => p.toList.map fun i => rs.getD i rs.length) = some (List.range rs.length))
theorem rank2 : ∀ a b : Fin 2, rankOk [a.val, b.val] = true := by decide +kernel
theorem rank3 : ∀ a b c : Fin 3, rankOk [a.val, b.val, c.val] = true := by decide +kernel
theorem rank4 : ∀ a b c d : Fin 4, rankOk [a.val, b.val, c.val, d.val] = true := by decide +kernel
theorem rank5_0 : ∀ b c d e : Fin 5, rankOk [0, b.val, c.val, d.val, e.val] = true := by decide +kernel
theorem rank5_1 : ∀ b c d e : Fin 5, rankOk [1, b.val, c.val, d.val, e.val] = true := by decide +kernel
theorem rank5_2 : ∀ b c d e : Fin 5, rankOk [2, b.val, c.val, d.val, e.val] = true := by decide +kernel
theorem rank5_3 : ∀ b c d e : Fin 5, rankOk [3, b.val, c.val, d.val, e.val] = true := by decide +kernel
theorem rank5_4 : ∀ b c d e : Fin 5, rankOk [4, b.val, c.val, d.val, e.val] = true := by decide +kernel
theorem rank5 : ∀ a b c d e : Fin 5, rankOk [a.val, b.val, c.val, d.val, e.val] = true := fun a b c d e => by
  obtain ⟨a, ha⟩ := a
  match a, ha with
  | 0, _ => exact rank5_0 b c d e
  | 1, _ => exact rank5_1 b c d e
  | 2, _ => exact rank5_2 b c d e
  | 3, _ => exact rank5_3 b c d e
  | 4, _ => exact rank5_4 b c d e
end Mine
end
noncomputable section -- S2
open PySem PySem.W PySem.Calls PyProof.Rows
set_option maxRecDepth 100000
set_option maxHeartbeats 4000000
set_option linter.unusedVariables false
namespace Mine
abbrev T3 := Int × Int × Int
def dT3 (x : T3) : D := .tup [.int x.1, .int x.2.1, .int x.2.2]
def lt3 (x y : T3) : Bool := if x.1 = y.1 then (if x.2.1 = y.2.1 then decide (x.2.2 < y.2.2) else decide (x.2.1 < y.2.1)) else decide (x.1 < y.1)
section
variable {prog : Program} {w : World} {A : Around} {E : Value → Shared → Prop} {s : Shared}
/-- a tuple of three ints in the heap -/
def Is3 (h : Heap) (v : Value) (x : T3) : Prop := ∃ a o n t u r, v = .ref a ∧ h.get? a = some o ∧ o.cls = .type "tuple" ∧ o.data = .seq #[.int x.1 t, .int x.2.1 u, .int x.2.2 r] n
theorem is3_of {h : Heap} {W : List Addr} {v : Value} {x : T3} (r : Rp prog w h W v (dT3 x)) : Is3 h v x := by
  obtain ⟨a, vs, rfl, ⟨o, ho, hc, n, hd⟩, _, rl⟩ := r.tup_inv
  cases rl with
  | cons r1 rl =>
    cases rl with
    | cons r2 rl =>
      cases rl with
      | cons r3 rl =>
        cases rl
        obtain ⟨t1, rfl⟩ := r1.int_inv
        obtain ⟨t2, rfl⟩ := r2.int_inv
        obtain ⟨t3, rfl⟩ := r3.int_inv
        exact ⟨a, o, n, t1, t2, t3, rfl, ho, hc, hd⟩
theorem Is3.ext {h h' : Heap} {v : Value} {x : T3} (i : Is3 h v x) (e : Ext h h') : Is3 h' v x := by
  obtain ⟨a, o, n, t, u, r, rfl, ho, q⟩ := i
  exact ⟨a, o, n, t, u, r, rfl, e _ _ ho, q⟩
theorem lt_is3 {v u : Value} {x y : T3} {Q : Bool → Shared → Prop} (hx : Is3 s.heap v x) (hy : Is3 s.heap u y) (h : Q (lt3 x y) s) : wpAny (model prog w) A (keyLt' (tuples' true) v u) Q E s := by
  obtain ⟨a, o, n, t1, t2, t3, rfl, ho, hc, hd⟩ := hx
  obtain ⟨b, o', n', t1', t2', t3', rfl, ho', hc', hd'⟩ := hy
  refine kat_lt ho hd ho' hd' ?_
  refine kat_cons (wpAny_eqBool_int ?_)
  unfold lt3 at h
  by_cases h1 : x.1 = y.1
  · rw [if_pos h1] at h
    rw [show (x.1 == y.1) = true by simpa using h1]
    refine kat_yes (kat_cons (wpAny_eqBool_int ?_))
    by_cases h2 : x.2.1 = y.2.1
    · rw [if_pos h2] at h
      rw [show (x.2.1 == y.2.1) = true by simpa using h2]
      refine kat_yes (kat_cons (wpAny_eqBool_int ?_))
      by_cases h3 : x.2.2 = y.2.2
      · rw [show (x.2.2 == y.2.2) = true by simpa using h3]
        refine kat_yes (kat_nil ?_)
        simpa [h3] using h
      · rw [show (x.2.2 == y.2.2) = false by simpa using h3]
        exact kat_no (kat_one _ _ (lt_int h))
    · rw [if_neg h2] at h
      rw [show (x.2.1 == y.2.1) = false by simpa using h2]
      exact kat_no (kat_one _ _ (lt_int h))
  · rw [if_neg h1] at h
    rw [show (x.1 == y.1) = false by simpa using h1]
    exact kat_no (oneLt_int h)
/-- the tree's answers by an order -/
theorem eval_wp {α : Type} {vs : List Value} {xs : List T3} {Q : α → Shared → Prop} {s : Shared} (hi : ∀ i, i < xs.length → Is3 s.heap (vs.getD i .none) (xs.getD i (0, 0, 0))) : ∀ (t : KasT α) (r : α), evalT xs.length (fun i j => lt3 (xs.getD i (0, 0, 0)) (xs.getD j (0, 0, 0))) t = some r → Q r s → t.kasWp (kas_ask prog w A (tuples' true) vs) Q s
  | .ret a, r, e, h => by cases e; exact h
  | .ask i j k, r, e, h => by
    simp only [evalT] at e
    by_cases hij : i < xs.length ∧ j < xs.length
    · rw [if_pos hij] at e
      show wpAny _ _ _ _ _ _
      exact lt_is3 (hi i hij.1) (hi j hij.2) (eval_wp hi _ r e h)
    · rw [if_neg hij] at e; cases e
end
end Mine
end
noncomputable section -- W1
open PySem PySem.W PyProof.Rows
set_option maxRecDepth 100000
set_option linter.unusedVariables false
namespace Mine
/-! the law's frame -/
def lawEnv (L fa : Addr) (cd : Value) : Env :=
  { scope := dScope (gdef 9), locals := L, globals := mainGlobals, cells := [("stay", L + 9), ("choice", L + 8), ("core", L + 7), ("ends", L + 6), ("texts", L + 5), ("cell", L + 4), ("worths", L + 3), ("lines", L + 2), ("script", L + 1)],
    qual := dName (gdef 9) ++ ".<locals>.", func := some fa, code := cd, frame := some L, builtins := builtinsNs }
def lawS (i : Nat) : Stmt := (dBody (gdef 9)).getD i (.Pass ⟨0, 0, 0, 0⟩)
def onI (f : Int → D) : D → D
  | .int i => f i
  | _ => .none
def onIb (p : Int → Bool) : D → Bool
  | .int i => p i
  | _ => false
def onS (f : Str → D) : D → D
  | .str i => f i
  | _ => .none
theorem onI_map (p : Int → Bool) (f : Int → D) : ∀ xs : List Int, ((xs.map D.int).filter (onIb p)).map (onI f) = (xs.filter p).map f
  | [] => rfl
  | x :: xs => by
    have ih := onI_map p f xs
    simp only [List.map_cons, List.filter_cons]
    show (List.map (onI f) (if p x = true then _ else _)) = _
    cases hp : p x with
    | true => simp only [if_true, List.map_cons, ih]; rfl
    | false => simpa using ih
abbrev Has (ρ : List (Str × D)) (x : Str) (d : D) : Prop := ρ.lookup x = some d
def tt : D → Bool := fun _ => true
theorem tt_filter (ds : List D) : ds.filter tt = ds := List.filter_eq_self.mpr fun _ _ => rfl
theorem rng_map (n : Nat) : ((List.range n).map fun (i : Nat) => D.int (0 + i * 1)) = ((List.range n).map fun (i : Nat) => (i : Int)).map D.int := by simp
section
variable {prog : Program} {w : World} {env : Env} {h₀ h₁ : Heap} {V W : List Addr} {ρ κ : List (Str × D)} {μ : List (Addr × Mo)} {L fa : Addr} {cd : Value} {A : Around} {s : Shared} {Q : Flow → Shared → Prop} {E : Value → Shared → Prop}
def drawn (ns : List Int) (k : Int) : Int := (pickNums ns (some k) none (some 5)).sum + k
theorem w0 {ns : List Int} (hA : AOk 8 A) (l : Fm prog w (lawEnv L fa cd) s.heap V ρ κ μ) (hs : Has κ "script" (.lst (ns.map D.int))) (hn : ns.length ≤ 63)
    (k : ∀ h' tk, Stay (Fp (lawEnv L fa cd) μ) s.heap h' → Fm prog w (lawEnv L fa cd) h' V (("drawn", .lst (((List.range 5).map fun (i : Nat) => drawn ns i).map D.int)) :: ρ) κ μ → Q .next { s with heap := h', toks := tk }) :
    wpAny (model prog w) A (exec (lawS 0) (lawEnv L fa cd)) Q E s := by
  refine fm_compF tt (onI fun i => .int (drawn ns i)) hA l (src_range (ld_range l.tk rfl rfl rfl rfl) ex_int rfl rfl) ⟨fun V' C h1 d g y hd f => Txs.nil, fun V' C h1 d g y hd _ f => ?_⟩ (by decide) (fun h' tk st f => k h' tk st ?_)
  · obtain ⟨i, _, rfl⟩ := List.mem_map.mp hd
    have T1 := l.tk.ext y
    refine ex_add (ex_callB (ld_bi T1 (by decide) (fun _ r => r.2.1)) (ExL.cons (ex_every (exf l.fr (x := "script") (c := L + 1) rfl hs g y) (ex_loc f rfl) ex_int (by decide) (by omega)) ExL.nil) cl_sum) (ex_loc f rfl)
  · rw [tt_filter, rng_map, List.map_map] at f
    simpa [List.map_map, Function.comp_def, onI] using f
def clamp (x : Int) : Int := if (if x < 10 ^ (30 : Int).toNat then x else 10 ^ (30 : Int).toNat) > -(10 ^ (30 : Int).toNat) then (if x < 10 ^ (30 : Int).toNat then x else 10 ^ (30 : Int).toNat) else -(10 ^ (30 : Int).toNat)
theorem w1 {xs : List Int} (hA : AOk 8 A) (l : Fm prog w (lawEnv L fa cd) s.heap V ρ κ μ) (hs : Has ρ "drawn" (.lst (xs.map D.int))) (hn : xs.length ≤ 63)
    (k : ∀ h' tk, Stay (Fp (lawEnv L fa cd) μ) s.heap h' → Fm prog w (lawEnv L fa cd) h' V ρ (("lines", .lst ((xs.map fun x => x.fmod 100).map D.int)) :: κ) μ → Q .next { s with heap := h', toks := tk }) :
    wpAny (model prog w) A (exec (lawS 1) (lawEnv L fa cd)) Q E s := by
  refine fm_assignC (c := L + 2) hA l rfl (ex_comp tt (onI fun i => .int (i.fmod 100)) (src_lst (exl l.fr hs)) ⟨fun V' C h1 d g y hd f => Txs.nil, fun V' C h1 d g y hd _ f => ?_⟩ (by simp; omega)) (fun h' tk st f => k h' tk st ?_)
  · obtain ⟨i, _, rfl⟩ := List.mem_map.mp hd
    exact ex_mod (ex_loc f rfl) ex_int (by decide)
  · rw [tt_filter] at f
    simpa [List.map_map, Function.comp_def, onI] using f
theorem w2 {xs : List Int} (hA : AOk 8 A) (l : Fm prog w (lawEnv L fa cd) s.heap V ρ κ μ) (hs : Has ρ "drawn" (.lst (xs.map D.int))) (hn : xs.length ≤ 63)
    (k : ∀ h' tk, Stay (Fp (lawEnv L fa cd) μ) s.heap h' → Fm prog w (lawEnv L fa cd) h' V ρ (("worths", .lst ((xs.map fun x => clamp (x.fdiv 100)).map D.int)) :: κ) μ → Q .next { s with heap := h', toks := tk }) :
    wpAny (model prog w) A (exec (lawS 2) (lawEnv L fa cd)) Q E s := by
  refine fm_assignC (c := L + 3) hA l rfl (ex_comp tt (onI fun i => .int (clamp (i.fdiv 100))) (src_lst (exl l.fr hs)) ⟨fun V' C h1 d g y hd f => Txs.nil, fun V' C h1 d g y hd _ f => ?_⟩ (by simp; omega)) (fun h' tk st f => k h' tk st ?_)
  · obtain ⟨i, _, rfl⟩ := List.mem_map.mp hd
    have T1 := l.tk.ext y
    exact ex_callB (ld_bi T1 (by decide) (fun _ r => r.2.2.1)) (ExL.cons (ex_neg (ex_pow ex_int ex_int (by decide) (by decide))) (ExL.cons (ex_callB (ld_bi T1 (by decide) (fun _ r => r.2.2.2.1)) (ExL.cons (ex_pow ex_int ex_int (by decide) (by decide)) (ExL.cons (ex_fdiv (ex_loc f rfl) ex_int (by decide) (PyProof.noPylong_of_log2 (by decide +kernel))) ExL.nil)) cl_min) ExL.nil)) cl_max
  · rw [tt_filter] at f
    simpa [List.map_map, Function.comp_def, onI] using f
end
end Mine
end
noncomputable section -- D1
open PySem PySem.W PyProof.Rows
set_option maxRecDepth 100000
set_option linter.unusedVariables false
namespace Mine
/-! the plain side: five entries, six cells -/
section
variable (li wo : Nat → Int)
def tx (k : Nat) : Str := textOf (li k)
def fiI (x : Int) : Int := (runI (textOf x)).fmod 2
def seI (x : Int) : Int := 2 + ((runI (textOf x)).fdiv 2).fmod 4
def e1 (k : Nat) : Nat := (fiI (li k)).toNat
def e2 (k : Nat) : Nat := (seI (li k)).toNat
theorem fiI_eq (x : Int) : ∃ n : Nat, n < 2 ∧ fiI x = n := by
  have h0 : 0 ≤ fiI x := Int.fmod_nonneg_of_pos _ (by decide)
  have h1 : fiI x < 2 := Int.fmod_lt_of_pos _ (by decide)
  exact ⟨(fiI x).toNat, by omega, by omega⟩
theorem seI_eq (x : Int) : ∃ n : Nat, 2 ≤ n ∧ n < 6 ∧ seI x = n := by
  have h0 : 0 ≤ ((runI (textOf x)).fdiv 2).fmod 4 := Int.fmod_nonneg_of_pos _ (by decide)
  have h1 : ((runI (textOf x)).fdiv 2).fmod 4 < 4 := Int.fmod_lt_of_pos _ (by decide)
  refine ⟨(seI x).toNat, ?_, ?_, ?_⟩ <;> unfold seI <;> omega
theorem e1_spec (k : Nat) : e1 li k < 2 ∧ fiI (li k) = (e1 li k : Nat) := by
  obtain ⟨n, h, e⟩ := fiI_eq (li k)
  unfold e1; rw [e]; simpa using h
theorem e2_spec (k : Nat) : 2 ≤ e2 li k ∧ e2 li k < 6 ∧ seI (li k) = (e2 li k : Nat) := by
  obtain ⟨n, h, h', e⟩ := seI_eq (li k)
  unfold e2; rw [e]; simpa using ⟨h, h'⟩
def inC (k c : Nat) : Bool := e1 li k == c || e2 li k == c
/-- a sum over the entries of S in cell c -/
def sumC (S : Nat → Bool) (c : Nat) (g : Nat → Int) : Int :=
  (if S 0 && inC li 0 c then g 0 else 0) + (if S 1 && inC li 1 c then g 1 else 0) + (if S 2 && inC li 2 c then g 2 else 0) + (if S 3 && inC li 3 c then g 3 else 0) + (if S 4 && inC li 4 c then g 4 else 0)
/-- the texts that were ever put into cell c by the first n entries -/
noncomputable def keysIn (c : Nat) : Nat → List Str
  | 0 => []
  | n + 1 => if inC li n c && !((keysIn c n).contains (tx li n)) then keysIn c n ++ [tx li n] else keysIn c n
def countC (S : Nat → Bool) (c : Nat) (t : Str) : Int := sumC li (fun k => S k && tx li k == t) c fun _ => 1
def kvOf (n : Nat) (S : Nat → Bool) (c : Nat) : List (Str × Int) := (keysIn li c n).map fun t => (t, countC li S c t)
def cellOf (n : Nat) (S : Nat → Bool) (c : Nat) : Cell := ⟨sumC li S c fun _ => 1, sumC li S c li, sumC li S c wo, sumC li S c fun k => 2 ^ k, kvOf li n S c⟩
def upd (f : Nat → Cell) (c : Nat) (x : Cell) : Nat → Cell := fun i => if i = c then x else f i
def dL (f : Nat → Cell) : List D := (List.range 6).map fun i => dT (f i)
theorem dL_get (f : Nat → Cell) {c : Nat} (h : c < 6) : (dL f)[c]? = some (dT (f c)) := by
  simp [dL, h]
theorem dL_set (f : Nat → Cell) (c : Nat) (x : Cell) : (dL f).set c (dT x) = dL (upd f c x) := by
  apply List.ext_getElem
  · simp [dL]
  · intro i h1 h2
    simp only [dL, List.getElem_set, List.getElem_map, List.getElem_range, upd]
    by_cases h : c = i
    · simp [h]
    · simp [h, Ne.symm h]
theorem dL_len (f : Nat → Cell) : (dL f).length = 6 := by simp [dL]
/-- an entry's place in the table of texts -/
def whE (x : Int) : D := .tup [.str (textOf x), .int (fiI x), .int (seI x)]
noncomputable def wh : Nat → List (Int × D)
  | 0 => []
  | n + 1 => putD (wh n) (li n) (whE (li n))
theorem atD_put (kd : List (Int × D)) (k k' : Int) (d : D) : atD (putD kd k d) k' = if k = k' then some d else atD kd k' := by
  unfold putD atD
  cases hb : kd.any (fun q => q.1 = k) with
  | true =>
    rw [if_pos rfl, List.find?_map]
    have e : ((fun q : Int × D => decide (q.1 = k')) ∘ fun q => if q.1 = k then (q.1, d) else q) = fun q => decide (q.1 = k') := by
      funext q
      by_cases h : q.1 = k <;> simp [h]
    rw [e]
    cases hf : kd.find? (fun q => decide (q.1 = k')) with
    | none =>
      have hn : ∀ q ∈ kd, ¬ q.1 = k' := fun q hq => by simpa using List.find?_eq_none.mp hf q hq
      have hk : ¬ k = k' := fun hk => by
        obtain ⟨q, hq, e⟩ := List.any_eq_true.mp hb
        exact hn q hq (by rw [← hk]; simpa using e)
      rw [if_neg hk]; rfl
    | some q =>
      have hq : q.1 = k' := by simpa using List.find?_some hf
      by_cases hk : k = k'
      · have : q.1 = k := hq.trans hk.symm
        simp [this, hk]
      · have : ¬ q.1 = k := fun e => hk (e.symm.trans hq)
        simp [this, hk]
  | false =>
    rw [if_neg (by simp)]
    have hn : ∀ q ∈ kd, ¬ q.1 = k := fun q hq e => by
      have := List.any_eq_false.mp hb q hq
      exact this (by simpa using e)
    by_cases hk : k = k'
    · subst hk
      have : kd.find? (fun q => decide (q.1 = k)) = none := List.find?_eq_none.mpr fun q hq => by simpa using hn q hq
      simp [List.find?_append, this]
    · rw [if_neg hk]
      cases h : kd.find? (fun q => decide (q.1 = k')) with
      | none => simp [List.find?_append, h, hk]
      | some q => simp [List.find?_append, h]
theorem wh_at : ∀ (n k : Nat), k < n → atD (wh li n) (li k) = some (whE (li k))
  | 0, k, h => absurd h (Nat.not_lt_zero _)
  | n + 1, k, h => by
    rw [wh, atD_put]
    by_cases e : li n = li k
    · rw [if_pos e, e]
    · rw [if_neg e]
      refine wh_at n k ?_
      rcases Nat.lt_succ_iff_lt_or_eq.mp h with h | h
      · exact h
      · exact absurd (by rw [h]) e
theorem putD_len (kd : List (Int × D)) (k : Int) (d : D) : (putD kd k d).length ≤ kd.length + 1 := by
  unfold putD; split <;> simp
theorem wh_len : ∀ n, (wh li n).length ≤ n
  | 0 => Nat.le_refl _
  | n + 1 => Nat.le_trans (putD_len _ _ _) (Nat.succ_le_succ (wh_len n))
theorem keysIn_len (c : Nat) : ∀ n, (keysIn li c n).length ≤ n
  | 0 => Nat.le_refl _
  | n + 1 => by
    have := keysIn_len c n
    rw [keysIn]; split <;> simp <;> omega
theorem kvOf_len (n : Nat) (S : Nat → Bool) (c : Nat) : (kvOf li n S c).length ≤ n := by
  simpa [kvOf] using keysIn_len li c n
end
end Mine
end
noncomputable section -- W2
open PySem PySem.W PyProof.Rows
set_option maxRecDepth 100000
set_option linter.unusedVariables false
namespace Mine
section
variable {prog : Program} {w : World} {n : Nat} {env : Env} {h₀ h₁ : Heap} {V W : List Addr} {ρ κ : List (Str × D)} {μ : List (Addr × Mo)} {L fa : Addr} {cd : Value} {A : Around} {s : Shared} {Q : Flow → Shared → Prop} {E : Value → Shared → Prop}
theorem Cl.le {n m : Nat} {f : Value} {ds : List D} {d : D} (x : Cl prog w n h₀ f ds d) (h : n ≤ m := by decide) : Cl prog w m h₀ f ds d := by
  induction h with
  | refl => exact x
  | step _ ih => exact ih.lower
theorem src_rng {x : Str} {p pos : Pos} {e : Expr} {nn : Nat} (l : Ld prog w env h₀ x (.type "range")) (ex : Ex prog w n env e h₀ V (.int nn)) (hs : Builtin.Range.small 0 nn 1 = true) (hz : Builtin.Range.rangeSize 0 nn 1 = (nn : Int))
    (hd : (x == ("__debug__" : Str)) = false := by decide) (hse : starEach [e] env = [(false, eval e env)] := by rfl) : Src prog w n env (.Call (.Name x p) [e] [] pos) h₀ V ((List.range nn).map fun (i : Nat) => D.int i) := by
  have e : ((List.range nn).map fun (i : Nat) => D.int i) = (List.range nn).map fun (i : Nat) => D.int (0 + i * 1) := by simp
  rw [e]
  exact src_range l ex hs hz hd hse
def cell0 : Cell := ⟨0, 0, 0, 0, []⟩
theorem w3 (hA : AOk 8 A) (l : Fm prog w (lawEnv L fa cd) s.heap V ρ κ μ)
    (k : ∀ a h' tk, s.heap.get? a = none → Stay (Fp (lawEnv L fa cd) μ) s.heap h' → Fm prog w (lawEnv L fa cd) h' (a :: V) (("cells", .raw (.ref a)) :: ρ) κ ((a, .lst (dL fun _ => cell0)) :: μ) → Q .next { s with heap := h', toks := tk }) :
    wpAny (model prog w) A (exec (lawS 3) (lawEnv L fa cd)) Q E s := by
  refine fm_comp tt (fun _ => dT cell0) hA l (src_rng (nn := 6) (ld_range l.tk rfl rfl rfl rfl) ex_int rfl rfl) ⟨fun V' C h1 d g y hd f => Txs.nil, fun V' C h1 d g y hd _ f => ?_⟩ (by decide) (fun a h' tk ha st f => k a h' tk ha st ?_)
  · have T1 := l.tk.ext y
    exact ex_tuple (ExL.cons ex_int (ExL.cons ex_int (ExL.cons ex_int (ExL.cons ex_int (ExL.cons (ex_dict0 T1) ExL.nil)))))
  · rw [tt_filter] at f
    simpa [List.map_map, Function.comp_def, dL] using f
theorem w4 (hA : AOk 8 A) (l : Fm prog w (lawEnv L fa cd) s.heap V ρ κ μ)
    (k : ∀ a h' tk, s.heap.get? a = none → Stay (Fp (lawEnv L fa cd) μ) s.heap h' → Fm prog w (lawEnv L fa cd) h' (a :: V) (("where", .raw (.ref a)) :: ρ) κ ((a, .dI []) :: μ) → Q .next { s with heap := h', toks := tk }) :
    wpAny (model prog w) A (exec (lawS 4) (lawEnv L fa cd)) Q E s :=
  fm_new hA l (nw_dict l.tk) k
end
end Mine
end
noncomputable section -- D2
open PySem PySem.W PyProof.Rows
set_option maxRecDepth 100000
set_option linter.unusedVariables false
namespace Mine
section
variable (li wo : Nat → Int)
def below (n : Nat) : Nat → Bool := fun k => decide (k < n)
def two (f : Nat → Cell) (g : Cell → Cell) (c1 c2 : Nat) : Nat → Nat → Cell
  | 0 => f
  | 1 => upd f c1 (g (f c1))
  | _ => upd (upd f c1 (g (f c1))) c2 (g (upd f c1 (g (f c1)) c2))
theorem two_is {f : Nat → Cell} {g : Cell → Cell} {c1 c2 : Nat} (h : c1 ≠ c2) (c : Nat) : two f g c1 c2 2 c = if c1 = c ∨ c2 = c then g (f c) else f c := by
  simp only [two, upd]
  by_cases h1 : c = c1
  · subst h1
    simp [h]
  · by_cases h2 : c = c2
    · subst h2
      simp [h1]
    · simp [h1, h2, Ne.symm h1, Ne.symm h2]
theorem e12 (k : Nat) : e1 li k ≠ e2 li k := by
  have h1 := (e1_spec li k).1
  have h2 := (e2_spec li k).1
  omega
/-- S and one more -/
def plus (S : Nat → Bool) (k : Nat) : Nat → Bool := fun j => S j || j == k
def minus (S : Nat → Bool) (k : Nat) : Nat → Bool := fun j => S j && j != k
theorem five {P : Nat → Prop} (h0 : P 0) (h1 : P 1) (h2 : P 2) (h3 : P 3) (h4 : P 4) : ∀ k, k < 5 → P k := by
  intro k hk
  match k, hk with
  | 0, _ => exact h0
  | 1, _ => exact h1
  | 2, _ => exact h2
  | 3, _ => exact h3
  | 4, _ => exact h4
theorem sum_plus (S : Nat → Bool) (c : Nat) (g : Nat → Int) (k : Nat) (hk : k < 5) (hS : S k = false) : sumC li (plus S k) c g = (if inC li k c then g k else 0) + sumC li S c g := by
  revert hS
  revert k
  refine five ?_ ?_ ?_ ?_ ?_ <;> intro hS <;> simp only [sumC, plus, hS] <;> simp <;> omega
theorem sum_minus (S : Nat → Bool) (c : Nat) (g : Nat → Int) (k : Nat) (hk : k < 5) (hS : S k = true) : sumC li S c g = (if inC li k c then g k else 0) + sumC li (minus S k) c g := by
  revert hS
  revert k
  refine five ?_ ?_ ?_ ?_ ?_ <;> intro hS <;> simp only [sumC, minus, hS] <;> simp <;> omega
theorem count_plus (S : Nat → Bool) (c : Nat) (t : Str) (k : Nat) (hk : k < 5) (hS : S k = false) : countC li (plus S k) c t = (if inC li k c = true ∧ tx li k = t then 1 else 0) + countC li S c t := by
  unfold countC
  by_cases ht : tx li k = t
  · have e : (fun j => plus S k j && tx li j == t) = plus (fun j => S j && tx li j == t) k := by
      funext j
      by_cases hj : j = k
      · subst hj; simp [plus, ht]
      · have hj' : (j == k) = false := by simpa using hj
        simp [plus, hj']
    rw [e, sum_plus li _ c _ k hk (by simp [hS])]
    simp [ht]
  · have e : (fun j => plus S k j && tx li j == t) = fun j => S j && tx li j == t := by
      funext j
      by_cases hj : j = k
      · subst hj; simp [plus, ht]
      · have hj' : (j == k) = false := by simpa using hj
        simp [plus, hj']
    rw [e]
    simp [ht]
theorem count_minus (S : Nat → Bool) (c : Nat) (t : Str) (k : Nat) (hk : k < 5) (hS : S k = true) : countC li S c t = (if inC li k c = true ∧ tx li k = t then 1 else 0) + countC li (minus S k) c t := by
  unfold countC
  by_cases ht : tx li k = t
  · have e : (fun j => minus S k j && tx li j == t) = minus (fun j => S j && tx li j == t) k := by
      funext j
      by_cases hj : j = k
      · subst hj; simp [minus, ht]
      · have hj' : (j != k) = true := by simpa using hj
        simp [minus, hj']
    rw [e, sum_minus li _ c _ k hk (by simp [hS, ht])]
    simp [ht]
  · have e : (fun j => minus S k j && tx li j == t) = fun j => S j && tx li j == t := by
      funext j
      by_cases hj : j = k
      · subst hj; simp [minus, ht]
      · have hj' : (j != k) = true := by simpa using hj
        simp [minus, hj']
    rw [e]
    simp [ht]
theorem keysIn_mem (c : Nat) : ∀ (n j : Nat), j < n → inC li j c = true → tx li j ∈ keysIn li c n
  | 0, j, h, _ => absurd h (Nat.not_lt_zero _)
  | n + 1, j, h, hc => by
    rw [keysIn]
    rcases Nat.lt_succ_iff_lt_or_eq.mp h with h | h
    · have := keysIn_mem c n j h hc
      split
      · exact List.mem_append_left _ this
      · exact this
    · subst h
      by_cases hm : tx li j ∈ keysIn li c j
      · simp [hc, hm]
      · simp [hc, hm]
theorem kv_any (n : Nat) (S : Nat → Bool) (c : Nat) (t : Str) : ((kvOf li n S c).any fun p => p.1 = t) = decide (t ∈ keysIn li c n) := by
  rw [Bool.eq_iff_iff, List.any_eq_true]
  simp only [kvOf, decide_eq_true_eq]
  constructor
  · rintro ⟨x, hx, e⟩
    obtain ⟨a, ha, rfl⟩ := List.mem_map.mp hx
    exact e ▸ ha
  · intro ht
    exact ⟨_, List.mem_map.mpr ⟨t, ht, rfl⟩, rfl⟩
theorem count_zero (S : Nat → Bool) (c : Nat) (t : Str) (n : Nat) (hS : ∀ k, S k = true → k < n) (ht : t ∉ keysIn li c n) : countC li S c t = 0 := by
  have key : ∀ j, (S j && tx li j == t && inC li j c) = false := by
    intro j
    by_cases h : (S j && tx li j == t && inC li j c) = true
    · simp only [Bool.and_eq_true, beq_iff_eq] at h
      exact absurd (h.1.2 ▸ keysIn_mem li c n j (hS j h.1.1) h.2) ht
    · simpa using h
  simp [countC, sumC, key]
theorem below_succ (n : Nat) : below (n + 1) = plus (below n) n := by
  funext j
  simp only [below, plus]
  by_cases h : j = n
  · simp [h]
  · have h' : (j == n) = false := by simpa using h
    rw [h', Bool.or_false]
    simp; omega
theorem kv_plus (n : Nat) (hn : n < 5) (c : Nat) (hc : inC li n c = true) : putC (kvOf li n (below n) c) (tx li n) 1 = kvOf li (n + 1) (below (n + 1)) c := by
  have hb : below n n = false := by simp [below]
  unfold putC
  rw [kv_any, below_succ]
  by_cases hm : tx li n ∈ keysIn li c n
  · rw [if_pos (by simpa using hm)]
    have e : keysIn li c (n + 1) = keysIn li c n := by rw [keysIn]; simp [hm]
    simp only [kvOf, e, List.map_map]
    refine List.map_congr_left fun t _ => ?_
    simp only [Function.comp_def]
    rw [count_plus li _ c t n hn hb]
    by_cases ht : t = tx li n
    · simp [ht, hc]; omega
    · have : ¬ tx li n = t := fun e => ht e.symm
      simp [ht, this]
  · rw [if_neg (by simpa using hm)]
    have e : keysIn li c (n + 1) = keysIn li c n ++ [tx li n] := by rw [keysIn]; simp [hm, hc]
    simp only [kvOf, e, List.map_append, List.map_cons, List.map_nil]
    congr 1
    · refine List.map_congr_left fun t ht => ?_
      rw [count_plus li _ c t n hn hb]
      have : ¬ tx li n = t := fun e => hm (e ▸ ht)
      simp [this]
    · rw [count_plus li _ c _ n hn hb, count_zero li _ c _ n (fun k hk => by simpa [below] using hk) hm]
      simp [hc]
theorem kv_same (n : Nat) (hn : n < 5) (c : Nat) (hc : inC li n c = false) : kvOf li n (below n) c = kvOf li (n + 1) (below (n + 1)) c := by
  have hb : below n n = false := by simp [below]
  have e : keysIn li c (n + 1) = keysIn li c n := by rw [keysIn]; simp [hc]
  simp only [kvOf, e]
  refine List.map_congr_left fun t _ => ?_
  rw [below_succ, count_plus li _ c t n hn hb]
  simp [hc]
theorem cell_plus (n : Nat) (hn : n < 5) (c : Nat) : cellOf li wo (n + 1) (below (n + 1)) c = if e1 li n = c ∨ e2 li n = c then addT (cellOf li wo n (below n) c) 1 (li n) (wo n) (2 ^ n) (tx li n) 1 else cellOf li wo n (below n) c := by
  have hb : below n n = false := by simp [below]
  by_cases hc : inC li n c = true
  · rw [if_pos (by simpa [inC] using hc)]
    unfold cellOf addT
    simp only
    rw [kv_plus li n hn c hc, below_succ, sum_plus li _ c _ n hn hb, sum_plus li _ c _ n hn hb, sum_plus li _ c _ n hn hb, sum_plus li _ c _ n hn hb]
    simp [hc]
  · have hc : inC li n c = false := by simpa using hc
    rw [if_neg (by simpa [inC] using hc)]
    unfold cellOf
    rw [← kv_same li n hn c hc, below_succ, sum_plus li _ c _ n hn hb, sum_plus li _ c _ n hn hb, sum_plus li _ c _ n hn hb, sum_plus li _ c _ n hn hb]
    simp [hc]
theorem kv_minus (S : Nat → Bool) (k : Nat) (hk : k < 5) (hS : S k = true) (c : Nat) (hc : inC li k c = true) : putC (kvOf li 5 S c) (tx li k) (-1) = kvOf li 5 (minus S k) c := by
  unfold putC
  rw [kv_any, if_pos (by simpa using keysIn_mem li c 5 k hk hc)]
  simp only [kvOf, List.map_map]
  refine List.map_congr_left fun t _ => ?_
  simp only [Function.comp_def]
  rw [count_minus li S c t k hk hS]
  by_cases ht : t = tx li k
  · simp [ht, hc]; omega
  · have : ¬ tx li k = t := fun e => ht e.symm
    simp [ht, this]
theorem cell_minus (S : Nat → Bool) (k : Nat) (hk : k < 5) (hS : S k = true) (c : Nat) : cellOf li wo 5 (minus S k) c = if e1 li k = c ∨ e2 li k = c then addT (cellOf li wo 5 S c) (-1) (-li k) (-wo k) (-2 ^ k) (tx li k) (-1) else cellOf li wo 5 S c := by
  by_cases hc : inC li k c = true
  · rw [if_pos (by simpa [inC] using hc)]
    unfold cellOf addT
    simp only
    rw [kv_minus li S k hk hS c hc, sum_minus li S c (fun _ => 1) k hk hS, sum_minus li S c li k hk hS, sum_minus li S c wo k hk hS, sum_minus li S c (fun k => 2 ^ k) k hk hS]
    simp only [hc, if_true, Cell.mk.injEq, and_true]
    refine ⟨?_, ?_, ?_, ?_⟩ <;> omega
  · have hc : inC li k c = false := by simpa using hc
    rw [if_neg (by simpa [inC] using hc)]
    unfold cellOf
    rw [sum_minus li S c (fun _ => 1) k hk hS, sum_minus li S c li k hk hS, sum_minus li S c wo k hk hS, sum_minus li S c (fun k => 2 ^ k) k hk hS]
    simp only [hc, Bool.false_eq_true, if_false, Int.zero_add, Cell.mk.injEq, true_and]
    unfold kvOf
    refine List.map_congr_left fun t _ => ?_
    rw [count_minus li S c t k hk hS]
    simp [hc]
end
end Mine
end
noncomputable section -- W3
open PySem PySem.W PyProof.Rows
set_option maxRecDepth 100000
set_option linter.unusedVariables false
namespace Mine
section
variable {prog : Program} {w : World} {n : Nat} {env : Env} {h₀ h₁ : Heap} {V W : List Addr} {ρ κ : List (Str × D)} {μ : List (Addr × Mo)} {L fa : Addr} {cd : Value} {A : Around} {s : Shared} {Q : Flow → Shared → Prop} {E : Value → Shared → Prop}
theorem rng_at {nn i : Nat} {d : D} (h : ((List.range nn).map fun (i : Nat) => D.int i)[i]? = some d) : i < nn ∧ d = .int i := by
  rw [List.getElem?_map] at h
  cases hi : (List.range nn)[i]? with
  | none => rw [hi] at h; cases h
  | some j =>
    rw [hi] at h
    have h1 := (List.getElem?_eq_some_iff.mp hi).1
    have := (List.getElem?_eq_some_iff.mp hi).2
    simp at this h1
    subst this
    exact ⟨h1, by simpa using h.symm⟩
theorem fn_at {f : Nat → Int} {i : Nat} (h : i < 5) : ((((List.range 5).map f).map D.int))[((i : Nat) : Int).toNat]? = some (.int (f i)) := by
  simp [h]
def ints5 (f : Nat → Int) : D := .lst (((List.range 5).map f).map D.int)
theorem list_swap {α : Type} {a b : α} {l : List α} : (a :: b :: l).Perm (b :: a :: l) := List.Perm.swap b a l
def forBody : Stmt → List Stmt
  | .For _ _ b _ _ => b
  | _ => []
theorem w5s {li wo : Nat → Int} {a b : Addr} {f : Nat → Cell} {i c : Nat} {m : Mo} (hi : i < 5) (hc : c < 6) (hkv : (f c).kv.length ≤ 1000) (hA : AOk 8 A) (l : Fm prog w (lawEnv L fa cd) s.heap V ρ κ [(a, .lst (dL f)), (b, m)])
    (h1 : Has ρ "cells" (.raw (.ref a))) (h2 : Has ρ "k" (.int i)) (h3 : Has ρ "text" (.str (tx li i))) (h4 : Has κ "lines" (ints5 li)) (h5 : Has κ "worths" (ints5 wo)) (h6 : Has κ "cell" (.int c))
    (k : ∀ h' tk, Stay (Fp (lawEnv L fa cd) [(a, .lst (dL f)), (b, m)]) s.heap h' →
      Fm prog w (lawEnv L fa cd) h' V ρ κ [(a, .lst (dL (upd f c (addT (f c) 1 (li i) (wo i) (2 ^ i) (tx li i) 1)))), (b, m)] → Q .next { s with heap := h', toks := tk }) :
    wpAny (model prog w) A (exec ((forBody ((forBody (lawS 5)).getD 3 (.Pass ⟨0, 0, 0, 0⟩))).getD 0 (.Pass ⟨0, 0, 0, 0⟩)) (lawEnv L fa cd)) Q E s := by
  have i63 : (i : Int) < 2 ^ 63 := by omega
  have c63 : (c : Int) < 2 ^ 63 := by omega
  have c6 : (c : Int) < (dL f).length := by rw [dL_len]; omega
  have i0 := Int.natCast_nonneg i
  have c0 := Int.natCast_nonneg c
  have T := l.tk
  refine fm_set (a := a) (k := (c : Int)) (d := dT (addT (f c) 1 (li i) (wo i) (2 ^ i) (tx li i) 1)) hA l (ex_def (ld_fn T fun _ r => r.2.1) T.stats (ExL.cons (ex_itemM (a := a) (l.mo (by simp)) (exl l.fr h1) (exc l.fr (c := L + 4) rfl h6) c0 c63 (dL_get f hc)) (ExL.cons (ex_tuple (ExL.cons ex_int (ExL.cons (ex_item (exc l.fr (c := L + 2) rfl h4) (exl l.fr h2) i0 i63 (fn_at hi)) (ExL.cons (ex_item (exc l.fr (c := L + 3) rfl h5) (exl l.fr h2) i0 i63 (fn_at hi)) (ExL.cons (ex_pow ex_int (exl l.fr h2) i0 ?_) (ExL.cons (ex_dict1 T (exl l.fr h3) ex_int) ExL.nil)))))) ExL.nil))
    (cl_stats T (f c) 1 (li i) (wo i) (2 ^ i) (tx li i) 1 hkv).le) (exl l.fr h1) (exc l.fr (c := L + 4) rfl h6) c0 c6 c63 (fun h' tk st f' => k h' tk st ?_)
  · rw [show Builtin.Int.intBits 2 = 2 from by decide]; omega
  · rw [show ((c : Nat) : Int).toNat = c from rfl, dL_set] at f'
    exact f'
set_option maxHeartbeats 2000000 in
theorem w5 {li wo : Nat → Int} {a b : Addr} (hb : ∀ k, 0 ≤ li k ∧ li k < 100) (hA : AOk 8 A) (l : Fm prog w (lawEnv L fa cd) s.heap V ρ κ [(b, .dI []), (a, .lst (dL fun _ => cell0))])
    (h1 : Has ρ "cells" (.raw (.ref a))) (h2 : Has ρ "where" (.raw (.ref b))) (h3 : Has κ "lines" (ints5 li)) (h4 : Has κ "worths" (ints5 wo))
    (k : ∀ h' tk, Stay (Fp (lawEnv L fa cd) [(b, .dI []), (a, .lst (dL fun _ => cell0))]) s.heap h' →
      Fm prog w (lawEnv L fa cd) h' V [("cells", .raw (.ref a)), ("where", .raw (.ref b))] [("lines", ints5 li), ("worths", ints5 wo)] [(b, .dI (wh li 5)), (a, .lst (dL (cellOf li wo 5 (below 5))))] → Q .next { s with heap := h', toks := tk }) :
    wpAny (model prog w) A (exec (lawS 5) (lawEnv L fa cd)) Q E s := by
  refine fm_for (ds := (List.range 5).map fun (i : Nat) => D.int i) hA l (src_rng (nn := 5) (ld_range l.tk rfl rfl rfl rfl) ex_int rfl rfl) Tgt.loc
    (fun _ => [("cells", .raw (.ref a)), ("where", .raw (.ref b))]) (fun _ => [("lines", ints5 li), ("worths", ints5 wo)]) (fun i => [(b, .dI (wh li i)), (a, .lst (dL (cellOf li wo i (below i))))])
    (fun y d h => lookup_two h h1 h2) (fun y d h => lookup_two h h3 h4) ?_ (fun i => rfl) ?_ (fun h' tk st f => k h' tk st f)
  · show [(b, Mo.dI []), (a, Mo.lst (dL (cellOf li wo 0 (below 0))))] = _
    have e : cellOf li wo 0 (below 0) = fun _ => cell0 := by
      funext c
      simp [cellOf, sumC, below, kvOf, keysIn, cell0]
    rw [e]
  · intro V' i d g1 tk E' hd f1
    obtain ⟨hi, rfl⟩ := rng_at hd
    have h63 : (i : Int) < 2 ^ 63 := by omega
    refine wpAny_execs_cons (fm_assign (s := { s with heap := g1, toks := tk }) (d := .str (tx li i)) hA f1 (ex_def (ld_fn f1.tk fun _ r => r.1) f1.tk.std (ExL.cons (ex_tuple (ExL.cons ex_str (ExL.cons (ex_item (exc f1.fr (c := L + 2) rfl rfl) (exl f1.fr rfl) (Int.natCast_nonneg i) h63 (fn_at hi)) (ExL.cons ex_str ExL.nil)))) ExL.nil) (cl_std f1.tk (li i) (hb i).1 (hb i).2).le) fun g2 tk2 st2 f2 => ?_)
    refine wpAny_execs_cons (fm_assign (s := { s with heap := g2, toks := tk2 }) (d := .int (runI (tx li i))) hA f2 (ex_def (ld_fn f2.tk fun _ r => r.2.2.2.2.2) f2.tk.run (ExL.cons (exl f2.fr rfl) ExL.nil) (cl_run f2.tk (tx li i)).le) fun g3 tk3 st3 f3 => ?_)
    refine wpAny_execs_cons (fm_setD (s := { s with heap := g3, toks := tk3 }) (k := li i) (d := whE (li i)) hA f3 (ex_tuple (ExL.cons (exl f3.fr (d := .str (tx li i)) rfl) (ExL.cons (ex_mod (exl f3.fr (d := .int (runI (tx li i))) rfl) ex_int (by decide)) (ExL.cons (ex_add ex_int (ex_mod (ex_fdiv (exl f3.fr (d := .int (runI (tx li i))) rfl) ex_int (by decide) (PyProof.noPylong_of_log2 (by decide +kernel))) ex_int (by decide))) ExL.nil)))) (exl f3.fr rfl)
      (ex_item (exc f3.fr (c := L + 2) rfl rfl) (exl f3.fr rfl) (Int.natCast_nonneg i) h63 (fn_at hi)) (by have := wh_len li i; omega) fun g4 tk4 st4 f4 => ?_)
    have f4' := f4.perm list_swap
    obtain ⟨hc1, he1⟩ := e1_spec li i
    obtain ⟨_, hc2, he2⟩ := e2_spec li i
    have hw : Mo.dI (putD (wh li i) (li i) (whE (li i))) = .dI (wh li (i + 1)) := rfl
    rw [hw] at f4'
    refine wpAny_execs_cons (fm_for (s := { s with heap := g4, toks := tk4 }) (ds := [.int (e1 li i), .int (e2 li i)]) hA f4' (src_tup (ex_cut (ds := [.str (textOf (li i)), .int (e1 li i), .int (e2 li i)]) (a := 1) (b := 3) (k := 2) (lo := some 1) (hi := none)
        (ex_itemD (a := b) (kd := wh li (i + 1)) (f4'.mo (by simp)) (exl f4'.fr rfl) (ex_item (exc f4'.fr (c := L + 2) rfl rfl) (exl f4'.fr rfl) (Int.natCast_nonneg i) h63 (fn_at hi)) (by rw [wh_at li (i + 1) i (by omega), whE, he1, he2])) (Bd.some ex_int) Bd.none rfl rfl rfl rfl))
      (Tgt.cel (c := L + 4) rfl) (fun _ => [("cells", .raw (.ref a)), ("where", .raw (.ref b)), ("k", .int i), ("text", .str (tx li i))]) (fun _ => [("lines", ints5 li), ("worths", ints5 wo)])
      (fun j => [(a, .lst (dL (two (cellOf li wo i (below i)) (fun x => addT x 1 (li i) (wo i) (2 ^ i) (tx li i) 1) (e1 li i) (e2 li i) j))), (b, .dI (wh li (i + 1)))])
      (fun y d h => lookup_cons' h rfl fun h => lookup_cons' h rfl fun h => lookup_two h rfl rfl) (fun y d h => h) rfl (fun j => rfl) ?_ ?_)
    · intro V'' j d g5 tk5 E'' hd f5
      match j, hd with
      | 0, hd =>
        have hd : D.int (e1 li i) = d := by simpa using hd
        subst hd
        refine wpAny_execs_cons (w5s (s := { s with heap := g5, toks := tk5 }) (a := a) (b := b) (c := e1 li i) hi (by omega) ?_ hA f5 rfl rfl rfl rfl rfl rfl (fun g6 tk6 st6 f6 => wpAny_execs_nil ⟨rfl, g6, tk6, V'', rfl, st6, fun b hb => hb, f6.sub (fun y d h => h) (fun y d h => lookup_two h rfl rfl) (List.Sublist.refl _)⟩))
        have := kvOf_len li i (below i) (e1 li i)
        show (kvOf li i (below i) (e1 li i)).length ≤ 1000
        omega
      | 1, hd =>
        have hd : D.int (e2 li i) = d := by simpa using hd
        subst hd
        refine wpAny_execs_cons (w5s (s := { s with heap := g5, toks := tk5 }) (a := a) (b := b) (c := e2 li i) hi hc2 ?_ hA f5 rfl rfl rfl rfl rfl rfl (fun g6 tk6 st6 f6 => wpAny_execs_nil ⟨rfl, g6, tk6, V'', rfl, st6, fun b hb => hb, f6.sub (fun y d h => h) (fun y d h => lookup_two h rfl rfl) (List.Sublist.refl _)⟩))
        have := kvOf_len li i (below i) (e2 li i)
        simp only [two, upd]
        rw [if_neg (e12 li i).symm]
        show (kvOf li i (below i) (e2 li i)).length ≤ 1000
        omega
      | j + 2, hd => simp at hd
    · intro g5 tk5 st5 f5
      refine wpAny_execs_nil ⟨rfl, g5, tk5, V', rfl, ?_, fun b hb => hb, ?_⟩
      · exact st2.trans (st3.trans (st4.trans (Stay.perm list_swap st5)))
      · have e : dL (two (cellOf li wo i (below i)) (fun x => addT x 1 (li i) (wo i) (2 ^ i) (tx li i) 1) (e1 li i) (e2 li i) 2) = dL (cellOf li wo (i + 1) (below (i + 1))) := by
          unfold dL
          refine List.map_congr_left fun c _ => ?_
          rw [two_is (e12 li i), cell_plus li wo i hi c]
        have f6 := f5.perm list_swap
        rw [show ([D.int (e1 li i), D.int (e2 li i)] : List D).length = 2 from rfl, e] at f6
        exact f6.sub (fun y d h => lookup_two h rfl rfl) (fun y d h => h) (List.Sublist.refl _)
end
end Mine
end
noncomputable section -- D3
open PySem PySem.W PyProof.Rows
set_option maxRecDepth 100000
set_option linter.unusedVariables false
namespace Mine
section
variable (li wo : Nat → Int)
def one : Nat → Int := fun _ => 1
def pickK (S : Nat → Bool) (c : Nat) : Nat := if S 0 && inC li 0 c then 0 else if S 1 && inC li 1 c then 1 else if S 2 && inC li 2 c then 2 else if S 3 && inC li 3 c then 3 else 4
theorem pick_spec (S : Nat → Bool) (c : Nat) (h : sumC li S c one = 1) : pickK li S c < 5 ∧ S (pickK li S c) = true ∧ inC li (pickK li S c) c = true ∧ ∀ g, sumC li S c g = g (pickK li S c) := by
  revert h
  unfold sumC pickK one
  cases h0 : (S 0 && inC li 0 c) <;> cases h1 : (S 1 && inC li 1 c) <;> cases h2 : (S 2 && inC li 2 c) <;> cases h3 : (S 3 && inC li 3 c) <;> cases h4 : (S 4 && inC li 4 c) <;> simp only [Bool.false_eq_true, if_false, if_true] <;> intro h <;> first | omega | skip
  all_goals simp_all
structure Pst where
  S : Nat → Bool
  F : List T3
def trip (k : Nat) : T3 := (li k, wo k, 2 ^ k)
def peel1 (p : Pst) (c : Nat) : Pst := if sumC li p.S c one = 1 then ⟨minus p.S (pickK li p.S c), p.F ++ [trip li wo (pickK li p.S c)]⟩ else p
noncomputable def peelC (p : Pst) : Nat → Pst
  | 0 => p
  | c + 1 => peel1 li wo (peelC p c) c
noncomputable def peelT : Nat → Pst
  | 0 => ⟨below 5, []⟩
  | t + 1 => peelC li wo (peelT t) 6
theorem peelC_len (p : Pst) : ∀ c, (peelC li wo p c).F.length ≤ p.F.length + c
  | 0 => Nat.le_refl _
  | c + 1 => by
    have := peelC_len p c
    rw [peelC, peel1]; split <;> simp <;> omega
theorem peelT_len : ∀ t, (peelT li wo t).F.length ≤ 6 * t
  | 0 => Nat.le_refl _
  | t + 1 => by
    have h1 := peelC_len li wo (peelT li wo t) 6
    have h2 := peelT_len t
    rw [peelT]; omega
end
end Mine
end
noncomputable section -- W4
open PySem PySem.W PyProof.Rows
set_option maxRecDepth 100000
set_option linter.unusedVariables false
namespace Mine
section
variable {prog : Program} {w : World} {n : Nat} {env : Env} {h₀ h₁ : Heap} {V W : List Addr} {ρ κ : List (Str × D)} {μ : List (Addr × Mo)} {L fa : Addr} {cd : Value} {A : Around} {s : Shared} {Q : Flow → Shared → Prop} {E : Value → Shared → Prop}
theorem w6 (hA : AOk 8 A) (l : Fm prog w (lawEnv L fa cd) s.heap V ρ κ μ)
    (k : ∀ a h' tk, s.heap.get? a = none → Stay (Fp (lawEnv L fa cd) μ) s.heap h' → Fm prog w (lawEnv L fa cd) h' (a :: V) (("found", .raw (.ref a)) :: ρ) κ ((a, .pls []) :: μ) → Q .next { s with heap := h', toks := tk }) :
    wpAny (model prog w) A (exec (lawS 6) (lawEnv L fa cd)) Q E s :=
  fm_new hA l (nw_list ExL.nil) k
def dF (p : Pst) : List D := p.F.map dT3
def ifBody : Stmt → List Stmt
  | .If _ b _ _ => b
  | _ => []
def noS : Stmt := .Pass ⟨0, 0, 0, 0⟩
/-- the body of the peeling's if -/
def peelB : List Stmt := ifBody ((forBody ((forBody (lawS 7)).getD 0 noS)).getD 0 noS)
/-- the tables as the peeling leaves them -/
def mo3 (li wo : Nat → Int) (ca wa fo : Addr) (p : Pst) : List (Addr × Mo) := [(ca, .lst (dL (cellOf li wo 5 p.S))), (wa, .dI (wh li 5)), (fo, .pls (dF p))]
def ρ3 (ca wa fo : Addr) : List (Str × D) := [("cells", .raw (.ref ca)), ("where", .raw (.ref wa)), ("found", .raw (.ref fo))]
def κ3 (li wo : Nat → Int) : List (Str × D) := [("lines", ints5 li), ("worths", ints5 wo)]
theorem rot3 {α : Type} {a b c : α} : [a, b, c].Perm [c, a, b] := by
  have h1 : [a, b, c].Perm [a, c, b] := List.Perm.cons _ (List.Perm.swap ..)
  exact h1.trans (List.Perm.swap ..)
theorem rot3' {α : Type} {a b c : α} : [c, a, b].Perm [a, b, c] := rot3.symm
theorem back_s {li wo : Nat → Int} {ca : Addr} {μ : List (Addr × Mo)} {f : Nat → Cell} {c k : Nat} {x : Str} {st : Stmt} (hc : c < 6) (hkv : (f c).kv.length ≤ 1000) (hA : AOk 8 A) (l : Fm prog w (lawEnv L fa cd) s.heap V ρ κ ((ca, .lst (dL f)) :: μ))
    (h1 : Has ρ "cells" (.raw (.ref ca))) (h2 : Has ρ x (.int c)) (h3 : Has ρ "back" (.tup [.int (-1), .int (-li k), .int (-wo k), .int (-2 ^ k), dC [(tx li k, -1)]]))
    (hst : (st = peelB.getD 4 noS ∧ x = "first") ∨ (st = peelB.getD 5 noS ∧ x = "second"))
    (kk : ∀ h' tk, Stay (Fp (lawEnv L fa cd) ((ca, .lst (dL f)) :: μ)) s.heap h' →
      Fm prog w (lawEnv L fa cd) h' V ρ κ ((ca, .lst (dL (upd f c (addT (f c) (-1) (-li k) (-wo k) (-2 ^ k) (tx li k) (-1))))) :: μ) → Q .next { s with heap := h', toks := tk }) :
    wpAny (model prog w) A (exec st (lawEnv L fa cd)) Q E s := by
  have c63 : (c : Int) < 2 ^ 63 := by omega
  have c6 : (c : Int) < (dL f).length := by rw [dL_len]; omega
  have c0 := Int.natCast_nonneg c
  have T := l.tk
  have fin : ∀ h' tk, Stay (Fp (lawEnv L fa cd) ((ca, .lst (dL f)) :: μ)) s.heap h' → Fm prog w (lawEnv L fa cd) h' V ρ κ ((ca, .lst ((dL f).set (c : Int).toNat (dT (addT (f c) (-1) (-li k) (-wo k) (-2 ^ k) (tx li k) (-1))))) :: μ) → Q .next { s with heap := h', toks := tk } := by
    intro h' tk st f'
    refine kk h' tk st ?_
    rw [show ((c : Nat) : Int).toNat = c from rfl, dL_set] at f'
    exact f'
  rcases hst with ⟨rfl, rfl⟩ | ⟨rfl, rfl⟩
  · exact fm_set (a := ca) (k := (c : Int)) (d := dT (addT (f c) (-1) (-li k) (-wo k) (-2 ^ k) (tx li k) (-1))) hA l (ex_def (ld_fn T fun _ r => r.2.1) T.stats (ExL.cons (ex_itemM (a := ca) (l.mo (by simp)) (exl l.fr h1) (exl l.fr h2) c0 c63 (dL_get f hc)) (ExL.cons (exl l.fr h3) ExL.nil)) (cl_stats T (f c) _ _ _ _ _ _ hkv).le) (exl l.fr h1) (exl l.fr h2) c0 c6 c63 fin
  · exact fm_set (a := ca) (k := (c : Int)) (d := dT (addT (f c) (-1) (-li k) (-wo k) (-2 ^ k) (tx li k) (-1))) hA l (ex_def (ld_fn T fun _ r => r.2.1) T.stats (ExL.cons (ex_itemM (a := ca) (l.mo (by simp)) (exl l.fr h1) (exl l.fr h2) c0 c63 (dL_get f hc)) (ExL.cons (exl l.fr h3) ExL.nil)) (cl_stats T (f c) _ _ _ _ _ _ hkv).le) (exl l.fr h1) (exl l.fr h2) c0 c6 c63 fin
set_option maxHeartbeats 2000000 in
theorem peel_body {li wo : Nat → Int} {ca wa fo : Addr} {p : Pst} {c : Nat} (hc : c < 6) (h1 : sumC li p.S c one = 1) (hF : p.F.length ≤ 100) (hA : AOk 8 A) (l : Fm prog w (lawEnv L fa cd) s.heap V (ρ3 ca wa fo) (("cell", .int c) :: κ3 li wo) (mo3 li wo ca wa fo p))
    (kk : ∀ h' tk, Stay (Fp (lawEnv L fa cd) (mo3 li wo ca wa fo p)) s.heap h' → Fm prog w (lawEnv L fa cd) h' V (ρ3 ca wa fo) (κ3 li wo) (mo3 li wo ca wa fo (peel1 li wo p c)) → Q .next { s with heap := h', toks := tk }) :
    wpAny (model prog w) A (execs peelB (lawEnv L fa cd)) Q E s := by
  obtain ⟨hk5, hSk, hck, hg⟩ := pick_spec li p.S c h1
  have hpl : peel1 li wo p c = ⟨minus p.S (pickK li p.S c), p.F ++ [trip li wo (pickK li p.S c)]⟩ := by rw [peel1, if_pos h1]
  rw [hpl] at kk
  generalize pickK li p.S c = k at *
  have ce : cellOf li wo 5 p.S c = ⟨1, li k, wo k, 2 ^ k, kvOf li 5 p.S c⟩ := by
    unfold cellOf; rw [hg, hg, hg, hg]
  obtain ⟨hc1, he1⟩ := e1_spec li k
  obtain ⟨_, hc2, he2⟩ := e2_spec li k
  have c63 : (c : Int) < 2 ^ 63 := by omega
  have c0 := Int.natCast_nonneg c
  have hat : atD (wh li 5) (li k) = some (.tup [.str (tx li k), .int (e1 li k), .int (e2 li k)]) := by rw [wh_at li 5 k hk5, whE, he1, he2]; rfl
  refine wpAny_execs_cons (fm_assign (d := dT ⟨1, li k, wo k, 2 ^ k, kvOf li 5 p.S c⟩) hA l (ex_itemM (a := ca) (l.mo (m := .lst (dL (cellOf li wo 5 p.S))) (by simp [mo3])) (exl l.fr rfl) (exc l.fr (c := L + 4) rfl rfl) c0 c63 (ce ▸ dL_get (cellOf li wo 5 p.S) hc)) fun g2 tk2 st2 f2 => ?_)
  refine wpAny_execs_cons (st_if (s := { s with heap := g2, toks := tk2 }) (b := false) hA (tx_notInD (a := wa) (kd := wh li 5) (k := li k) (d := .tup [.str (tx li k), .int (e1 li k), .int (e2 li k)]) (f2.mo (by simp [mo3])) (ex_place ((exl f2.fr (d := dT ⟨1, li k, wo k, 2 ^ k, kvOf li 5 p.S c⟩) rfl).bare f2.live) ex_int (by decide) (by decide) rfl) ((exl f2.fr rfl).bare f2.live) hat) (fun e => nomatch e) fun _ g3 tk3 x3 => ?_)
  refine wpAny_execs_nil ?_
  have f3 := f2.ext x3
  refine wpAny_execs_cons (fm_unpack (s := { s with heap := g3, toks := tk3 }) (ds := [.str (tx li k), .int (e1 li k), .int (e2 li k)]) [("text", ⟨72, 16, 72, 20⟩), ("first", ⟨72, 22, 72, 27⟩), ("second", ⟨72, 29, 72, 35⟩)] hA f3
    (ex_itemD (a := wa) (kd := wh li 5) (k := li k) (f3.mo (by simp [mo3])) (exl f3.fr rfl) (ex_place (exl f3.fr (d := dT ⟨1, li k, wo k, 2 ^ k, kvOf li 5 p.S c⟩) rfl) ex_int (by decide) (by decide) rfl) hat)
    rfl (by show ∀ x ∈ (_ : List (Str × Pos)), (dScope (gdef 9)).names.lookup x.1 = _; decide) rfl fun g4 tk4 st4 f4 => ?_)
  refine wpAny_execs_cons (fm_assign (s := { s with heap := g4, toks := tk4 }) (d := .tup [.int (-1), .int (-li k), .int (-wo k), .int (-2 ^ k), dC [(tx li k, -1)]]) hA f4
    (ex_tuple (ExL.cons (ex_neg ex_int) (ExL.cons (ex_neg (ex_place (exl f4.fr (d := dT ⟨1, li k, wo k, 2 ^ k, kvOf li 5 p.S c⟩) rfl) ex_int (by decide) (by decide) rfl)) (ExL.cons (ex_neg (ex_place (exl f4.fr (d := dT ⟨1, li k, wo k, 2 ^ k, kvOf li 5 p.S c⟩) rfl) ex_int (by decide) (by decide) rfl)) (ExL.cons (ex_neg (ex_place (exl f4.fr (d := dT ⟨1, li k, wo k, 2 ^ k, kvOf li 5 p.S c⟩) rfl) ex_int (by decide) (by decide) rfl)) (ExL.cons (ex_dict1 f4.tk (exl f4.fr (d := .str (tx li k)) rfl) (ex_neg ex_int)) ExL.nil)))))) fun g5 tk5 st5 f5 => ?_)
  refine wpAny_execs_cons (back_s (s := { s with heap := g5, toks := tk5 }) (ca := ca) (f := cellOf li wo 5 p.S) (c := e1 li k) (k := k) (x := "first") (by omega) (by have := kvOf_len li 5 p.S (e1 li k); show (kvOf li 5 p.S (e1 li k)).length ≤ 1000; omega) hA f5 rfl rfl rfl (.inl ⟨rfl, rfl⟩) fun g6 tk6 st6 f6 => ?_)
  refine wpAny_execs_cons (back_s (s := { s with heap := g6, toks := tk6 }) (ca := ca) (c := e2 li k) (k := k) (x := "second") hc2 (by
      have := kvOf_len li 5 p.S (e2 li k)
      simp only [upd]
      rw [if_neg (e12 li k).symm]
      show (kvOf li 5 p.S (e2 li k)).length ≤ 1000
      omega) hA f6 rfl rfl rfl (.inr ⟨rfl, rfl⟩) fun g7 tk7 st7 f7 => ?_)
  have e : dL (upd (upd (cellOf li wo 5 p.S) (e1 li k) (addT (cellOf li wo 5 p.S (e1 li k)) (-1) (-li k) (-wo k) (-2 ^ k) (tx li k) (-1))) (e2 li k) (addT (upd (cellOf li wo 5 p.S) (e1 li k) (addT (cellOf li wo 5 p.S (e1 li k)) (-1) (-li k) (-wo k) (-2 ^ k) (tx li k) (-1)) (e2 li k)) (-1) (-li k) (-wo k) (-2 ^ k) (tx li k) (-1))) = dL (cellOf li wo 5 (minus p.S k)) := by
    unfold dL
    refine List.map_congr_left fun c _ => ?_
    have h := two_is (f := cellOf li wo 5 p.S) (g := fun x => addT x (-1) (-li k) (-wo k) (-2 ^ k) (tx li k) (-1)) (e12 li k) c
    simp only [two] at h
    rw [h, cell_minus li wo p.S k hk5 hSk c]
  rw [e] at f7
  have f8 := f7.perm rot3
  refine wpAny_execs_cons (fm_append (s := { s with heap := g7, toks := tk7 }) (a := fo) (ds := dF p) (d := dT3 (trip li wo k)) hA f8 (exl f8.fr rfl) (ex_cut (a := 1) (b := 4) (k := 3) (lo := some 1) (hi := some 4) (exl f8.fr (d := dT ⟨1, li k, wo k, 2 ^ k, kvOf li 5 p.S c⟩) rfl) (Bd.some ex_int) (Bd.some ex_int) rfl rfl rfl rfl) (by simp [dF]; omega) fun g9 tk9 st9 f9 => wpAny_execs_nil ?_)
  refine kk g9 tk9 ?_ ?_
  · exact st2.trans ((x3.stay _).trans (st4.trans (st5.trans (st6.trans (st7.trans (Stay.perm rot3' st9))))))
  · have f10 := f9.perm rot3'
    have e2 : dF p ++ [dT3 (trip li wo k)] = dF ⟨minus p.S k, p.F ++ [trip li wo k]⟩ := by simp [dF]
    rw [e2] at f10
    exact f10.sub (fun y d h => lookup_cons' h rfl fun h => lookup_two h rfl rfl) (fun y d h => lookup_two h rfl rfl) (List.Sublist.refl _)
theorem w7 {li wo : Nat → Int} {ca wa fo : Addr} (hA : AOk 8 A) (l : Fm prog w (lawEnv L fa cd) s.heap V ρ κ (mo3 li wo ca wa fo (peelT li wo 0)))
    (h1 : Has ρ "cells" (.raw (.ref ca))) (h2 : Has ρ "where" (.raw (.ref wa))) (h3 : Has ρ "found" (.raw (.ref fo))) (h4 : Has κ "lines" (ints5 li)) (h5 : Has κ "worths" (ints5 wo))
    (k : ∀ h' tk, Stay (Fp (lawEnv L fa cd) (mo3 li wo ca wa fo (peelT li wo 0))) s.heap h' → Fm prog w (lawEnv L fa cd) h' V (ρ3 ca wa fo) (κ3 li wo) (mo3 li wo ca wa fo (peelT li wo 5)) → Q .next { s with heap := h', toks := tk }) :
    wpAny (model prog w) A (exec (lawS 7) (lawEnv L fa cd)) Q E s := by
  refine fm_for (ds := (List.range 5).map fun (i : Nat) => D.int i) hA l (src_rng (nn := 5) (ld_range l.tk rfl rfl rfl rfl) ex_int rfl rfl) Tgt.loc
    (fun _ => ρ3 ca wa fo) (fun _ => κ3 li wo) (fun t => mo3 li wo ca wa fo (peelT li wo t))
    (fun y d h => lookup_cons' h h1 fun h => lookup_two h h2 h3) (fun y d h => lookup_two h h4 h5) rfl (fun i => rfl) ?_ (fun h' tk st f => k h' tk st f)
  intro V' t d g1 tk E' hd f1
  obtain ⟨ht, rfl⟩ := rng_at hd
  refine wpAny_execs_cons (fm_for (s := { s with heap := g1, toks := tk }) (ds := (List.range 6).map fun (i : Nat) => D.int i) hA f1 (src_rng (nn := 6) (ld_range f1.tk rfl rfl rfl rfl) ex_int rfl rfl) (Tgt.cel (c := L + 4) rfl)
    (fun _ => ρ3 ca wa fo) (fun _ => κ3 li wo) (fun c => mo3 li wo ca wa fo (peelC li wo (peelT li wo t) c)) (fun y d h => lookup_cons' h rfl fun h => lookup_two h rfl rfl) (fun y d h => h) rfl (fun i => rfl) ?_ (fun h' tk st f => wpAny_execs_nil ⟨rfl, h', tk, V', rfl, st, fun b hb => hb, f⟩))
  intro V'' c d g2 tk2 E'' hd f2
  obtain ⟨hc, rfl⟩ := rng_at hd
  have c63 : (c : Int) < 2 ^ 63 := by omega
  have c0 := Int.natCast_nonneg c
  have hF : (peelC li wo (peelT li wo t) c).F.length ≤ 100 := by
    have h1 := peelC_len li wo (peelT li wo t) c
    have h2 := peelT_len li wo t
    omega
  have hst : ∀ {x y : Heap}, Stay (Fp (lawEnv L fa cd) (mo3 li wo ca wa fo (peelC li wo (peelT li wo t) c))) x y → Stay (Fp (lawEnv L fa cd) (mo3 li wo ca wa fo (peelT li wo t))) x y := fun h => h
  have hpe : peelC li wo (peelT li wo t) (c + 1) = peel1 li wo (peelC li wo (peelT li wo t) c) c := rfl
  rw [hpe]
  generalize peelC li wo (peelT li wo t) c = p at *
  refine wpAny_execs_cons (st_if (s := { s with heap := g2, toks := tk2 }) hA (tx_eqI (a := sumC li p.S c one) (b := 1) (ex_place (((ex_itemM (a := ca) (d := dT (cellOf li wo 5 p.S c)) (f2.mo (m := .lst (dL (cellOf li wo 5 p.S))) (by simp [mo3])) (exl f2.fr rfl) (exc f2.fr (c := L + 4) rfl rfl) c0 c63 (dL_get _ hc))).bare f2.live) ex_int (by decide) (by decide) rfl) ex_int) (fun hb g3 tk3 x3 => ?_) fun hb g3 tk3 x3 => ?_)
  · have hs : sumC li p.S c one = 1 := by simpa using hb
    exact peel_body (s := { s with heap := g3, toks := tk3 }) hc hs hF hA (f2.ext x3) fun g4 tk4 st4 f4 => wpAny_execs_nil ⟨rfl, g4, tk4, V'', rfl, hst ((x3.stay _).trans st4), fun b hb => hb, f4⟩
  · have hs : ¬ sumC li p.S c one = 1 := by simpa using hb
    refine wpAny_execs_nil (wpAny_execs_nil ⟨rfl, g3, tk3, V'', rfl, x3.stay _, fun b hb => hb, ?_⟩)
    rw [peel1, if_neg hs]
    exact (f2.ext x3).sub (fun y d h => h) (fun y d h => lookup_two h rfl rfl) (List.Sublist.refl _)
end
end Mine
end
noncomputable section -- D4
open PySem PySem.W PyProof.Rows
set_option maxRecDepth 100000
set_option linter.unusedVariables false
namespace Mine
/-! the two CRCs as plain numbers -/
def xorN (a b : Nat) : Nat := a + b - 2 * (a &&& b)
theorem xor_nat (a b : Nat) : Builtin.bitXor (a : Int) (b : Int) = (xorN a b : Nat) := by
  have h1 : a &&& b ≤ a := Nat.and_le_left
  have h2 : a &&& b ≤ b := Nat.and_le_right
  have e : Builtin.bitAnd (a : Int) (b : Int) = ((a &&& b : Nat) : Int) := by
    unfold Builtin.bitAnd
    simp
  rw [bitXor_and, e]
  unfold xorN
  omega
theorem shr_nat (a k : Nat) : (a : Int).fdiv (2 ^ k) = (a / 2 ^ k : Nat) := by
  rw [Int.fdiv_eq_ediv_of_nonneg _ (Int.le_of_lt (Int.pow_pos (by decide)))]
  push_cast
  rfl
theorem mulpow_nat (m k : Nat) : (m : Int) * 2 ^ k = ((m * 2 ^ k : Nat) : Int) := by
  rw [Int.natCast_mul, Int.natCast_pow]; rfl
def stepN (c : Nat) : Nat := if c % 2 = 1 then xorN (c / 2) 3988292384 else c / 2
theorem step_nat (c : Nat) : crcStep (c : Int) = (stepN c : Nat) := by
  unfold crcStep stepN
  rw [show (1 : Int).toNat = 1 from rfl, bitAnd_m1, shr_nat, Nat.pow_one, show (3988292384 : Int) = ((3988292384 : Nat) : Int) from rfl, xor_nat]
  by_cases h : c % 2 = 1
  · have h' : ((c : Int) % 2 != 0) = true := by
      rw [bne_iff_ne]; omega
    rw [if_pos h, if_pos h']
  · have h' : ((c : Int) % 2 != 0) = false := by
      rw [bne_eq_false_iff_eq]; omega
    rw [if_neg h, if_neg (by rw [h']; exact Bool.false_ne_true)]
noncomputable def eightN : Nat → Nat → Nat
  | 0, c => c
  | k + 1, c => stepN (eightN k c)
theorem eight_nat (c : Nat) : ∀ k, crcN k (c : Int) = (eightN k c : Nat)
  | 0 => rfl
  | k + 1 => by rw [crcN, eight_nat c k, step_nat]; rfl
noncomputable def runN (l : List Nat) : Nat → Nat
  | 0 => 4294967295
  | i + 1 => eightN 8 (xorN (runN l i) (l.getD i 0))
theorem run_nat (l : List Nat) : ∀ i, runAt l i = (runN l i : Nat)
  | 0 => rfl
  | i + 1 => by rw [runAt, run_nat l i, xor_nat, eight_nat]; rfl
noncomputable def signN (a c : Nat) : Nat → Nat
  | 0 => a
  | i + 1 => 2 * signN a c i + c / 2 ^ i % 2
theorem sign_nat (a c : Nat) : ∀ i, whSign (a : Int) c i = (signN a c i : Nat)
  | 0 => rfl
  | i + 1 => by
    rw [whSign, sign_nat a c i, bitAnd_m1, show (0 + (i : Int) * 1).toNat = i by omega, shr_nat, signN]
    push_cast
    rfl
noncomputable def textN (l : List Nat) : Nat → Nat
  | 0 => 0
  | i + 1 => signN (textN l i) (l.getD i 0) 8
theorem text_nat (l : List Nat) : ∀ i, whText l i = (textN l i : Nat)
  | 0 => rfl
  | i + 1 => by rw [whText, text_nat l i, sign_nat]; rfl
noncomputable def redN (a n : Nat) : Nat → Nat
  | 0 => a
  | i + 1 => if redN a n i / 2 ^ (8 * n + 31 - i) % 2 = 1 then xorN (redN a n i) (4374732215 * 2 ^ (8 * n + 31 - i - 32)) else redN a n i
theorem red_nat (a n : Nat) : ∀ i, whRed (a : Int) (8 * (n : Int)) i = (redN a n i : Nat)
  | 0 => rfl
  | i + 1 => by
    rw [whRed, red_nat a n i, bitAnd_m1, show (8 * (n : Int) + 31 + (i : Int) * -1).toNat = 8 * n + 31 - i by omega, show (8 * (n : Int) + 31 + (i : Int) * -1 - 32).toNat = 8 * n + 31 - i - 32 by omega, shr_nat,
      show (4374732215 : Int) = ((4374732215 : Nat) : Int) from rfl, mulpow_nat, xor_nat, redN]
    by_cases h : redN a n i / 2 ^ (8 * n + 31 - i) % 2 = 1
    · have h' : (((redN a n i / 2 ^ (8 * n + 31 - i) : Nat) : Int) % 2 == 1) = true := by
        rw [beq_iff_eq]; omega
      rw [if_pos h, if_pos h']
    · have h' : (((redN a n i / 2 ^ (8 * n + 31 - i) : Nat) : Int) % 2 == 1) = false := by
        rw [beq_eq_false_iff_ne]; omega
      rw [if_neg h, if_neg (by rw [h']; exact Bool.false_ne_true)]
/-- both, of the signs' numbers -/
def crcOf (l : List Nat) : Nat := xorN (runN l l.length) 4294967295
def restOf (l : List Nat) : Nat := redN (xorN (textN l l.length * 4294967296) (4294967295 * 2 ^ (8 * l.length))) l.length (8 * l.length)
theorem run_is (x : Str) : runI x = (crcOf x.cps.toList : Nat) := by
  unfold runI crcOf
  rw [run_nat, show (2 : Int) ^ (32 : Int).toNat - 1 = ((4294967295 : Nat) : Int) from by decide +kernel, xor_nat]
theorem seal_is (x : Str) : sealW x = (restOf x.cps.toList : Nat) := by
  have hl : x.cps.toList.length = x.length := by simp [Str.length]
  unfold sealW restOf
  rw [text_nat, show (2 : Int) ^ (32 : Int).toNat - 1 = ((4294967295 : Nat) : Int) from by decide +kernel, show (2 : Int) ^ (32 : Int).toNat = ((4294967296 : Nat) : Int) from by decide +kernel, show (8 * (x.length : Int)).toNat = 8 * x.length by omega, hl,
    ← Int.natCast_mul, mulpow_nat, xor_nat, red_nat]
/-- the three lowest bits, the two ways -/
def low3 (w c : Nat) : Bool := w / 2147483648 + 2 * (w / 1073741824 % 2) + 4 * (w / 536870912 % 2) + c % 8 == 7
def lowOk (x : Int) : Bool := low3 (restOf (textOf x).cps.toList) (crcOf (textOf x).cps.toList)
theorem low_0 : ∀ i : Fin 10, lowOk ((0 + i.val : Nat) : Int) = true := by decide +kernel
theorem low_1 : ∀ i : Fin 10, lowOk ((10 + i.val : Nat) : Int) = true := by decide +kernel
theorem low_2 : ∀ i : Fin 10, lowOk ((20 + i.val : Nat) : Int) = true := by decide +kernel
theorem low_3 : ∀ i : Fin 10, lowOk ((30 + i.val : Nat) : Int) = true := by decide +kernel
theorem low_4 : ∀ i : Fin 10, lowOk ((40 + i.val : Nat) : Int) = true := by decide +kernel
theorem low_5 : ∀ i : Fin 10, lowOk ((50 + i.val : Nat) : Int) = true := by decide +kernel
theorem low_6 : ∀ i : Fin 10, lowOk ((60 + i.val : Nat) : Int) = true := by decide +kernel
theorem low_7 : ∀ i : Fin 10, lowOk ((70 + i.val : Nat) : Int) = true := by decide +kernel
theorem low_8 : ∀ i : Fin 10, lowOk ((80 + i.val : Nat) : Int) = true := by decide +kernel
theorem low_9 : ∀ i : Fin 10, lowOk ((90 + i.val : Nat) : Int) = true := by decide +kernel
theorem low_all (x : Int) (h0 : 0 ≤ x) (h1 : x < 100) : lowOk x = true := by
  have key : ∀ j : Nat, (∀ i : Fin 10, lowOk ((j + i.val : Nat) : Int) = true) → (j : Int) ≤ x → x < j + 10 → lowOk x = true := fun j h a b => by
    have := h ⟨x.toNat - j, by omega⟩
    have e : ((j + (x.toNat - j) : Nat) : Int) = x := by omega
    rw [e] at this
    exact this
  have hx : x < 10 ∨ (10 ≤ x ∧ x < 20) ∨ (20 ≤ x ∧ x < 30) ∨ (30 ≤ x ∧ x < 40) ∨ (40 ≤ x ∧ x < 50) ∨ (50 ≤ x ∧ x < 60) ∨ (60 ≤ x ∧ x < 70) ∨ (70 ≤ x ∧ x < 80) ∨ (80 ≤ x ∧ x < 90) ∨ 90 ≤ x := by omega
  rcases hx with h | h | h | h | h | h | h | h | h | h
  · exact key 0 low_0 (by omega) (by omega)
  · exact key 10 low_1 (by omega) (by omega)
  · exact key 20 low_2 (by omega) (by omega)
  · exact key 30 low_3 (by omega) (by omega)
  · exact key 40 low_4 (by omega) (by omega)
  · exact key 50 low_5 (by omega) (by omega)
  · exact key 60 low_6 (by omega) (by omega)
  · exact key 70 low_7 (by omega) (by omega)
  · exact key 80 low_8 (by omega) (by omega)
  · exact key 90 low_9 (by omega) (by omega)
theorem fmod_nat (a b : Nat) : (a : Int).fmod (b : Int) = (a % b : Nat) := by
  rw [Int.fmod_eq_emod_of_nonneg _ (Int.natCast_nonneg b)]; rfl
theorem fdiv_nat (a b : Nat) : (a : Int).fdiv (b : Int) = (a / b : Nat) := by
  rw [Int.fdiv_eq_ediv_of_nonneg _ (Int.natCast_nonneg b)]; rfl
theorem seal_run (x : Int) (h0 : 0 ≤ x) (h1 : x < 100) : (sealI (textOf x)).fmod 2 = fiI x ∧ 2 + (sealI (textOf x)).fdiv 2 = seI x := by
  have hl := low_all x h0 h1
  unfold lowOk low3 at hl
  have hs : sealI (textOf x) = ((crcOf (textOf x).cps.toList % 8 : Nat) : Int) := by
    unfold sealI
    rw [seal_is, bitAnd_m1, bitAnd_m1, show (31 : Int).toNat = 31 from rfl, show (30 : Int).toNat = 30 from rfl, show (29 : Int).toNat = 29 from rfl, shr_nat, shr_nat, shr_nat]
    generalize restOf (textOf x).cps.toList = w at *
    generalize crcOf (textOf x).cps.toList = c at *
    have hl : w / 2147483648 + 2 * (w / 1073741824 % 2) + 4 * (w / 536870912 % 2) + c % 8 = 7 := by simpa using hl
    rw [show (2 : Nat) ^ 31 = 2147483648 from rfl, show (2 : Nat) ^ 30 = 1073741824 from rfl, show (2 : Nat) ^ 29 = 536870912 from rfl]
    omega
  unfold fiI seI
  rw [hs, run_is]
  generalize crcOf (textOf x).cps.toList = c
  rw [show (2 : Int) = ((2 : Nat) : Int) from rfl, show (4 : Int) = ((4 : Nat) : Int) from rfl, fmod_nat, fmod_nat, fdiv_nat, fdiv_nat, fmod_nat]
  omega
theorem text_len (x : Int) (h0 : 0 ≤ x) (h1 : x < 100) : (textOf x).length ≤ 10 ∧ (Str.ofString (toString x)).length ≤ 10 :=
  hundred (fun x => (textOf x).length ≤ 10 ∧ (Str.ofString (toString x)).length ≤ 10) (by decide +kernel) x h0 h1
def numOf (t : Str) : Int := if t.cps.size = 0 then 0 else if t.cps.size = 5 then (t.cps.getD 2 0 : Int) - 48 else 10 * ((t.cps.getD 2 0 : Int) - 48) + ((t.cps.getD 3 0 : Int) - 48)
theorem numOf_text (x : Int) (h0 : 0 ≤ x) (h1 : x < 100) : numOf (textOf x) = x :=
  hundred (fun x => numOf (textOf x) = x) (by decide +kernel) x h0 h1
theorem text_inj (x y : Int) (hx0 : 0 ≤ x) (hx1 : x < 100) (hy0 : 0 ≤ y) (hy1 : y < 100) (e : textOf x = textOf y) : x = y := by
  rw [← numOf_text x hx0 hx1, e, numOf_text y hy0 hy1]
end Mine
end
noncomputable section -- W5
open PySem PySem.W PyProof.Rows
set_option maxRecDepth 100000
set_option linter.unusedVariables false
namespace Mine
section
variable {prog : Program} {w : World} {n : Nat} {env : Env} {h₀ h₁ : Heap} {V W : List Addr} {ρ κ : List (Str × D)} {μ : List (Addr × Mo)} {L fa : Addr} {cd : Value} {A : Around} {s : Shared} {Q : Flow → Shared → Prop} {E : Value → Shared → Prop}
def texts5 (li : Nat → Int) : D := .lst ((List.range 5).map fun k => D.str (tx li k))
def ends5 (li : Nat → Int) : D := .lst ((List.range 5).map fun k => D.tup [.int (e1 li k), .int (e2 li k)])
theorem mem5 {f : Nat → Int} {d : D} (h : d ∈ ((List.range 5).map f).map D.int) : ∃ k, k < 5 ∧ d = .int (f k) := by
  obtain ⟨x, hx, rfl⟩ := List.mem_map.mp h
  obtain ⟨k, hk, rfl⟩ := List.mem_map.mp hx
  exact ⟨k, by simpa using hk, rfl⟩
theorem w8 {li : Nat → Int} (hb : ∀ k, 0 ≤ li k ∧ li k < 100) (hA : AOk 8 A) (l : Fm prog w (lawEnv L fa cd) s.heap V ρ κ μ) (h1 : Has κ "lines" (ints5 li))
    (k : ∀ h' tk, Stay (Fp (lawEnv L fa cd) μ) s.heap h' → Fm prog w (lawEnv L fa cd) h' V ρ (("texts", texts5 li) :: κ) μ → Q .next { s with heap := h', toks := tk }) :
    wpAny (model prog w) A (exec (lawS 8) (lawEnv L fa cd)) Q E s := by
  refine fm_assignC (c := L + 5) hA l rfl (ex_comp tt (onI fun x => .str (textOf x)) (src_lst (exc l.fr (c := L + 2) rfl h1)) ⟨fun V' C h1 d g y hd f => Txs.nil, fun V' C h1 d g y hd _ f => ?_⟩ (by simp)) (fun h' tk st f => k h' tk st ?_)
  · obtain ⟨k, hk, rfl⟩ := mem5 hd
    have T1 := l.tk.ext y
    have hl := text_len (li k) (hb k).1 (hb k).2
    refine ex_ifexp (b := li k == 0) (tx_eqI ((ex_loc f rfl).bare f.live) ex_int) (fun e => ?_) fun e => ?_
    · have e0 : li k = 0 := by simpa using e
      show Ex _ _ _ _ _ _ _ (D.str (textOf (li k)))
      rw [e0]
      exact ex_str
    · have e0 : li k ≠ 0 := by simpa using e
      show Ex _ _ _ _ _ _ _ (D.str (textOf (li k)))
      have et : textOf (li k) = Str.ofString "~:" ++ Str.ofString (toString (li k)) ++ Str.ofString "()" := by rw [textOf, if_neg e0]
      rw [et] at hl ⊢
      have a1 : ∀ x y : Str, (x ++ y).length = x.length + y.length := fun x y => by
        show (x.cps ++ y.cps).size = x.cps.size + y.cps.size
        simp
      refine ex_addS (ex_addS ex_str (ex_callT (ld_bi T1 (by decide) (fun _ r => r.2.2.2.2.2.1)) (ExL.cons (ex_loc f rfl) ExL.nil) (cl_str (hb k).1 (hb k).2)) ?_) ex_str ?_
      · have := hl.2
        have h2 : (Str.ofString "~:").length = 2 := by decide
        show (Str.ofString "~:").length + _ ≤ _
        omega
      · have := hl.1
        rw [a1] at this
        show (Str.ofString "~:" ++ Str.ofString (toString (li k))).length + (Str.ofString "()").length ≤ _
        omega
  · rw [tt_filter] at f
    simpa [ints5, texts5, tx, List.map_map, Function.comp_def, onI] using f
theorem w9 {li : Nat → Int} (hb : ∀ k, 0 ≤ li k ∧ li k < 100) (hA : AOk 8 A) (l : Fm prog w (lawEnv L fa cd) s.heap V ρ κ μ) (h1 : Has κ "texts" (texts5 li))
    (k : ∀ h' tk, Stay (Fp (lawEnv L fa cd) μ) s.heap h' → Fm prog w (lawEnv L fa cd) h' V (("seals", ints5 fun k => sealI (tx li k)) :: ρ) κ μ → Q .next { s with heap := h', toks := tk }) :
    wpAny (model prog w) A (exec (lawS 9) (lawEnv L fa cd)) Q E s := by
  refine fm_compF tt (onS fun x => .int (sealI x)) hA l (src_lst (exc l.fr (c := L + 5) rfl h1)) ⟨fun V' C h1 d g y hd f => Txs.nil, fun V' C h1 d g y hd _ f => ?_⟩ (by simp) (fun h' tk st f => k h' tk st ?_)
  · obtain ⟨k, hk, rfl⟩ := List.mem_map.mp hd
    have T1 := l.tk.ext y
    exact ex_def (ld_fn T1 fun _ r => r.2.2.2.2.1) T1.sealD (ExL.cons (ex_loc f rfl) ExL.nil) (cl_seal T1 (tx li k) (text_len (li k) (hb k).1 (hb k).2).1).le
  · rw [tt_filter] at f
    simpa [ints5, List.map_map, Function.comp_def, onS] using f
theorem w10 {li : Nat → Int} (hb : ∀ k, 0 ≤ li k ∧ li k < 100) (hA : AOk 8 A) (l : Fm prog w (lawEnv L fa cd) s.heap V ρ κ μ) (h1 : Has ρ "seals" (ints5 fun k => sealI (tx li k)))
    (k : ∀ h' tk, Stay (Fp (lawEnv L fa cd) μ) s.heap h' → Fm prog w (lawEnv L fa cd) h' V ρ (("ends", ends5 li) :: κ) μ → Q .next { s with heap := h', toks := tk }) :
    wpAny (model prog w) A (exec (lawS 10) (lawEnv L fa cd)) Q E s := by
  refine fm_assignC (c := L + 6) hA l rfl (ex_comp tt (onI fun x => .tup [.int (x.fmod 2), .int (2 + x.fdiv 2)]) (src_lst (exl l.fr h1)) ⟨fun V' C h1 d g y hd f => Txs.nil, fun V' C h1 d g y hd _ f => ?_⟩ (by simp)) (fun h' tk st f => k h' tk st ?_)
  · obtain ⟨k, hk, rfl⟩ := mem5 hd
    exact ex_tuple (ExL.cons (ex_mod (ex_loc f rfl) ex_int (by decide)) (ExL.cons (ex_add ex_int (ex_fdiv (ex_loc f rfl) ex_int (by decide) (PyProof.noPylong_of_log2 (by decide +kernel)))) ExL.nil))
  · rw [tt_filter] at f
    have e : (List.map (onI fun x => .tup [.int (x.fmod 2), .int (2 + x.fdiv 2)]) (((List.range 5).map fun k => sealI (tx li k)).map D.int)) = (List.range 5).map fun k => D.tup [.int (e1 li k), .int (e2 li k)] := by
      simp only [List.map_map]
      refine List.map_congr_left fun k _ => ?_
      obtain ⟨a, b⟩ := seal_run (li k) (hb k).1 (hb k).2
      show D.tup [.int ((sealI (tx li k)).fmod 2), .int (2 + (sealI (tx li k)).fdiv 2)] = _
      rw [show tx li k = textOf (li k) from rfl, a, b, (e1_spec li k).2, (e2_spec li k).2.2]
    rw [e] at f
    exact f
theorem w11 (hA : AOk 8 A) (l : Fm prog w (lawEnv L fa cd) s.heap V ρ κ μ)
    (k : ∀ h' tk, Stay (Fp (lawEnv L fa cd) μ) s.heap h' → Fm prog w (lawEnv L fa cd) h' V ρ (("core", .lst []) :: κ) μ → Q .next { s with heap := h', toks := tk }) :
    wpAny (model prog w) A (exec (lawS 11) (lawEnv L fa cd)) Q E s :=
  fm_assignC (c := L + 7) hA l rfl (ex_list ExL.nil) k
end
end Mine
end
noncomputable section -- D5
open PySem PySem.W PyProof.Rows
set_option maxRecDepth 100000
set_option linter.unusedVariables false
namespace Mine
section
variable (li wo : Nat → Int)
def five5 : List Int := (List.range 5).map fun (k : Nat) => (k : Int)
def bitp (i : Nat) (k : Int) : Bool := Builtin.bitAnd ((i : Int).fdiv (2 ^ k.toNat)) 1 == 1
def chosenI (i : Nat) : List Int := five5.filter (bitp i)
def tstep (f : Nat → Int) (k : Int) : Nat → Int := fun c => f c + if inC li k.toNat c then 1 else 0
def tallyF (ks : List Int) : Nat → Int := ks.foldl (tstep li) fun _ => 0
def tallyL (f : Nat → Int) : List Int := (List.range 6).map f
def stopI (i : Nat) : Bool := !(tallyL (tallyF li (chosenI i))).any (· == 1)
noncomputable def coreI : Nat → List Int
  | 0 => []
  | i + 1 => if stopI li i then coreI i ++ (chosenI i).filter (fun k => !(coreI i).any (· == k)) else coreI i
theorem five5_mem {k : Int} : k ∈ five5 ↔ ∃ n : Nat, n < 5 ∧ k = n := by
  simp only [five5, List.mem_map, List.mem_range]
  constructor
  · rintro ⟨a, h, rfl⟩; exact ⟨a, h, rfl⟩
  · rintro ⟨a, h, rfl⟩; exact ⟨a, h, rfl⟩
theorem chosen_len (i : Nat) : (chosenI i).length ≤ 5 := Nat.le_trans (List.length_filter_le _ _) (by decide)
theorem core_len : ∀ i, (coreI li i).length ≤ 5 * i
  | 0 => Nat.le_refl _
  | i + 1 => by
    have h := core_len i
    have h2 := Nat.le_trans (List.length_filter_le (fun k => !(coreI li i).any (· == k)) (chosenI i)) (chosen_len i)
    rw [coreI]; split
    · rw [List.length_append]; omega
    · omega
theorem tallyL_get (f : Nat → Int) {c : Nat} (h : c < 6) : ((tallyL f).map D.int)[c]? = some (.int (f c)) := by
  simp [tallyL, h]
theorem tallyL_set (f : Nat → Int) (c : Nat) (x : Int) : ((tallyL f).map D.int).set c (.int x) = (tallyL fun i => if i = c then x else f i).map D.int := by
  apply List.ext_getElem
  · simp [tallyL]
  · intro i h1 h2
    simp only [tallyL, List.getElem_set, List.getElem_map, List.getElem_range]
    by_cases h : c = i
    · simp [h]
    · simp [h, Ne.symm h]
theorem tstep_two (f : Nat → Int) (k : Nat) : tallyL (fun i => if i = e2 li k then (if e2 li k = e1 li k then f (e1 li k) + 1 else f (e2 li k)) + 1 else if i = e1 li k then f (e1 li k) + 1 else f i) = tallyL (tstep li f k) := by
  unfold tallyL
  refine List.map_congr_left fun c _ => ?_
  have h12 := e12 li k
  simp only [tstep, inC]
  rw [show ((k : Nat) : Int).toNat = k from rfl, if_neg h12.symm]
  by_cases h2 : c = e2 li k
  · subst h2
    simp
  · by_cases h1 : c = e1 li k
    · subst h1
      simp [h12]
    · have a1 : (e1 li k == c) = false := by simpa using Ne.symm h1
      have a2 : (e2 li k == c) = false := by simpa using Ne.symm h2
      simp [h1, h2, a1, a2]
end
end Mine
end
noncomputable section -- W6
open PySem PySem.W PyProof.Rows
set_option maxRecDepth 100000
set_option linter.unusedVariables false
namespace Mine
section
variable {prog : Program} {w : World} {n : Nat} {env : Env} {h₀ h₁ : Heap} {V W : List Addr} {ρ κ : List (Str × D)} {μ : List (Addr × Mo)} {L fa : Addr} {cd : Value} {A : Around} {s : Shared} {Q : Flow → Shared → Prop} {E : Value → Shared → Prop}
theorem Fm.asLst {h : Heap} {a : Addr} {ds : List D} (l : Fm prog w env h V ρ κ ((a, .pls ds) :: μ)) : Fm prog w env h V ρ κ ((a, .lst ds) :: μ) :=
  ⟨l.fr, l.cl, l.top, fun p hp => by
    rcases List.mem_cons.mp hp with rfl | hp
    · obtain ⟨x, y, z, vs, hl, r⟩ := l.obj (a, .pls ds) (by simp)
      exact ⟨x, y, z, vs, hl.isList, r⟩
    · exact l.obj p (List.mem_cons_of_mem _ hp), l.nd⟩
theorem ends_at {li : Nat → Int} {i : Nat} (h : i < 5) : ((List.range 5).map fun k => D.tup [.int (e1 li k), .int (e2 li k)])[((i : Nat) : Int).toNat]? = some (D.tup [.int (e1 li i), .int (e2 li i)]) := by
  simp [h]
def tallB : List Stmt := forBody ((forBody (lawS 12)).getD 2 noS)
theorem tall_body {li : Nat → Int} {a : Addr} {f : Nat → Int} {k : Nat} (hk : k < 5) (hA : AOk 8 A) (l : Fm prog w (lawEnv L fa cd) s.heap V ρ κ ((a, .lst ((tallyL f).map D.int)) :: μ))
    (h1 : Has ρ "tally" (.raw (.ref a))) (h2 : Has ρ "k" (.int k)) (h3 : Has κ "ends" (ends5 li))
    (kk : ∀ h' tk, Stay (Fp (lawEnv L fa cd) ((a, .lst ((tallyL f).map D.int)) :: μ)) s.heap h' → Fm prog w (lawEnv L fa cd) h' V ρ κ ((a, .lst ((tallyL (tstep li f k)).map D.int)) :: μ) → Q .next { s with heap := h', toks := tk }) :
    wpAny (model prog w) A (execs tallB (lawEnv L fa cd)) Q E s := by
  have k63 : (k : Int) < 2 ^ 63 := by omega
  have k0 := Int.natCast_nonneg k
  have hc1 := (e1_spec li k).1
  have hc2 := (e2_spec li k).2.1
  have a63 : ((e1 li k : Nat) : Int) < 2 ^ 63 := by omega
  have b63 : ((e2 li k : Nat) : Int) < 2 ^ 63 := by omega
  refine wpAny_execs_cons (fm_augI (k := (e1 li k : Nat)) (u := f (e1 li k)) (v := 1) hA l ex_int (exl l.fr h1) (ex_place (ex_item (exc l.fr (c := L + 6) rfl h3) (exl l.fr h2) k0 k63 (ends_at hk)) ex_int (by decide) (by decide) rfl) (Int.natCast_nonneg _) (tallyL_get f (by omega)) a63 fun g1 tk1 st1 f1 => ?_)
  rw [show ((e1 li k : Nat) : Int).toNat = e1 li k from rfl, tallyL_set] at f1
  refine wpAny_execs_cons (fm_augI (s := { s with heap := g1, toks := tk1 }) (k := (e2 li k : Nat)) (u := if e2 li k = e1 li k then f (e1 li k) + 1 else f (e2 li k)) (v := 1) hA f1 ex_int (exl f1.fr h1) (ex_place (ex_item (exc f1.fr (c := L + 6) rfl h3) (exl f1.fr h2) k0 k63 (ends_at hk)) ex_int (by decide) (by decide) rfl) (Int.natCast_nonneg _) (tallyL_get _ hc2) b63 fun g2 tk2 st2 f2 => wpAny_execs_nil (kk g2 tk2 (st1.trans st2) ?_))
  rw [show ((e2 li k : Nat) : Int).toNat = e2 li k from rfl, tallyL_set, tstep_two] at f2
  exact f2
def κ5 (li wo : Nat → Int) : List (Str × D) := [("lines", ints5 li), ("worths", ints5 wo), ("texts", texts5 li), ("ends", ends5 li)]
def coreD (li : Nat → Int) (i : Nat) : D := .lst ((coreI li i).map D.int)
theorem lookup_four {x y x2 x3 x4 : Str} {d d2 d3 d4 e : D} {ρ : List (Str × D)} (h : ([(x, d), (x2, d2), (x3, d3), (x4, d4)] : List (Str × D)).lookup y = some e) (h1 : ρ.lookup x = some d) (h2 : ρ.lookup x2 = some d2) (h3 : ρ.lookup x3 = some d3) (h4 : ρ.lookup x4 = some d4) : ρ.lookup y = some e :=
  lookup_cons' h h1 fun h => lookup_cons' h h2 fun h => lookup_two h h3 h4
theorem chosen_at {i j : Nat} {d : D} (h : ((chosenI i).map D.int)[j]? = some d) : ∃ k : Nat, k < 5 ∧ d = .int k ∧ (chosenI i)[j]? = some (k : Int) := by
  rw [List.getElem?_map] at h
  cases hi : (chosenI i)[j]? with
  | none => rw [hi] at h; cases h
  | some x =>
    rw [hi] at h
    have hm : x ∈ chosenI i := List.mem_of_getElem? hi
    obtain ⟨k, hk, rfl⟩ := five5_mem.mp (List.mem_filter.mp hm).1
    exact ⟨k, hk, by simpa using h.symm, rfl⟩
theorem tally_succ {li : Nat → Int} {ks : List Int} {j : Nat} {x : Int} (h : ks[j]? = some x) : tallyF li (ks.take (j + 1)) = tstep li (tallyF li (ks.take j)) x := by
  rw [take_succ_snoc h, tallyF, List.foldl_append]
  rfl
set_option maxHeartbeats 2000000 in
theorem w12 {li wo : Nat → Int} {ca wa fo : Addr} (hA : AOk 8 A) (l : Fm prog w (lawEnv L fa cd) s.heap V ρ κ μ)
    (h1 : Has ρ "cells" (.raw (.ref ca))) (h2 : Has ρ "where" (.raw (.ref wa))) (h3 : Has ρ "found" (.raw (.ref fo))) (h4 : Has κ "lines" (ints5 li)) (h5 : Has κ "worths" (ints5 wo)) (h6 : Has κ "texts" (texts5 li)) (h7 : Has κ "ends" (ends5 li)) (h8 : Has κ "core" (.lst []))
    (k : ∀ h' tk, Stay (Fp (lawEnv L fa cd) μ) s.heap h' → Fm prog w (lawEnv L fa cd) h' V (ρ3 ca wa fo) (("core", coreD li 32) :: κ5 li wo) μ → Q .next { s with heap := h', toks := tk }) :
    wpAny (model prog w) A (exec (lawS 12) (lawEnv L fa cd)) Q E s := by
  refine fm_for (ds := (List.range 32).map fun (i : Nat) => D.int i) hA l (src_rng (nn := 32) (ld_range l.tk rfl rfl rfl rfl) ex_int rfl rfl) (Tgt.cel (c := L + 8) rfl)
    (fun _ => ρ3 ca wa fo) (fun i => ("core", coreD li i) :: κ5 li wo) (fun _ => μ)
    (fun y d h => lookup_cons' h h1 fun h => lookup_two h h2 h3) (fun y d h => lookup_cons' h h8 fun h => lookup_four h h4 h5 h6 h7) rfl (fun i => rfl) ?_ (fun h' tk st f => k h' tk st f)
  intro V' i d g1 tk E' hd f1
  obtain ⟨hi, rfl⟩ := rng_at hd
  have i0 := Int.natCast_nonneg i
  -- chosen
  refine wpAny_execs_cons (fm_compF (s := { s with heap := g1, toks := tk }) (onIb (bitp i)) (onI D.int) hA f1 (src_rng (nn := 5) (ld_range f1.tk rfl rfl rfl rfl) ex_int rfl rfl) ⟨fun V' C h1 d g y hd f => ?_, fun V' C h1 d g y hd _ f => ?_⟩ (by decide) (fun g2 tk2 st2 f2 => ?_))
  · obtain ⟨j, _, rfl⟩ := List.mem_map.mp hd
    exact Txs.one (tx_eqI (ex_and (ex_rshift ((exf f1.fr (x := "choice") (c := L + 8) rfl rfl g y).bare f.live) ((ex_loc f rfl).bare f.live) (Int.natCast_nonneg j)) ex_int) ex_int)
  · obtain ⟨j, _, rfl⟩ := List.mem_map.mp hd
    exact ex_loc f rfl
  have e : (((List.range 5).map fun (i : Nat) => D.int i).filter (onIb (bitp i))).map (onI D.int) = (chosenI i).map D.int := by
    rw [show ((List.range 5).map fun (i : Nat) => D.int i) = five5.map D.int from rfl, onI_map]; rfl
  rw [e] at f2
  -- tally
  refine wpAny_execs_cons (fm_new (s := { s with heap := g2, toks := tk2 }) hA f2 (nw_list (ds := (tallyL fun _ => 0).map D.int) (ExL.cons ex_int (ExL.cons ex_int (ExL.cons ex_int (ExL.cons ex_int (ExL.cons ex_int (ExL.cons ex_int ExL.nil))))))) fun a g3 tk3 ha st3 f3 => ?_)
  have f3' := f3.asLst
  refine wpAny_execs_cons (fm_for (s := { s with heap := g3, toks := tk3 }) (ds := (chosenI i).map D.int) hA f3' (src_lst (exl f3'.fr rfl)) Tgt.loc
    (fun _ => [("tally", .raw (.ref a)), ("chosen", .lst ((chosenI i).map D.int)), ("cells", .raw (.ref ca)), ("where", .raw (.ref wa)), ("found", .raw (.ref fo))]) (fun _ => ("core", coreD li i) :: κ5 li wo)
    (fun j => (a, .lst ((tallyL (tallyF li ((chosenI i).take j))).map D.int)) :: μ)
    (fun y d h => lookup_cons' h rfl fun h => lookup_cons' h rfl fun h => lookup_cons' h rfl fun h => lookup_two h rfl rfl) (fun y d h => lookup_cons' h rfl fun h => lookup_four h rfl rfl rfl rfl) rfl (fun j => rfl) ?_ ?_)
  · intro V'' j d g4 tk4 E'' hd f4
    obtain ⟨k, hk, rfl, hj⟩ := chosen_at hd
    refine tall_body (s := { s with heap := g4, toks := tk4 }) hk hA f4 rfl rfl rfl fun g5 tk5 st5 f5 => ⟨rfl, g5, tk5, V'', rfl, st5, fun b hb => hb, ?_⟩
    rw [tally_succ hj]
    exact f5.sub (fun y d h => lookup_cons' h rfl fun h => lookup_cons' h rfl fun h => lookup_cons' h rfl fun h => lookup_two h rfl rfl) (fun y d h => h) (List.Sublist.refl _)
  intro g4 tk4 st4 f4
  rw [List.length_map, List.take_length] at f4
  have fresh : ∀ {x : Heap} {m : Mo}, Stay (Fp (lawEnv L fa cd) ((a, m) :: μ)) g3 x → Stay (Fp (lawEnv L fa cd) μ) g1 x := fun {x m} h => st2.trans ((Stay.fresh st3 h fun p hp => by
      rcases Fp.has.mp hp with e | e | ⟨q, hq, e⟩
      · exact .inl (Fp.has.mpr (.inl e))
      · exact .inl (Fp.has.mpr (.inr (.inl e)))
      · rcases List.mem_cons.mp hq with rfl | hq
        · exact .inr (e ▸ ha)
        · exact .inl (Fp.has.mpr (.inr (.inr ⟨q, hq, e⟩)))))
  -- if
  refine wpAny_execs_cons (st_if (s := { s with heap := g4, toks := tk4 }) (b := stopI li i) hA (tx_notInM (a := a) (ns := tallyL (tallyF li (chosenI i))) (f4.mo (by simp)) ex_int ((exl f4.fr rfl).bare f4.live)) (fun hb g5 tk5 x5 => ?_) fun hb g5 tk5 x5 => ?_)
  · have f5 := f4.ext x5
    refine wpAny_execs_cons (fm_assignC (s := { s with heap := g5, toks := tk5 }) (c := L + 7) hA f5 rfl (ex_addL (exc f5.fr (c := L + 7) (d := coreD li i) rfl rfl) (ex_comp (onIb fun k => !(coreI li i).any (· == k)) (onI D.int) (src_lst (exl f5.fr (d := .lst ((chosenI i).map D.int)) rfl)) ⟨fun V' C h1 d g y hd f => ?_, fun V' C h1 d g y hd _ f => ?_⟩ ?_) ?_) (fun g6 tk6 st6 f6 => wpAny_execs_nil (wpAny_execs_nil ⟨rfl, g6, tk6, a :: V', rfl, ?_, fun b hb => List.mem_cons_of_mem _ hb, ?_⟩)))
    · obtain ⟨j, _, rfl⟩ := List.mem_map.mp hd
      exact Txs.one (tx_notInL ((ex_loc f rfl).bare f.live) ((exf f5.fr (x := "core") (c := L + 7) rfl rfl g y).bare f.live))
    · obtain ⟨j, _, rfl⟩ := List.mem_map.mp hd
      exact ex_loc f rfl
    · have := chosen_len i
      rw [List.length_map]; omega
    · have h1 := core_len li i
      have h2 := chosen_len i
      rw [onI_map, List.length_map, List.length_map]
      have h3 := Nat.le_trans (List.length_filter_le (fun k => !(coreI li i).any (· == k)) (chosenI i)) h2
      omega
    · exact fresh (st4.trans ((x5.stay _).trans st6))
    · rw [onI_map, ← List.map_append] at f6
      have ec : coreI li (i + 1) = coreI li i ++ (chosenI i).filter (fun k => !(coreI li i).any (· == k)) := by rw [coreI, if_pos hb]
      rw [← ec] at f6
      exact f6.sub (fun y d h => lookup_cons' h rfl fun h => lookup_two h rfl rfl) (fun y d h => lookup_cons' h rfl fun h => lookup_four h rfl rfl rfl rfl) (List.sublist_cons_self _ _)
  · refine wpAny_execs_nil (wpAny_execs_nil ⟨rfl, g5, tk5, a :: V', rfl, ?_, fun b hb => List.mem_cons_of_mem _ hb, ?_⟩)
    · exact (fresh st4).trans (x5.stay _)
    · have ec : coreI li (i + 1) = coreI li i := by rw [coreI, if_neg (by rw [hb]; exact Bool.false_ne_true)]
      show Fm _ _ _ _ _ _ (("core", coreD li (i + 1)) :: κ5 li wo) _
      rw [coreD, ec]
      exact (f4.ext x5).sub (fun y d h => lookup_cons' h rfl fun h => lookup_two h rfl rfl) (fun y d h => lookup_cons' h rfl fun h => lookup_four h rfl rfl rfl rfl) (List.sublist_cons_self _ _)
end
end Mine
end
noncomputable section -- S3
open PySem PySem.W PySem.Calls PyProof.Rows
set_option maxRecDepth 100000
set_option linter.unusedVariables false
namespace Mine
theorem lt3_irrefl (x : T3) : lt3 x x = false := by simp [lt3]
theorem lt3_iff (x y : T3) : lt3 x y = true ↔ x.1 < y.1 ∨ (x.1 = y.1 ∧ (x.2.1 < y.2.1 ∨ (x.2.1 = y.2.1 ∧ x.2.2 < y.2.2))) := by
  unfold lt3
  by_cases h1 : x.1 = y.1
  · by_cases h2 : x.2.1 = y.2.1
    · simp [h1, h2]
    · simp [h1, h2]
  · simp [h1]
theorem lt3_trans {x y z : T3} (h : lt3 x y = true) (h' : lt3 y z = true) : lt3 x z = true := by
  rw [lt3_iff] at *
  omega
theorem lt3_total (x y : T3) : lt3 x y = true ∨ x = y ∨ lt3 y x = true := by
  rw [lt3_iff, lt3_iff]
  obtain ⟨a, b, c⟩ := x
  obtain ⟨a', b', c'⟩ := y
  simp only [Prod.mk.injEq]
  omega
theorem countP_lt {α : Type} {p q : α → Bool} {a : α} : ∀ {l : List α}, (∀ x ∈ l, p x = true → q x = true) → a ∈ l → q a = true → p a = false → l.countP p < l.countP q
  | [], _, h, _, _ => by cases h
  | x :: l, hpq, h, hq, hp => by
    have mono : l.countP p ≤ l.countP q := List.countP_mono_left fun y hy => hpq y (List.mem_cons_of_mem _ hy)
    rcases List.mem_cons.mp h with rfl | h
    · rw [List.countP_cons, List.countP_cons, hq, hp]; simp; omega
    · have := countP_lt (fun y hy => hpq y (List.mem_cons_of_mem _ hy)) h hq hp
      rw [List.countP_cons, List.countP_cons]
      cases hx : p x with
      | true => rw [hpq x List.mem_cons_self hx]; simpa using this
      | false => split <;> simp_all <;> omega
def rnk (xs : List T3) (a : T3) : Nat := xs.countP fun y => lt3 y a
theorem rnk_lt {xs : List T3} {a b : T3} (ha : a ∈ xs) (h : lt3 a b = true) : rnk xs a < rnk xs b :=
  countP_lt (a := a) (fun x _ hx => lt3_trans hx h) ha h (lt3_irrefl a)
theorem rnk_size {xs : List T3} {a : T3} (ha : a ∈ xs) : rnk xs a < xs.length := by
  have := countP_lt (p := fun y => lt3 y a) (q := fun _ => true) (l := xs) (fun _ _ _ => rfl) ha rfl (lt3_irrefl a)
  simpa [rnk] using this
theorem lt3_rnk {xs : List T3} {a b : T3} (ha : a ∈ xs) (hb : b ∈ xs) : lt3 a b = decide (rnk xs a < rnk xs b) := by
  rcases lt3_total a b with h | rfl | h
  · simp [h, rnk_lt ha h]
  · simp [lt3_irrefl]
  · have := rnk_lt hb h
    cases hh : lt3 a b with
    | true => have := rnk_lt ha hh; omega
    | false => simp; omega
theorem rnk_inj {xs : List T3} {a b : T3} (ha : a ∈ xs) (hb : b ∈ xs) (e : rnk xs a = rnk xs b) : a = b := by
  rcases lt3_total a b with h | h | h
  · have := rnk_lt ha h; omega
  · exact h
  · have := rnk_lt hb h; omega
theorem evalT_congr {α : Type} {n : Nat} {lt lt' : Nat → Nat → Bool} (h : ∀ i j, i < n → j < n → lt i j = lt' i j) : ∀ t : KasT α, evalT n lt t = evalT n lt' t
  | .ret _ => rfl
  | .ask i j k => by
    simp only [evalT]
    by_cases hij : i < n ∧ j < n
    · rw [if_pos hij, if_pos hij, h i j hij.1 hij.2]
      exact evalT_congr h _
    · rw [if_neg hij, if_neg hij]
theorem rank_any (rs : List Nat) (h2 : 2 ≤ rs.length) (h5 : rs.length ≤ 5) (hr : ∀ r ∈ rs, r < rs.length) : rankOk rs = true := by
  match rs, h2, h5, hr with
  | [a, b], _, _, hr => exact rank2 ⟨a, hr a (by simp)⟩ ⟨b, hr b (by simp)⟩
  | [a, b, c], _, _, hr => exact rank3 ⟨a, hr a (by simp)⟩ ⟨b, hr b (by simp)⟩ ⟨c, hr c (by simp)⟩
  | [a, b, c, d], _, _, hr => exact rank4 ⟨a, hr a (by simp)⟩ ⟨b, hr b (by simp)⟩ ⟨c, hr c (by simp)⟩ ⟨d, hr d (by simp)⟩
  | [a, b, c, d, e], _, _, hr => exact rank5 ⟨a, hr a (by simp)⟩ ⟨b, hr b (by simp)⟩ ⟨c, hr c (by simp)⟩ ⟨d, hr d (by simp)⟩ ⟨e, hr e (by simp)⟩
  | _ :: _ :: _ :: _ :: _ :: _ :: _, _, h5, _ => simp at h5
def at3 (xs : List T3) (i : Nat) : T3 := xs.getD i (0, 0, 0)
theorem at3_mem {xs : List T3} {i : Nat} (h : i < xs.length) : at3 xs i ∈ xs := by
  simp [at3, h]
/-- the tree's end: a permutation that brings the list in order -/
theorem tree_end {xs : List T3} (hnd : xs.Nodup) (h2 : 2 ≤ xs.length) (h5 : xs.length ≤ 5) : ∃ p : Array Nat, evalT xs.length (fun i j => lt3 (at3 xs i) (at3 xs j)) (kas_sort xs.length) = some p ∧ (∀ i ∈ p.toList, i < xs.length) ∧ (p.toList.map fun i => rnk xs (at3 xs i)) = List.range xs.length := by
  have hl : ((List.range xs.length).map fun i => rnk xs (at3 xs i)).length = xs.length := by simp
  have hget : ∀ i, i < xs.length → ∀ d, ((List.range xs.length).map fun i => rnk xs (at3 xs i)).getD i d = rnk xs (at3 xs i) := fun i hi d => by
    rw [List.getD_eq_getElem?_getD, List.getElem?_map, List.getElem?_range hi]; rfl
  have hr := rank_any ((List.range xs.length).map fun i => rnk xs (at3 xs i)) (by rw [hl]; exact h2) (by rw [hl]; exact h5) (fun r hr => by
    obtain ⟨i, hi, rfl⟩ := List.mem_map.mp hr
    rw [hl]
    exact rnk_size (at3_mem (List.mem_range.mp hi)))
  have hn : ((List.range xs.length).map fun i => rnk xs (at3 xs i)).Nodup := by
    rw [List.nodup_iff_pairwise_ne, List.pairwise_map]
    refine List.Pairwise.imp_of_mem ?_ (List.nodup_range (n := xs.length))
    intro i j hi hj hne e
    have hi := List.mem_range.mp hi
    have hj := List.mem_range.mp hj
    have e' := rnk_inj (at3_mem hi) (at3_mem hj) e
    have e2 : xs[i] = xs[j] := by simpa [at3, hi, hj] using e'
    have hpw := List.pairwise_iff_getElem.mp (List.nodup_iff_pairwise_ne.mp hnd)
    rcases Nat.lt_trichotomy i j with h | h | h
    · exact hpw i j hi hj h e2
    · exact hne h
    · exact hpw j i hj hi h e2.symm
  unfold rankOk at hr
  rw [hl] at hr
  simp only [hn, decide_true, Bool.not_true, Bool.false_or, decide_eq_true_eq] at hr
  rw [evalT_congr (lt' := fun i j => lt3 (at3 xs i) (at3 xs j)) fun i j hi hj => by rw [hget i hi, hget j hj, lt3_rnk (at3_mem hi) (at3_mem hj)]] at hr
  cases he : evalT xs.length (fun i j => lt3 (at3 xs i) (at3 xs j)) (kas_sort xs.length) with
  | none => rw [he] at hr; cases hr
  | some p =>
    rw [he] at hr
    have hr : (p.toList.map fun i => ((List.range xs.length).map fun i => rnk xs (at3 xs i)).getD i xs.length) = List.range xs.length := by simpa using hr
    have hi : ∀ i ∈ p.toList, i < xs.length := fun i hi => by
      have hm := List.mem_map_of_mem (f := fun i => ((List.range xs.length).map fun i => rnk xs (at3 xs i)).getD i xs.length) hi
      rw [hr] at hm
      by_cases h : i < xs.length
      · exact h
      · rw [List.getD_eq_getElem?_getD, List.getElem?_eq_none (by rw [hl]; omega)] at hm
        simp at hm
    refine ⟨p, rfl, hi, ?_⟩
    rw [← hr]
    exact List.map_congr_left fun i hm => (hget i (hi i hm) _).symm
def sort3 (xs : List T3) : List T3 := if xs.length < 2 then xs else match evalT xs.length (fun i j => lt3 (at3 xs i) (at3 xs j)) (kas_sort xs.length) with
  | some p => p.toList.map (at3 xs)
  | none => []
theorem sort3_spec {xs : List T3} (hnd : xs.Nodup) (h2 : 2 ≤ xs.length) (h5 : xs.length ≤ 5) : (∀ a ∈ sort3 xs, a ∈ xs) ∧ (sort3 xs).map (rnk xs) = List.range xs.length := by
  obtain ⟨p, he, hi, hr⟩ := tree_end hnd h2 h5
  have e : sort3 xs = p.toList.map (at3 xs) := by rw [sort3, if_neg (by omega), he]
  rw [e]
  refine ⟨fun a ha => ?_, ?_⟩
  · obtain ⟨i, him, rfl⟩ := List.mem_map.mp ha
    exact at3_mem (hi i him)
  · rw [List.map_map]; exact hr
theorem map_inj_in {α β : Type} {f : α → β} {S : α → Prop} (hf : ∀ a b, S a → S b → f a = f b → a = b) : ∀ {l l' : List α}, (∀ a ∈ l, S a) → (∀ a ∈ l', S a) → l.map f = l'.map f → l = l'
  | [], [], _, _, _ => rfl
  | [], _ :: _, _, _, e => by simp at e
  | _ :: _, [], _, _, e => by simp at e
  | a :: l, b :: l', h, h', e => by
    simp only [List.map_cons, List.cons.injEq] at e
    rw [hf a b (h a List.mem_cons_self) (h' b List.mem_cons_self) e.1, map_inj_in hf (fun x hx => h x (List.mem_cons_of_mem _ hx)) (fun x hx => h' x (List.mem_cons_of_mem _ hx)) e.2]
theorem sort3_perm {xs ys : List T3} (hp : xs.Perm ys) (hnd : xs.Nodup) (h5 : xs.length ≤ 5) : sort3 xs = sort3 ys := by
  by_cases h2 : xs.length < 2
  · have e : xs = ys := by
      match xs, h2 with
      | [], _ => exact hp.nil_eq
      | [a], _ => exact (List.perm_singleton.mp hp.symm).symm
      | _ :: _ :: _, h2 => simp at h2; omega
    rw [e]
  · have hnd' := hp.nodup_iff.mp hnd
    obtain ⟨m1, r1⟩ := sort3_spec hnd (by omega) h5
    obtain ⟨m2, r2⟩ := sort3_spec hnd' (by rw [← hp.length_eq]; omega) (by rw [← hp.length_eq]; exact h5)
    have er : rnk ys = rnk xs := by
      funext a
      exact (hp.countP_eq _).symm
    rw [er, ← hp.length_eq, ← r1] at r2
    exact map_inj_in (S := fun a => a ∈ xs) (f := rnk xs) (fun a b ha hb e => rnk_inj ha hb e) m1 (fun a ha => hp.mem_iff.mpr (m2 a ha)) r2.symm
end Mine
end
noncomputable section -- S4
open PySem PySem.W PySem.Calls PyProof.Rows
set_option maxRecDepth 100000
set_option maxHeartbeats 4000000
set_option linter.unusedVariables false
namespace Mine
section
variable {prog : Program} {w : World} {n : Nat} {A : Around} {E : Value → Shared → Prop} {s : Shared} {h₀ : Heap}
/-- values of triples -/
def Are3 (h : Heap) (vs : List Value) (xs : List T3) : Prop := vs.length = xs.length ∧ ∀ i, i < xs.length → Is3 h (vs.getD i .none) (at3 xs i)
theorem Are3.ext {h h' : Heap} {vs : List Value} {xs : List T3} (r : Are3 h vs xs) (e : Ext h h') : Are3 h' vs xs := ⟨r.1, fun i hi => (r.2 i hi).ext e⟩
theorem are3_of {h : Heap} {W : List Addr} {vs : List Value} {xs : List T3} (r : RpL prog w h W vs (xs.map dT3)) : Are3 h vs xs := by
  refine ⟨by simpa using r.length, fun i hi => ?_⟩
  obtain ⟨v, hv, rv⟩ := r.get (i := i) (d := dT3 (at3 xs i)) (by simp [at3, hi])
  rw [List.getD_eq_getElem?_getD, hv]
  exact is3_of rv
theorem katTups_of {h : Heap} : ∀ {vs : List Value} {xs : List T3}, Are3 h vs xs → ∃ fs : List Value, KatTups h vs fs ∧ fs.length = vs.length ∧ ∀ v ∈ fs, ∃ i t, v = .int i t
  | [], [], _ => ⟨[], trivial, rfl, by simp⟩
  | [], _ :: _, r => by have := r.1; simp at this
  | _ :: _, [], r => by have := r.1; simp at this
  | v :: vs, x :: xs, r => by
    obtain ⟨fs, t, hl, hf⟩ := katTups_of (vs := vs) (xs := xs) ⟨by simpa using r.1, fun i hi => by simpa [at3] using r.2 (i + 1) (by simpa using hi)⟩
    obtain ⟨a, o, n, t1, t2, t3, e, ho, hc, hd⟩ := r.2 0 (by simp)
    have e : v = .ref a := by simpa using e
    subst e
    refine ⟨.int (at3 (x :: xs) 0).1 t1 :: fs, KatTups.cons ho hc hd rfl t, by simp [hl], fun v hv => ?_⟩
    rcases List.mem_cons.mp hv with rfl | hv
    · exact ⟨_, _, rfl⟩
    · exact hf v hv
theorem ext_upd {a : Addr} {h : Heap} {f : Obj → Obj} (hx : Ext h₀ h) (ha : h₀.get? a = none) : Ext h₀ (h.update a f) := fun b o e => by
  have hne : b ≠ a := fun q => by rw [q, ha] at e; cases e
  rw [Heap.get?_update_ne _ _ _ _ hne]
  exact hx b o e
/-- list.sort of a new list of triples -/
theorem sort_new {a : Addr} {k : Nat} {vs : List Value} {xs : List T3} {p : Array Nat} {P : PySem.Fin → Shared → Prop} (hx : Ext h₀ s.heap) (ha : h₀.get? a = none) (ho : s.heap.get? a = some (seqObj "list" vs.toArray k)) (r : Are3 h₀ vs xs) (h2 : 2 ≤ xs.length) (h5 : xs.length ≤ 5)
    (hp : evalT xs.length (fun i j => lt3 (at3 xs i) (at3 xs j)) (kas_sort xs.length) = some p)
    (kk : ∀ h' c, Ext h₀ h' → h'.get? a = some (seqObj "list" (List.toArray (p.toList.map fun i => vs.getD i Value.none)) c) → P (.done (.ret .none)) { s with heap := h' }) :
    wpAny (model prog w) A (Builtin.«list.sort» ⟨[.ref a], []⟩) P E s := by
  have hlen := r.1
  obtain ⟨e1, ho1⟩ : ∃ e1, (s.heap.update a (Obj.mapSeq fun _ => (#[] : Array Value))).get? a = some (seqObj "list" #[] e1) := ⟨_, get?_update_seq ho fun _ => #[]⟩
  have x3 : Ext h₀ (((s.heap.update a (Obj.mapSeq fun _ => (#[] : Array Value))).push (seqObj "tuple" vs.toArray 0)).push (seqObj "list" #[] 0)) := ((ext_upd hx ha).trans (Ext.push _ _)).trans (Ext.push _ _)
  have na : (((s.heap.update a (Obj.mapSeq fun _ => (#[] : Array Value))).push (seqObj "tuple" vs.toArray 0)).push (seqObj "list" #[] 0)).get? a = some (seqObj "list" #[] e1) := Heap.get?_push_of_some _ (Heap.get?_push_of_some _ ho1)
  generalize hH3 : ((s.heap.update a (Obj.mapSeq fun _ => (#[] : Array Value))).push (seqObj "tuple" vs.toArray 0)).push (seqObj "list" #[] 0) = H3 at x3 na
  rw [list_sort_plain]
  refine wpAny_bind (listItems_at ho rfl ?_)
  refine wpAny_bind (listUpdate_at ho rfl ?_ (by rw [List.size_toArray, sizeLine_eq]; omega) (Nat.zero_le _))
  refine wpAny_bind (seqEpoch_at ho1 rfl ?_)
  refine wpAny_bind (wpAny_newTuple ?_ (by show vs.length ≤ _; rw [sizeLine_eq]; omega))
  refine wpAny_bind (wpAny_newList ?_ (Nat.zero_le _))
  refine wpAny_holding ?_
  show wpAny (model prog w) A _ P E { s with heap := ((s.heap.update a (Obj.mapSeq fun _ => (#[] : Array Value))).push (seqObj "tuple" vs.toArray 0)).push (seqObj "list" #[] 0) }
  rw [hH3]
  dsimp only
  have hn2 : ¬ vs.toArray.size < 2 := by rw [List.size_toArray]; omega
  rw [if_neg hn2, if_neg hn2]
  obtain ⟨fs, tu, hfl, hfi⟩ := katTups_of (r.ext x3)
  refine wpAny_bind (kat_kind (T := .type "int") tu (by omega) (fun v hv => ?_) rfl ?_)
  · obtain ⟨i, t, rfl⟩ := hfi v hv
    exact Looks.of_pure rfl
  rw [show (Value.type "int" != Value.type "tuple") = true from by decide]
  refine wpAny_bind (wpAny_mono (kat_run (Q := fun st' s' => ∃ q : Array Nat, q.size = vs.length ∧ arrOf st' = q.map (kas_item (vs.toArray.zip vs.toArray)) ∧ failedOf st' = none ∧ q = p ∧ s' = { s with heap := H3 })
    rfl (by omega) (by omega) (fun p' st' s' a1 a2 a3 a4 => ⟨p', a1, a2, a3, a4⟩) (G := fun q s' => q = p ∧ s' = { s with heap := H3 }) ?_) ?_ fun _ _ e => e)
  · rw [hlen]
    exact eval_wp (vs := vs) (xs := xs) (fun i hi => (r.ext x3).2 i hi) _ p hp ⟨rfl, rfl⟩
  rintro ⟨⟨⟩, st'⟩ s' ⟨q, hq, har, hf, rfl, rfl⟩
  dsimp only
  have hout := kat_snds rfl har
  have hsz : (List.toArray (q.toList.map fun i => vs.getD i Value.none)).size = vs.length := by rw [List.size_toArray, List.length_map, Array.length_toList, hq]
  rw [hout]
  obtain ⟨c2, hc2⟩ : ∃ c2, (H3.update a (Obj.mapSeq fun _ => List.toArray (q.toList.map fun i => vs.getD i Value.none))).get? a = some (seqObj "list" (List.toArray (q.toList.map fun i => vs.getD i Value.none)) c2) := ⟨_, get?_update_seq na fun _ => List.toArray (q.toList.map fun i => vs.getD i Value.none)⟩
  refine wpAny_bind (seqEpoch_at na rfl ?_)
  refine wpAny_bind (listUpdate_at na rfl ?_ (Nat.zero_le _) (Nat.le_trans (Nat.le_of_eq hsz) (by rw [sizeLine_eq]; omega)))
  rw [hf]
  simp only [bne_self_eq_false, Bool.false_eq_true, if_false]
  exact wpAny_pure (kk _ c2 (ext_upd x3 ha) hc2)
theorem sort_short {a : Addr} {k : Nat} {vs : List Value} {P : PySem.Fin → Shared → Prop} (hx : Ext h₀ s.heap) (ha : h₀.get? a = none) (ho : s.heap.get? a = some (seqObj "list" vs.toArray k)) (h2 : vs.length < 2)
    (kk : ∀ h' c, Ext h₀ h' → h'.get? a = some (seqObj "list" vs.toArray c) → P (.done (.ret .none)) { s with heap := h' }) :
    wpAny (model prog w) A (Builtin.«list.sort» ⟨[.ref a], []⟩) P E s := by
  obtain ⟨e1, ho1⟩ : ∃ e1, (s.heap.update a (Obj.mapSeq fun _ => (#[] : Array Value))).get? a = some (seqObj "list" #[] e1) := ⟨_, get?_update_seq ho fun _ => #[]⟩
  have x3 : Ext h₀ (((s.heap.update a (Obj.mapSeq fun _ => (#[] : Array Value))).push (seqObj "tuple" vs.toArray 0)).push (seqObj "list" #[] 0)) := ((ext_upd hx ha).trans (Ext.push _ _)).trans (Ext.push _ _)
  have na : (((s.heap.update a (Obj.mapSeq fun _ => (#[] : Array Value))).push (seqObj "tuple" vs.toArray 0)).push (seqObj "list" #[] 0)).get? a = some (seqObj "list" #[] e1) := Heap.get?_push_of_some _ (Heap.get?_push_of_some _ ho1)
  generalize hH3 : ((s.heap.update a (Obj.mapSeq fun _ => (#[] : Array Value))).push (seqObj "tuple" vs.toArray 0)).push (seqObj "list" #[] 0) = H3 at x3 na
  rw [list_sort_plain]
  refine wpAny_bind (listItems_at ho rfl ?_)
  refine wpAny_bind (listUpdate_at ho rfl ?_ (by rw [List.size_toArray, sizeLine_eq]; omega) (Nat.zero_le _))
  refine wpAny_bind (seqEpoch_at ho1 rfl ?_)
  refine wpAny_bind (wpAny_newTuple ?_ (by show vs.length ≤ _; rw [sizeLine_eq]; omega))
  refine wpAny_bind (wpAny_newList ?_ (Nat.zero_le _))
  refine wpAny_holding ?_
  show wpAny (model prog w) A _ P E { s with heap := ((s.heap.update a (Obj.mapSeq fun _ => (#[] : Array Value))).push (seqObj "tuple" vs.toArray 0)).push (seqObj "list" #[] 0) }
  rw [hH3]
  dsimp only
  have hn2 : vs.toArray.size < 2 := by rw [List.size_toArray]; omega
  rw [if_pos hn2, if_pos hn2]
  refine wpAny_bind (wpAny_pure (wpAny_bind (wpAny_pure ?_)))
  dsimp only
  have hout : (arrOf (SortSt.mk' general' (vs.toArray.zip vs.toArray) #[] 7 none)).map (·.2) = vs.toArray := by
    show (vs.toArray.zip vs.toArray).map (·.2) = vs.toArray
    apply Array.toList_inj.mp
    simp [List.map_snd_zip]
  rw [hout]
  obtain ⟨c2, hc2⟩ : ∃ c2, (H3.update a (Obj.mapSeq fun _ => vs.toArray)).get? a = some (seqObj "list" vs.toArray c2) := ⟨_, get?_update_seq na fun _ => vs.toArray⟩
  refine wpAny_bind (seqEpoch_at na rfl ?_)
  refine wpAny_bind (listUpdate_at na rfl ?_ (Nat.zero_le _) (by rw [List.size_toArray, sizeLine_eq]; omega))
  simp only [bne_self_eq_false, Bool.false_eq_true, if_false]
  exact wpAny_pure (kk _ c2 (ext_upd x3 ha) hc2)
theorem RpL.map_get {h : Heap} {W : List Addr} {vs : List Value} {xs : List T3} (r : RpL prog w h W vs (xs.map dT3)) : ∀ {l : List Nat}, (∀ i ∈ l, i < xs.length) → RpL prog w h W (l.map fun i => vs.getD i Value.none) ((l.map (at3 xs)).map dT3)
  | [], _ => .nil
  | i :: l, hl => by
    have hi := hl i List.mem_cons_self
    obtain ⟨v, hv, rv⟩ := r.get (i := i) (d := dT3 (at3 xs i)) (by simp [at3, hi])
    simp only [List.map_cons]
    refine .cons ?_ (RpL.map_get r fun j hj => hl j (List.mem_cons_of_mem _ hj))
    rw [List.getD_eq_getElem?_getD, hv]
    exact rv
/-- sorted of a list of distinct triples -/
theorem cl_sorted {xs : List T3} (hnd : xs.Nodup) (h5 : xs.length ≤ 5) : Cl prog w n h₀ (.builtin "sorted") [.lst (xs.map dT3)] (.lst ((sort3 xs).map dT3)) := fun A s W vs Q E hA hW hx r k => by
  cases r with
  | cons r1 r2 =>
    cases r2
    obtain ⟨l, us, rfl, hl, hlW, rl⟩ := r1.lst_inv
    have hus : us.length = xs.length := by simpa using rl.length
    refine Calls.call_function_entry kind_sorted plain_sorted entry_sorted (args_sorted1 _) ?_
    unfold Builtin.«sorted»
    refine wpAny_bind (m := checkCount "sorted" 1 1 _) (wpAny_pure ?_)
    refine wpAny_bind (collect_list hl ?_ (by rw [sizeLine_eq]; omega))
    refine wpAny_bind (wpAny_newList ?_ (by rw [sizeLine_eq]; omega))
    have hsz : ((s.heap.push (seqObj "list" #[] 0)).update s.heap.objs.size (Obj.mapSeq (· ++ us.toArray))).objs.size = s.heap.objs.size + 1 := by
      rw [Heap.size_update, Heap.size_push]
    have hoL : (((s.heap.push (seqObj "list" #[] 0)).update s.heap.objs.size (Obj.mapSeq (· ++ us.toArray))).push (seqObj "list" us.toArray 0)).get? (s.heap.objs.size + 1) = some (seqObj "list" us.toArray 0) := by
      rw [← hsz]; exact Heap.get?_push_size _ rfl
    have xl : Ext s.heap (((s.heap.push (seqObj "list" #[] 0)).update s.heap.objs.size (Obj.mapSeq (· ++ us.toArray))).push (seqObj "list" us.toArray 0)) := (ext_upd (Ext.push _ _) (get_new _)).trans (Ext.push _ _)
    have hnew : s.heap.get? (s.heap.objs.size + 1) = none := Heap.get?_none_of_le (Nat.le_succ _)
    show wpAny _ _ _ _ _ { s with heap := ((s.heap.push (seqObj "list" #[] 0)).update s.heap.objs.size (Obj.mapSeq (· ++ us.toArray))).push (seqObj "list" us.toArray 0) }
    rw [hsz]
    generalize hH : ((s.heap.push (seqObj "list" #[] 0)).update s.heap.objs.size (Obj.mapSeq (· ++ us.toArray))).push (seqObj "list" us.toArray 0) = H at *
    have dW : (s.heap.objs.size + 1) ∉ W := not_in hW hnew
    refine wpAny_bind (wpAny_holding (wpAny_call_entry (s := { s with heap := H }) slot_list_sort ⟨_, hoL, rfl⟩ entry_list_sort ?body (args_list_sort _)))
    case body =>
      by_cases h2 : xs.length < 2
      · refine sort_short (s := { s with heap := H }) (h₀ := s.heap) xl hnew hoL (by omega) fun h' c x' ho' => ⟨_, rfl, wpAny_pure ⟨_, rfl, ?_⟩⟩
        refine k _ h' s.toks x' ?_
        rw [sort3, if_pos h2]
        exact .lst ⟨_, ho', rfl, _, rfl⟩ dW (rl.ext x')
      · obtain ⟨p, he, hi, hr⟩ := tree_end hnd (by omega) h5
        refine sort_new (s := { s with heap := H }) (h₀ := s.heap) (p := p) xl hnew hoL (are3_of rl) (by omega) h5 he fun h' c x' ho' => ⟨_, rfl, wpAny_pure ⟨_, rfl, ?_⟩⟩
        refine k _ h' s.toks x' ?_
        have e : sort3 xs = p.toList.map (at3 xs) := by rw [sort3, if_neg h2, he]
        rw [e]
        exact .lst ⟨_, ho', rfl, _, rfl⟩ dW ((RpL.map_get rl hi).ext x')
end
end Mine
end
noncomputable section -- Q1
open PySem PySem.W PySem.Calls PyProof.Rows
set_option maxRecDepth 100000
set_option linter.unusedVariables false
namespace Mine
section
variable {prog : Program} {w : World} {n : Nat} {A : Around} {E : Value → Shared → Prop} {s : Shared} {h₀ : Heap} {env : Env}
/-- two values that are equal, here -/
def EqH (prog : Program) (w : World) (A : Around) (s : Shared) (v u : Value) : Prop := ∀ (E : Value → Shared → Prop) (Q : Bool → Shared → Prop), Q true s → wpAny (model prog w) A (eqBool v u) Q E s
theorem EqH.of_at {v u : Value} (h : SeqAt.EqAt A s v u true) : EqH prog w A s v u := fun E Q hq => h prog w E Q hq
theorem EqH.refs {l b : Addr} (h : ∀ (E : Value → Shared → Prop) (Q : Value → Shared → Prop), Q (.bool true) s → wpAny (model prog w) A (compareOp .Eq (.ref l) (.ref b)) Q E s) : EqH prog w A s (.ref l) (.ref b) := fun E Q hq => by
  by_cases e : l = b
  · subst e
    exact SeqAt.EqAt.same (A := A) (s := s) (.ref l) prog w E Q hq
  · unfold eqBool
    refine wpAny_holding ?_
    refine wpAny_ite_split (fun hab => absurd (by have := eq_of_beq hab; injection this) e) (fun _ => ?_)
    exact wpAny_bind (h E _ (wpAny_truthy_bool hq))
noncomputable def EqAll (prog : Program) (w : World) (A : Around) (s : Shared) : List Value → List Value → Prop
  | [], [] => True
  | v :: vs, u :: us => EqH prog w A s v u ∧ EqAll prog w A s vs us
  | _, _ => False
theorem EqAll.len : ∀ {xs ys : List Value}, EqAll prog w A s xs ys → xs.length = ys.length
  | [], [], _ => rfl
  | _ :: _, _ :: _, h => by simp [EqAll.len h.2]
  | [], _ :: _, h => h.elim
  | _ :: _, [], h => h.elim
theorem ne_loop {R : Option PySem.Fin × Unit → Shared → Prop} {body : Value × Value → Option PySem.Fin × Unit → Sem (ForInStep (Option PySem.Fin × Unit))}
    (hb : ∀ v u (R' : ForInStep (Option PySem.Fin × Unit) → Shared → Prop), EqH prog w A s v u → R' (.yield (none, ())) s → wpAny (model prog w) A (body (v, u) (none, ())) R' E s) (h : R (none, ()) s) :
    ∀ (xs ys : List Value), EqAll prog w A s xs ys → wpAny (model prog w) A (forIn (xs.zip ys) (none, ()) body) R E s
  | [], [], _ => by rw [List.zip_nil_left, List.forIn_nil]; exact wpAny_pure h
  | x :: xs, y :: ys, he => by
    rw [List.zip_cons_cons, List.forIn_cons]
    exact wpAny_bind (hb x y _ he.1 (ne_loop hb h xs ys he.2))
  | [], _ :: _, h => h.elim
  | _ :: _, [], h => h.elim
/-- two tuples that are equal item by item -/
theorem ne_tup {l b : Addr} {xs ys : List Value} {Q : Value → Shared → Prop} (hl : s.heap.IsTuple l xs.toArray) (hb : s.heap.IsTuple b ys.toArray) (hu : A.units < cLine) (he : EqAll prog w A.in1 s xs ys) (h : Q (.bool false) s) :
    wpAny (model prog w) A (compareOp .NotEq (.ref l) (.ref b)) Q E s := by
  have hT : s.TypeIs (.ref l) "tuple" := Heap.IsTuple.typeIs hl
  have hT' : s.TypeIs (.ref b) "tuple" := Heap.IsTuple.typeIs hb
  refine wpAny_richCompare_same_room (op := .NotEq) hT hT' F.slot_tuple_ne (wpAny_call_entry F.slot_tuple_ne hT F.entry_tuple_ne ?_ (F.args_tuple_ne_2 _ _)) hu
  refine wpAny_bind (m := slotArgs "__ne__" 1 _) ?_
  refine wpAny_pure ?_
  dsimp only
  refine wpAny_bind (wpAny_isInstance (T := "tuple") hT' F.sub_tuple_tuple ?_)
  simp only [Bool.not_true, Bool.false_eq_true, if_false]
  refine wpAny_bind (tupleItemsOf_ hl (wpAny_bind (tupleItemsOf_ hb ?_)))
  refine wpAny_bind (ne_loop (fun v u R' hvu hR => ?_) ?_ xs ys he)
  · dsimp only
    refine wpAny_bind (hvu _ _ ?_)
    simp only [Bool.not_true, Bool.false_eq_true, if_false]
    exact wpAny_pure hR
  · dsimp only
    refine wpAny_pure ⟨_, rfl, ?_, ?_⟩
    · exact fun x => nomatch x
    · have e : Builtin.Tuple.tupleCompareSizes .NotEq xs.toArray.size ys.toArray.size = .bool false := by
        simp [Builtin.Tuple.tupleCompareSizes, he.len]
      rw [e]; exact h
theorem hits_of {W W' : List Addr} {kv : List (Str × Int)} {us : List Value} (ru : RpL prog w s.heap W us (valsOf kv)) (hn : (keysOf kv).Nodup) : ∀ {kv' : List (Str × Int)} {vs : List Value}, (∀ p ∈ kv', p ∈ kv) → RpL prog w s.heap W' vs (valsOf kv') → KeqHits A s ((keysOf kv).zip us) ((keysOf kv').zip vs) true
  | [], _, _, .nil => KeqHits.nil
  | p :: kv', v :: vs, hm, .cons a b => by
    have hp := hm p List.mem_cons_self
    obtain ⟨i, t, h1, h2⟩ := (value_at (k := p.1) ru hn).1 (List.any_eq_true.mpr ⟨p, hp, by simp⟩)
    have hi : p.2 = i := h2 p hp rfl
    obtain ⟨t', rfl⟩ := a.int_inv
    subst hi
    have := KeqHits.hit (A := A) (s := s) (v := .int p.2 t') (e := true) (b := true) h1 (by
      have := SeqAt.EqAt.int_int (A := A) (s := s) p.2 t' p.2 t
      simpa using this) (hits_of ru hn (fun q hq => hm q (List.mem_cons_of_mem _ hq)) b)
    simpa [keysOf] using this
theorem eqH_dC {kv : List (Str × Int)} {v u : Value} {W W' : List Addr} (rv : Rp prog w s.heap W v (dC kv)) (ru : Rp prog w s.heap W' u (dC kv)) (hu : A.units < cLine) : EqH prog w A s v u := by
  obtain ⟨a, vs, rfl, hd, hl, hs, _, rl⟩ := rv.dS_inv
  obtain ⟨b, us, rfl, hd', hl', hs', _, rl'⟩ := ru.dS_inv
  refine EqH.refs fun E Q hq => keq_eq hs hs' hd hd' hu (fun _ => hits_of rl' ?_ (fun p hp => hp) rl) ?_
  · obtain ⟨o, es, ep, _, _, _, _, _, hn⟩ := hd'
    rw [List.map_fst_zip (by omega)] at hn
    exact hn
  · have e : (((keysOf kv).zip vs).length == ((keysOf kv).zip us).length && true) = true := by simp [List.length_zip, ← hl, ← hl']
    rw [e]; exact hq
theorem eqH_int {i : Int} {v u : Value} {W W' : List Addr} (rv : Rp prog w s.heap W v (.int i)) (ru : Rp prog w s.heap W' u (.int i)) : EqH prog w A s v u := by
  obtain ⟨t, rfl⟩ := rv.int_inv
  obtain ⟨t', rfl⟩ := ru.int_inv
  have := SeqAt.EqAt.int_int (A := A) (s := s) i t i t'
  exact EqH.of_at (by simpa using this)
theorem tx_neCell {l r : Expr} {pos : Pos} {c : Cell} (hl : Ex prog w (n + 1) env l h₀ [] (dT c)) (hr : Ex prog w (n + 1) env r h₀ [] (dT c)) (hm : behindInMarks .NotEq r = false := by rfl) : Tx prog w (n + 1) env (.Compare l [.NotEq] [r] pos) h₀ false :=
  tx_cmp hl hr (fun A s u v Q E hA _ ru rv k => by
    obtain ⟨p, vs, rfl, ht, _, rl⟩ := ru.tup_inv
    obtain ⟨q, us, rfl, ht', _, rl'⟩ := rv.tup_inv
    have hu := hA.un
    refine ne_tup ht ht' (by omega) ?_ (k s.heap s.toks (Ext.refl _))
    cases rl with
    | cons a1 rl =>
      cases rl with
      | cons a2 rl =>
        cases rl with
        | cons a3 rl =>
          cases rl with
          | cons a4 rl =>
            cases rl with
            | cons a5 rl =>
              cases rl
              cases rl' with
              | cons b1 rl' =>
                cases rl' with
                | cons b2 rl' =>
                  cases rl' with
                  | cons b3 rl' =>
                    cases rl' with
                    | cons b4 rl' =>
                      cases rl' with
                      | cons b5 rl' =>
                        cases rl'
                        exact ⟨eqH_int a1 b1, eqH_int a2 b2, eqH_int a3 b3, eqH_int a4 b4, eqH_dC a5 b5 (by show A.units + 1 < _; omega), trivial⟩) hm
theorem eqAt_T3 {x : T3} {v u : Value} {W W' : List Addr} (rv : Rp prog w s.heap W v (dT3 x)) (ru : Rp prog w s.heap W' u (dT3 x)) (hu : A.units < cLine) : SeqAt.EqAt A s v u true := by
  obtain ⟨p, vs, rfl, ht, _, rl⟩ := rv.tup_inv
  obtain ⟨q, us, rfl, ht', _, rl'⟩ := ru.tup_inv
  by_cases e : p = q
  · subst e; exact SeqAt.EqAt.same _
  · have h3 : vs.length = 3 := by simpa using rl.length
    have h3' : us.length = 3 := by simpa using rl'.length
    have h := SeqAt.RcAt.tuples (A := A) (e := fun _ => true) ht ht' hu (fun j h1 h2 => by
      have hj : j < 3 := by simpa [h3] using h1
      obtain ⟨d, hd, r1⟩ := rl.get' (i := j) (v := vs[j]'(by omega)) (by simp [h3, hj])
      obtain ⟨d', hd', r2⟩ := rl'.get' (i := j) (v := us[j]'(by omega)) (by simp [h3', hj])
      rw [hd] at hd'
      obtain rfl := Option.some.inj hd'
      have hi : ∃ i, d = .int i := by
        match j, hj with
        | 0, _ => exact ⟨_, by simpa using hd.symm⟩
        | 1, _ => exact ⟨_, by simpa using hd.symm⟩
        | 2, _ => exact ⟨_, by simpa using hd.symm⟩
      obtain ⟨i, rfl⟩ := hi
      obtain ⟨t, e1⟩ := r1.int_inv
      obtain ⟨t', e2⟩ := r2.int_inv
      have := SeqAt.EqAt.int_int (A := A.in1) (s := s) i t i t'
      simp only [List.getElem_toArray]
      rw [e1, e2]
      simpa using this)
    refine SeqAt.EqAt.of_refs e ?_
    have ea : ∀ m, ((List.range m).all fun _ => true) = true := fun m => List.all_eq_true.mpr fun _ _ => rfl
    simpa [h3, h3', ea] using h
theorem tx_neL {l r : Expr} {pos : Pos} {xs : List T3} (hl : Ex prog w (n + 1) env l h₀ [] (.lst (xs.map dT3))) (hr : Ex prog w (n + 1) env r h₀ [] (.lst (xs.map dT3))) (hm : behindInMarks .NotEq r = false := by rfl) : Tx prog w (n + 1) env (.Compare l [.NotEq] [r] pos) h₀ false :=
  tx_cmp hl hr (fun A s u v Q E hA _ ru rv k => by
    obtain ⟨p, vs, rfl, ht, _, rl⟩ := ru.lst_inv
    obtain ⟨q, us, rfl, ht', _, rl'⟩ := rv.lst_inv
    have hu := hA.un
    have l1 := rl.length
    have l2 := rl'.length
    have h := SeqAt.RcNeAt.lists (A := A) (e := fun _ => true) ht ht' (by simp [l1, l2]) (by omega) (fun j h1 h2 => by
      have h1' : j < vs.length := by simpa using h1
      have h2' : j < us.length := by simpa using h2
      obtain ⟨d, hd, r1⟩ := rl.get' (i := j) (v := vs[j]) (by simp [h1'])
      obtain ⟨d', hd', r2⟩ := rl'.get' (i := j) (v := us[j]) (by simp [h2'])
      rw [hd] at hd'
      obtain rfl := Option.some.inj hd'
      rw [List.getElem?_map] at hd
      cases hx : xs[j]? with
      | none => rw [hx] at hd; cases hd
      | some x =>
        rw [hx] at hd
        obtain rfl : dT3 x = d := by simpa using hd
        simp only [List.getElem_toArray]
        exact eqAt_T3 r1 r2 (by show A.units + 1 < _; omega))
    refine h prog w E _ ?_
    have ea : ∀ m, ((List.range m).all fun _ => true) = true := fun m => List.all_eq_true.mpr fun _ _ => rfl
    rw [ea]
    exact k s.heap s.toks (Ext.refl _)) hm
end
end Mine
end
noncomputable section -- W7
open PySem PySem.W PyProof.Rows
set_option maxRecDepth 100000
set_option linter.unusedVariables false
namespace Mine
section
variable {prog : Program} {w : World} {n : Nat} {env : Env} {h₀ h₁ : Heap} {V W : List Addr} {ρ κ : List (Str × D)} {μ : List (Addr × Mo)} {L fa : Addr} {cd : Value} {A : Around} {s : Shared} {Q : Flow → Shared → Prop} {E : Value → Shared → Prop}
theorem ex_frz {e : Expr} {a : Addr} {ds : List D} (hm : MoAt prog w h₀ V a (.pls ds)) (x : Ex prog w n env e h₀ V (.raw (.ref a))) (lv : Live h₀ V) : Ex prog w n env e h₀ [] (.lst ds) :=
  fun A s Q E hA hW hx k => x A s Q E hA lv hx fun v h' tk x' r => k v h' tk x' (by
    have e := r.raw_inv
    subst e
    obtain ⟨vs, hl, rl⟩ := hm.ext (hx.trans x')
    exact .lst hl.isList (by simp) (rl.less (by simp)))
def restI (li : Nat → Int) : List Int := five5.filter fun k => !(coreI li 32).any (· == k)
def restT (li wo : Nat → Int) : List T3 := (restI li).map fun k => trip li wo k.toNat
theorem w13 {li wo : Nat → Int} {ca wa fo : Addr} {p : Pst} (hp : p.F.Perm (restT li wo)) (hnd : p.F.Nodup) (h5 : p.F.length ≤ 5) (hA : AOk 8 A) (l : Fm prog w (lawEnv L fa cd) s.heap V ρ κ (mo3 li wo ca wa fo p))
    (h1 : Has ρ "found" (.raw (.ref fo))) (h2 : Has κ "lines" (ints5 li)) (h3 : Has κ "worths" (ints5 wo)) (h4 : Has κ "core" (coreD li 32))
    (k : ∀ h' tk, Ext s.heap h' → Q .next { s with heap := h', toks := tk }) :
    wpAny (model prog w) A (exec (lawS 13) (lawEnv L fa cd)) Q E s := by
  have T := l.tk
  refine st_if (n := 8) (b := false) hA (tx_neL (xs := sort3 p.F) (ex_callB (ld_bi T (by decide) (fun _ r => r.2.2.2.2.2.2.2.1)) (ExL.cons (ex_frz (l.mo (a := fo) (m := .pls (dF p)) (by simp [mo3])) (exl l.fr h1) l.live) ExL.nil) (cl_sorted hnd h5)) ?_) (fun e => nomatch e) fun _ h' tk x => wpAny_execs_nil (k h' tk x)
  rw [sort3_perm hp hnd h5]
  refine Ex.bare (V := V) ?_ l.live
  refine ex_callB (ds := [.lst ((restT li wo).map dT3)]) (ld_bi T (by decide) (fun _ r => r.2.2.2.2.2.2.2.1)) (ExL.cons ?_ ExL.nil) (cl_sorted (hp.nodup_iff.mp hnd) (by rw [← hp.length_eq]; exact h5))
  have e : (restT li wo).map dT3 = (((List.range 5).map fun (i : Nat) => D.int i).filter (onIb fun k => !(coreI li 32).any (· == k))).map (onI fun k => dT3 (trip li wo k.toNat)) := by
    rw [show ((List.range 5).map fun (i : Nat) => D.int i) = five5.map D.int from rfl, onI_map, restT, restI, List.map_map]
    rfl
  rw [e]
  refine ex_comp _ _ (src_rng (nn := 5) (ld_range T rfl rfl rfl rfl) ex_int rfl rfl) ⟨fun V' C h1 d g y hd f => ?_, fun V' C h1 d g y hd _ f => ?_⟩ (by decide)
  · obtain ⟨j, _, rfl⟩ := List.mem_map.mp hd
    exact Txs.one (tx_notInL ((ex_loc f rfl).bare f.live) ((exf l.fr (x := "core") (c := L + 7) rfl h4 g y).bare f.live))
  · obtain ⟨j, hj, rfl⟩ := List.mem_map.mp hd
    have hj : j < 5 := by simpa using hj
    have j63 : (j : Int) < 2 ^ 63 := by omega
    have j0 := Int.natCast_nonneg j
    refine ex_tuple (ExL.cons (ex_item (exf l.fr (x := "lines") (c := L + 2) rfl h2 g y) (ex_loc f rfl) j0 j63 (fn_at hj)) (ExL.cons (ex_item (exf l.fr (x := "worths") (c := L + 3) rfl h3 g y) (ex_loc f rfl) j0 j63 (fn_at hj)) (ExL.cons (ex_pow ex_int (ex_loc f rfl) j0 ?_) ExL.nil)))
    rw [show Builtin.Int.intBits 2 = 2 from by decide]; omega
end
end Mine
end
noncomputable section -- X1
open PySem PySem.W PyProof.Rows
set_option maxRecDepth 100000
set_option linter.unusedVariables false
namespace Mine
def setC (kv : List (Str × Int)) (k : Str) (i : Int) : List (Str × Int) := if kv.any (fun p => p.1 = k) then kv.map (fun p => if p.1 = k then (p.1, i) else p) else kv ++ [(k, i)]
def tabOf (kf : D → Str) (vf : D → Int) (ds : List D) : List (Str × Int) := ds.foldl (fun kv d => setC kv (kf d) (vf d)) []
theorem setC_len (kv : List (Str × Int)) (k : Str) (i : Int) : (setC kv k i).length ≤ kv.length + 1 := by unfold setC; split <;> simp
theorem tabOf_snoc (kf : D → Str) (vf : D → Int) (ds : List D) (d : D) : tabOf kf vf (ds ++ [d]) = setC (tabOf kf vf ds) (kf d) (vf d) := by simp [tabOf, List.foldl_append]
theorem tabOf_len (kf : D → Str) (vf : D → Int) (ds : List D) : (tabOf kf vf ds).length ≤ ds.length := by
  have key : ∀ (ds : List D) (kv : List (Str × Int)), (ds.foldl (fun kv d => setC kv (kf d) (vf d)) kv).length ≤ kv.length + ds.length := by
    intro ds
    induction ds with
    | nil => intro kv; simp
    | cons d ds ih =>
      intro kv
      have h1 := ih (setC kv (kf d) (vf d))
      have h2 := setC_len kv (kf d) (vf d)
      simp only [List.foldl_cons, List.length_cons]
      omega
  simpa [tabOf] using key ds []
section
variable {prog : Program} {w : World} {n : Nat} {env : Env} {h₀ h₁ : Heap} {V W : List Addr} {ρ κ : List (Str × D)} {μ : List (Addr × Mo)}
theorem newEnv_cell {A : Around} {s : Shared} {scope : Scope} {cl : List (Str × Addr)} {x : Str} {globals : Addr} {qual : Str} {outer : Env} {Q : Env → Shared → Prop} {E : Value → Shared → Prop}
    (h1 : ∀ m, cellsFrom m scope.names cl = (x, m) :: cl) (h2 : ∀ h, pushCells h scope.names = h.push { cls := .type "cell", data := .cell none })
    (k : Q { scope := scope, locals := s.heap.objs.size, globals := globals, cells := (x, s.heap.objs.size + 1) :: cl, qual := qual, func := none, code := outer.code, frame := outer.frame, builtins := outer.builtins }
      { s with heap := (s.heap.push { cls := .type "dict", data := .dict #[] }).push { cls := .type "cell", data := .cell none } }) :
    wpAny (model prog w) A (newFunctionEnv scope globals cl [] qual none .none (some outer)) Q E s := by
  simp only [newFunctionEnv, Option.isSome_some, if_true]
  refine wpAny_bind (wpAny_alloc ?_)
  refine wpAny_bind (wpAny_layCells _ (fun name kind cells => by cases hkc : kind == NameKind.cell <;> simp) _ _ _ _ ?_)
  rw [show ({ s with heap := s.heap.push { cls := .type "dict", data := .dict #[] } } : Shared).heap.objs.size = s.heap.objs.size + 1 from Heap.size_push .., h1, h2]
  refine wpAny_bind ?_
  rw [List.forIn_nil]
  exact wpAny_pure (wpAny_pure k)
/-- what key and value give -/
def EltD (prog : Program) (w : World) (n : Nat) (env : Env) (scope : Scope) (cl : List (Str × Addr)) (x : Str) (kx vx : Expr) (h₀ : Heap) (V : List Addr) (ds : List D) (kf : D → Str) (vf : D → Int) : Prop :=
  ∀ V' C c h1 d v, Grow h₀ V V' → Ext h₀ h1 → Live h1 V' → d ∈ ds → h1.IsCell c (some v) → Rp prog w h1 V' v d → Ex prog w n (compEnvC scope ((x, c) :: cl) C env) kx h1 V' (.str (kf d)) ∧ Ex prog w n (compEnvC scope ((x, c) :: cl) C env) vx h1 V' (.int (vf d))
set_option maxHeartbeats 4000000 in
theorem dcomp_core {A : Around} {s₂ : Shared} {kx vx iter : Expr} {x : Str} {px : Pos} {scope : Scope} {cl : List (Str × Addr)} {pos : Pos} {I : Addr} {fp : List Addr} {P : Nat → Value → Prop} {St : Nat → Heap → Prop} {hp : Heap} {ds : List D} {kf : D → Str} {vf : D → Int} {RR : Value → Addr → Result → Shared → Prop} {E : Value → Shared → Prop}
    (hA : AOk n A) (W : Walks prog w A I fp [I] ds.length P St) (hst : St 0 s₂.heap) (xp : Ext h₀ hp) (x0 : Ext hp s₂.heap) (hI : hp.get? I = none) (hob : ∀ i h, St i h → ∃ o, h.get? I = some o) (hfp : ∀ b ∈ fp, b < s₂.heap.objs.size ∧ b ∉ V) (hP : ∀ i v d, P i v → ds[i]? = some d → Rp prog w hp V v d)
    (hV : Live hp V) (hsz : ds.length ≤ 1000) (h1 : ∀ m, cellsFrom m scope.names cl = (x, m) :: cl) (h2 : ∀ h, pushCells h scope.names = h.push { cls := .type "cell", data := .cell none }) (hkind : scope.kind = .function) (hx : (relabel scope env).names.lookup x = some .cell) (el : EltD prog w n env scope cl x kx vx h₀ V ds kf vf)
    (hRR : ∀ Dl C h' tk m', s₂.heap.objs.size = Dl → s₂.heap.get? Dl = none → s₂.heap.get? C = none → Dl ≠ C → h'.Ns C m' → Holds prog w h' Dl (tabOf kf vf ds) → Stay [I] s₂.heap h' → RR (.ref Dl) C (.ok .next) { s₂ with heap := h', toks := tk }) :
    wpAny (model prog w) A newDict (fun acc s₃ => wpAny (model prog w) A (newFunctionEnv scope env.globals cl [] env.qual none .none (some env)) (fun cenv s₄ =>
      codeAny (model prog w) A (.compStart (.DictComp kx vx [⟨.Name x px, iter, [], 0⟩] scope pos) 0 (.ref I) acc { cenv with scope := relabel scope env }) (RR acc cenv.locals) s₄) E s₃) E s₂ := by
  refine wpAny_newObj_type (newEnv_cell h1 h2 ?_)
  dsimp only
  have hnew : Holds prog w (s₂.heap.push { cls := .type "dict", dict := none, data := .dict #[] }) s₂.heap.objs.size [] := ⟨[], Heap.DictOf.new s₂.heap, rfl, .nil⟩
  generalize hH2 : s₂.heap.push { cls := .type "dict", dict := none, data := .dict #[] } = H2 at hnew ⊢
  have hC : H2.objs.size = s₂.heap.objs.size + 1 := by rw [← hH2, Heap.size_push]
  generalize hDl : s₂.heap.objs.size = Dl at *
  have hns : (H2.push { cls := .type "dict", data := .dict #[] }).Ns H2.objs.size (fun _ => none) := Heap.Ns.new H2 (.type "dict")
  have hcs : (H2.push { cls := .type "dict", data := .dict #[] }).objs.size = H2.objs.size + 1 := Heap.size_push ..
  generalize hh1 : (H2.push { cls := .type "dict", data := .dict #[] }).push { cls := .type "cell", data := .cell none } = hc1
  have xcc : Ext (H2.push { cls := .type "dict", data := .dict #[] }) hc1 := by rw [← hh1]; exact Ext.push _ _
  have xC : Ext H2 hc1 := (Ext.push _ _).trans xcc
  have x1 : Ext s₂.heap hc1 := by
    have : Ext s₂.heap H2 := by rw [← hH2]; exact Ext.push _ _
    exact this.trans xC
  have hns1 : hc1.Ns H2.objs.size (fun _ => none) := hns.keeps xcc
  have hcell1 : hc1.IsCell (H2.objs.size + 1) none := by
    rw [← hh1, ← hcs]
    exact ⟨_, Heap.get?_push_size _ rfl, rfl⟩
  have hh0 : Holds prog w hc1 Dl [] := hnew.keep fun o e => xC _ _ e
  generalize hCC : H2.objs.size = C at *
  have hDC : Dl ≠ C := by omega
  have hDc : Dl ≠ C + 1 := by
    intro q
    have q' : @Eq Nat Dl (C + 1) := q
    omega
  have hCc : C ≠ C + 1 := by
    intro q
    have q' : @Eq Nat C (C + 1) := q
    omega
  have hDnew : s₂.heap.get? Dl = none := by rw [← hDl]; exact get_new _
  have hCnew : s₂.heap.get? C = none := Heap.get?_none_of_le (by omega)
  have hcnew : s₂.heap.get? (C + 1) = none := Heap.get?_none_of_le (by omega)
  have hI2 : ∃ o, s₂.heap.get? I = some o := hob _ _ hst
  have neI : ∀ b, s₂.heap.get? b = none → I ≠ b := fun b hb => by rintro rfl; obtain ⟨o, e⟩ := hI2; rw [hb] at e; cases e
  have hpn : ∀ b, s₂.heap.get? b = none → hp.get? b = none := fun b hb => by
    cases e : hp.get? b with
    | none => rfl
    | some o => rw [x0 _ _ e] at hb; cases hb
  have nn : ∀ b, hp.get? b = none → h₀.get? b = none := fun b hb => by
    cases e : h₀.get? b with
    | none => rfl
    | some o => rw [xp _ _ e] at hb; cases hb
  have hVnot : ∀ b, hp.get? b = none → b ∉ V := fun b hb => not_in hV hb
  have hIV : I ∉ V := hVnot _ hI
  have hCV : C ∉ V := hVnot _ (hpn _ hCnew)
  have hcV : C + 1 ∉ V := hVnot _ (hpn _ hcnew)
  have hDV : Dl ∉ V := hVnot _ (hpn _ hDnew)
  have hcf : C + 1 ∉ fp := fun m => by
    have h : @LT.lt Nat _ (C + 1) Dl := (hfp (C + 1) m).1
    omega
  have hDf : Dl ∉ fp := fun m => Nat.lt_irrefl _ (hfp Dl m).1
  have hst1 : St 0 hc1 := W.frame _ _ _ hst fun b _ o e => x1 b o e
  have kl : (compEnvC scope ((x, C + 1) :: cl) C env).scope.kind = .function := hkind
  have klx : (compEnvC scope ((x, C + 1) :: cl) C env).kindOf x = some .cell := hx
  have klc : (compEnvC scope ((x, C + 1) :: cl) C env).cells.lookup x = some (C + 1) := by simp [compEnvC]
  have grow : Grow h₀ V (I :: (C + 1) :: C :: Dl :: V) := ⟨fun b hb => by simp [hb], fun b hb => by
    simp only [List.mem_cons] at hb
    rcases hb with rfl | rfl | rfl | rfl | hb
    · exact .inr (nn _ hI)
    · exact .inr (nn _ (hpn _ hcnew))
    · exact .inr (nn _ (hpn _ hCnew))
    · exact .inr (nn _ (hpn _ hDnew))
    · exact .inl hb⟩
  have loop : ∀ s₃ : Shared, s₃ = { s₂ with heap := hc1, toks := s₂.toks } →
      codeAny (model prog w) A (.compLoop (.DictComp kx vx [⟨.Name x px, iter, [], 0⟩] scope pos) 0 (.ref I) (.ref Dl) (compEnvC scope ((x, C + 1) :: cl) C env)) (RR (.ref Dl) C) s₃ := by
    rintro s₃ rfl
    refine codeAny_compLoop_testsD
      (fun k s' => ∃ h' tk i, s' = { s₂ with heap := h', toks := tk } ∧ St i h' ∧ i ≤ ds.length ∧ k = ds.length + 1 - i ∧ Holds prog w h' Dl (tabOf kf vf (ds.take i)) ∧ (∃ m', h'.Ns C m') ∧ (∃ o, h'.IsCell (C + 1) o) ∧ Live h' (I :: (C + 1) :: C :: Dl :: V) ∧ Stay [I] s₂.heap h' ∧ Stay (I :: (C + 1) :: C :: Dl :: V) hp h') ?_ (ds.length + 1)
      ⟨hc1, _, 0, rfl, hst1, Nat.zero_le _, rfl, hh0, ⟨_, hns1⟩, ⟨_, hcell1⟩, ?_, x1.stay _, (x0.trans x1).stay _⟩
    · rintro k s' ⟨H, tk, i, rfl, hst', hi, rfl, hH, ⟨m', hnH⟩, ⟨oc, hcH⟩, lvH, hS, hR⟩
      by_cases hlt : i < ds.length
      · refine W.item i _ _ _ hlt hst' fun v h2 tk2 hPv hst2 hk2 => ?_
        have st2 : Stay [I] H h2 := fun b o hb e => hk2 b o hb e
        have hIo2 := hob _ _ hst2
        have hd : ds[i]? = some ds[i] := by simp [hlt]
        have dm : ds[i] ∈ ds := List.getElem_mem hlt
        have hc2 : h2.IsCell (C + 1) oc := let ⟨o, ho, hd⟩ := hcH; ⟨o, st2 _ _ (by simpa using (neI _ hcnew).symm) ho, hd⟩
        refine wpAny_assign_Name (wpAny_storeName_cell kl klx klc hc2 fun h3 hc3 hs3 => ?_)
        have st3 : Stay [C + 1] h2 h3 := Stay.of_same hs3 (by simp)
        have s23 : Stay [I, C + 1] H h3 := (st2.mono (by simp)).trans (st3.mono (by simp))
        have hS3 : Stay [I] s₂.heap h3 := fun b o hb e => st3 b o (by simp; rintro rfl; rw [hcnew] at e; cases e) (st2 b o hb (hS b o hb e))
        have hR3 : Stay (I :: (C + 1) :: C :: Dl :: V) hp h3 := fun b o hb e => s23 b o (fun m => hb (by simp at m; rcases m with rfl | rfl <;> simp)) (hR b o hb e)
        have rv : Rp prog w h3 (I :: (C + 1) :: C :: Dl :: V) v ds[i] := ((hP i v _ hPv hd).turn fun b o e q z => by
          simp only [List.mem_cons] at z
          rcases z with rfl | rfl | rfl | rfl | z
          · rw [hI] at e; cases e
          · rw [hpn _ hcnew] at e; cases e
          · rw [hpn _ hCnew] at e; cases e
          · rw [hpn _ hDnew] at e; cases e
          · exact q z).stay hR3
        have e03 : Ext h₀ h3 := fun b o e => hS3 b o (by simp; rintro rfl; have := xp _ _ e; rw [hI] at this; cases this) (x0 b o (xp b o e))
        have lv3 : Live h3 (I :: (C + 1) :: C :: Dl :: V) := fun b hb => by
          by_cases hbI : b = I
          · subst hbI
            obtain ⟨o, ho⟩ := hIo2
            exact ⟨o, st3 _ _ (by simpa using neI _ hcnew) ho⟩
          · by_cases hbc : b = C + 1
            · subst hbc; obtain ⟨o, ho, _⟩ := hc3; exact ⟨o, ho⟩
            · obtain ⟨o, ho⟩ := lvH b hb
              exact ⟨o, s23 b o (by simp [hbI, hbc]) ho⟩
        have hst3 : St (i + 1) h3 := W.frame _ _ _ hst2 fun b hb o e => st3 b o (by simp; rintro rfl; exact hcf hb) e
        have tk1 : ds.take (i + 1) = ds.take i ++ [ds[i]] := take_succ_snoc hd
        have hH3 : Holds prog w h3 Dl (tabOf kf vf (ds.take i)) := hH.keep fun o e => s23 Dl o (by simp [hDc]; exact (neI _ hDnew).symm) e
        have hn3 : h3.Ns C m' := hnH.at' fun o e => s23 C o (by simp; exact (neI _ hCnew).symm) e
        obtain ⟨ek, ev⟩ := el (I :: (C + 1) :: C :: Dl :: V) C (C + 1) h3 ds[i] v grow e03 lv3 dm hc3 rv
        rw [List.forIn_nil]
        refine wpAny_pure ?_
        rw [if_pos rfl]
        refine ek A _ _ _ hA lv3 (Ext.refl _) fun key h4 tk4 x4 rk => ?_
        refine ev A _ _ _ hA lv3 x4 fun vv h5 tk5 x5 rvv => ?_
        obtain ⟨tk', rfl⟩ := rk.str_inv
        obtain ⟨tv', rfl⟩ := rvv.int_inv
        have x45 := x4.trans x5
        obtain ⟨vs, hd5, hlen5, rl5⟩ := hH3.keep fun o e => x45 Dl o e
        have hkl : (tabOf kf vf (ds.take i)).length ≤ 1000 := Nat.le_trans (tabOf_len kf vf _) (by simp; omega)
        have hzl : ((keysOf (tabOf kf vf (ds.take i))).zip vs).length ≤ sizeLine := by
          have : (keysOf (tabOf kf vf (ds.take i))).length = (tabOf kf vf (ds.take i)).length := by simp [keysOf]
          rw [List.length_zip, sizeLine_eq]; omega
        refine wpAny_dictSet_pairs (knd := strKind prog w) (strKind_is prog w (kf ds[i]) tk') hd5 (fun h6 hd6 hs6 => ?_) hzl
        have s6 : Stay [Dl] h5 h6 := Stay.of_same hs6 (by simp)
        obtain ⟨us, e1, e2, e3⟩ := stored_zip (prog := prog) (w := w) (k := kf ds[i]) (i := vf ds[i]) (t := tv') hlen5 rl5 _ rfl
        rw [e1] at hd6
        have hH6 : Holds prog w h6 Dl (tabOf kf vf (ds.take (i + 1))) := by
          rw [tk1, tabOf_snoc]
          exact ⟨us, hd6, e2, vals_ints e3 _ _⟩
        refine ⟨ds.length + 1 - (i + 1), by omega, h6, _, i + 1, rfl, ?_, hlt, rfl, hH6, ⟨m', hn3.at' fun o e => s6 C o (by simpa using hDC.symm) (x45 C o e)⟩, ⟨some v, ?_⟩, fun b hb => ?_, fun b o hb e => s6 b o (by simp; rintro rfl; rw [hDnew] at e; cases e) (x45 b o (hS3 b o hb e)), fun b o hb e => s6 b o (fun m => hb (mem_of_one m (by simp))) (x45 b o (hR3 b o hb e))⟩
        · exact W.frame _ _ _ hst3 fun b hb o e => s6 b o (by simp; rintro rfl; exact hDf hb) (x45 b o e)
        · obtain ⟨o, ho, hdd⟩ := hc3
          exact ⟨o, s6 _ _ (by simpa using hDc.symm) (x45 _ _ ho), hdd⟩
        · by_cases hbD : b = Dl
          · subst hbD; obtain ⟨vs', hd', _⟩ := hH6; exact DictOf.obj hd'
          · obtain ⟨o, ho⟩ := lv3 b hb
            exact ⟨o, s6 b o (by simpa using hbD) (x45 b o ho)⟩
      · have hin : i = ds.length := by omega
        subst hin
        refine W.done _ _ _ hst' fun h2 tk2 hk2 => ?_
        have st2 : Stay [I] H h2 := fun b o hb e => hk2 b o hb e
        rw [List.take_length] at hH
        exact hRR Dl C h2 tk2 m' rfl hDnew hCnew hDC (hnH.at' fun o e => st2 C o (by simpa using (neI _ hCnew).symm) e) (hH.keep fun o e => st2 Dl o (by simpa using (neI _ hDnew).symm) e) (fun b o hb e => st2 b o hb (hS b o hb e))
    · intro b hb
      simp only [List.mem_cons] at hb
      rcases hb with rfl | rfl | rfl | rfl | hb
      · obtain ⟨o, e⟩ := hI2; exact ⟨o, x1 _ _ e⟩
      · obtain ⟨o, e, _⟩ := hcell1; exact ⟨o, e⟩
      · obtain ⟨o, _, _, e, _⟩ := hns1; exact ⟨o, e⟩
      · obtain ⟨vs, hd, _⟩ := hh0; exact DictOf.obj hd
      · obtain ⟨o, e⟩ := hV b hb; exact ⟨o, x1 _ _ (x0 _ _ e)⟩
  exact codeAny_compStart_dict (loop _ rfl) (W.self 0 _ _ _ hst1 (loop _ rfl))
/-- y = {k: v for x in ..}, x a cell of the comprehension's own -/
theorem fm_dcomp {A : Around} {s : Shared} {kx vx iter : Expr} {x y : Str} {px py : Pos} {scope : Scope} {cl : List (Str × Addr)} {pos spos : Pos} {ds : List D} {Q : Flow → Shared → Prop} {E : Value → Shared → Prop} (kf : D → Str) (vf : D → Int) (hA : AOk n A) (l : Fm prog w env s.heap V ρ κ μ)
    (src : Src prog w n env iter s.heap V ds) (el : EltD prog w n env scope cl x kx vx s.heap V ds kf vf) (hsz : ds.length ≤ 1000)
    (k : ∀ h' tk, Stay (Fp env μ) s.heap h' → Fm prog w env h' V ((y, dC (tabOf kf vf ds)) :: ρ) κ μ → Q .next { s with heap := h', toks := tk })
    (hsw : swapsWith (.DictComp kx vx [⟨.Name x px, iter, [], 0⟩] scope pos) (some (.Name y py)) spos.line env = pure true := by rfl)
    (hclos : closureFor scope env = pure cl := by rfl) (h1 : ∀ m, cellsFrom m scope.names cl = (x, m) :: cl := by intro _; rfl) (h2 : ∀ h, pushCells h scope.names = h.push { cls := .type "cell", data := .cell none } := by intro _; rfl) (hkind : scope.kind = .function := by rfl) (hnames : ∀ y ∈ scope.names, y.2 = .local → scope.names.lookup y.1 = some .local := by decide) (hx : (relabel scope env).names.lookup x = some .cell := by rfl)
    (hs : ∀ x, foldedSetIterable iter env x = pure x := by intro _; rfl) (hk : env.scope.kind = .function := by rfl) (hl : env.kindOf y = some .local := by rfl) :
    wpAny (model prog w) A (exec (.Assign [.Name y py] (.DictComp kx vx [⟨.Name x px, iter, [], 0⟩] scope pos) spos) env) Q E s := by
  rw [exec_Assign_Name_used _ _ _ _ hsw]
  refine wpAny_bind (wpAny_standAt (wpAny_bind ?_))
  show wpAny _ A (do let _ ← comprehension (.DictComp kx vx [⟨.Name x px, iter, [], 0⟩] scope pos) scope env _ newDict false (eval iter env) (some (assign (.Name y py) env))) _ _ s
  refine wpAny_bind (wpAny_mono (wpAny_comprehension_free (use := some (assign (.Name y py) env)) (Q := fun _ s' => Q .next s') rfl hs hclos hkind hnames
    (src A s _ _ hA l.live (Ext.refl _) fun I fp P St hp h' tk W st xp x0 hI hob hfp hP => ?_)) (fun _ s' hq => wpAny_pure (wpAny_pure hq)) fun _ _ e => e)
  refine dcomp_core (h₀ := s.heap) (hp := hp) (kf := kf) (vf := vf) (RR := fun acc C => compPost (model prog w) A E (some (assign (.Name y py) env)) (fun _ s' => Q .next s') acc C) hA (W A hA.hd) st xp x0 hI hob hfp hP (l.live.ext xp) hsz h1 h2 hkind hx el ?_
  intro Dl C h2 tk2 m' hDe hDn hCn hDC hn hh2 st2
  have back : ∀ b, h'.get? b = none → s.heap.get? b = none := fun b hb => by
    cases e : s.heap.get? b with
    | none => rfl
    | some o => rw [x0 _ _ (xp _ _ e)] at hb; cases hb
  have hIs : s.heap.get? I = none := by
    cases e : s.heap.get? I with
    | none => rfl
    | some o => rw [xp _ _ e] at hI; cases hI
  have e2 : Ext s.heap h2 := fun b o e => st2 b o (by simp; rintro rfl; rw [hIs] at e; cases e) (x0 _ _ (xp _ _ e))
  have hCs := back _ hCn
  have hDs := back _ hDn
  have hCV : C ∉ V := not_in l.live hCs
  have hDV : Dl ∉ V := not_in l.live hDs
  have l2 : Fm prog w env h2 (C :: V) ρ κ μ := l.more hCs e2 (by obtain ⟨o, _, _, ho, _⟩ := hn; exact ⟨o, ho⟩)
  obtain ⟨vs, hd, hlen, rl⟩ := hh2
  have hsys : (Dl == sysModules) = false := by
    refine beq_eq_false_iff_ne.mpr fun q => ?_
    have hT := l.tk
    obtain ⟨og, _, _, hog, _⟩ := hT.gen
    have h42 : @LT.lt Nat _ 42 h'.objs.size := Heap.lt_size (x0 _ _ (xp _ _ hog))
    have h1 : @LT.lt Nat _ sysModules 42 := by decide
    have q' : @Eq Nat Dl sysModules := q
    have h3 : @Eq Nat h'.objs.size Dl := hDe
    omega
  have rD : Rp prog w h2 (C :: V) (.ref Dl) (dC (tabOf kf vf ds)) := .dS hd hlen hsys (by simp [hDC, hDV]) (vals_ints rl _ _)
  show wpAny _ A (assign (.Name y py) env (.ref Dl)) _ _ _
  refine wpAny_assign_Name (fm_store (s := { s with heap := h2, toks := tk2 }) l2 rD (fun h3 tk3 st3 l3 => ?_) hk hl)
  have hCF : C ∉ Fp env μ := fun m => hCV (l.fp _ m)
  refine ⟨m', hn.at' fun o e => st3 C o hCF e, fun h4 hs4 => ?_⟩
  have s4 : Stay [C] h3 h4 := Stay.of_same hs4 (by simp)
  refine k h4 tk3 ?_ (l3.drop hCV l.fp s4)
  intro b o hb e
  exact s4 b o (by simp; rintro rfl; rw [hCs] at e; cases e) (st3 b o hb (e2 b o e))
end
end Mine
end
noncomputable section -- W8
open PySem PySem.W PyProof.Rows
set_option maxRecDepth 100000
set_option linter.unusedVariables false
namespace Mine
section
variable {prog : Program} {w : World} {n : Nat} {env : Env} {h₀ h₁ : Heap} {V W : List Addr} {ρ κ : List (Str × D)} {μ : List (Addr × Mo)} {L fa : Addr} {cd : Value} {A : Around} {s : Shared} {Q : Flow → Shared → Prop} {E : Value → Shared → Prop}
def thereI (li : Nat → Int) (c : Nat) : List Int := five5.filter fun k => [((e1 li k.toNat : Nat) : Int), ((e2 li k.toNat : Nat) : Int)].any (· == (c : Int))
def stayI (li : Nat → Int) (c : Nat) : List Int := (thereI li c).filter fun k => (coreI li 32).any (· == k)
theorem there_five {li : Nat → Int} {c : Nat} {k : Int} (h : k ∈ thereI li c) : ∃ j : Nat, j < 5 ∧ k = j := five5_mem.mp (List.mem_filter.mp h).1
theorem stay_there {li : Nat → Int} {c : Nat} {k : Int} (h : k ∈ stayI li c) : k ∈ thereI li c := (List.mem_filter.mp h).1
theorem there_len (li : Nat → Int) (c : Nat) : (thereI li c).length ≤ 5 := Nat.le_trans (List.length_filter_le _ _) (by decide)
theorem stay_len (li : Nat → Int) (c : Nat) : (stayI li c).length ≤ 5 := Nat.le_trans (List.length_filter_le _ _) (there_len li c)
/-- the sum of a comprehension over ints -/
theorem ex_sum {elt iter : Expr} {x : Str} {px p pos spos : Pos} {scope : Scope} {cl : List (Str × Addr)} {xs : List Int} (g : Int → Int) (T : TopOk h₀) (src : Src prog w n env iter h₀ V (xs.map D.int))
    (el : ∀ V' C h1 k, Grow h₀ V V' → Ext h₀ h1 → k ∈ xs → Fra prog w h1 C V' [(x, .int k)] → Ex prog w n (compEnvC scope cl C env) elt h1 V' (.int (g k))) (hsz : xs.length ≤ 1000)
    (hclos : closureFor scope env = pure cl := by rfl) (hcell : ∀ y ∈ scope.names, y.2 ≠ .cell := by decide) (hkind : scope.kind = .function := by rfl) (hnames : ∀ y ∈ scope.names, y.2 = .local → scope.names.lookup y.1 = some .local := by decide) (hx : scope.names.lookup x = some .local := by rfl)
    (hs : ∀ x, foldedSetIterable iter env x = pure x := by intro _; rfl) (hk : env.scope.kind = .function := by rfl) (hl : env.kindOf "sum" = some .globalImplicit := by rfl) (hg : env.globals = mainGlobals := by rfl) (hb : env.builtins = builtinsNs := by rfl) (hse : starEach [Expr.ListComp elt [⟨.Name x px, iter, [], 0⟩] scope pos] env = (false, eval (.ListComp elt [⟨.Name x px, iter, [], 0⟩] scope pos) env) :: starEach [] env := by rfl) :
    Ex prog w n env (.Call (.Name "sum" p) [.ListComp elt [⟨.Name x px, iter, [], 0⟩] scope pos] [] spos) h₀ V (.int (xs.map g).sum) := by
  refine ex_callB (ld_bi T (by decide) (fun _ r => r.2.1) hk hl hg hb) (ExL.cons (d := .lst ((xs.map g).map D.int)) ?_ ExL.nil hse) cl_sum
  have e : (xs.map g).map D.int = ((xs.map D.int).filter tt).map (onI fun k => .int (g k)) := by
    rw [tt_filter, List.map_map, List.map_map]; rfl
  rw [e]
  refine ex_comp tt _ src ⟨fun V' C h1 d g y hd f => Txs.nil, fun V' C h1 d g' y hd _ f => ?_⟩ (by simpa using hsz) hclos hcell hkind hnames hx hs
  obtain ⟨k, hk', rfl⟩ := List.mem_map.mp hd
  exact el V' C h1 k g' y hk' f
def kfD (li : Nat → Int) : D → Str
  | .int k => tx li k.toNat
  | _ => Str.empty
def vfD (li : Nat → Int) (c : Nat) : D → Int
  | .int k => (((stayI li c).filter fun j => li j.toNat == li k.toNat).length : Nat)
  | _ => 0
/-- what the law asks of a cell -/
structure CellOk (li wo : Nat → Int) (S : Nat → Bool) (c : Nat) : Prop where
  len : ((stayI li c).length : Int) = sumC li S c fun _ => 1
  low : ((stayI li c).map fun k => li k.toNat).sum = sumC li S c li
  high : ((stayI li c).map fun k => wo k.toNat).sum = sumC li S c wo
  pow : ((stayI li c).map fun k => (2 : Int) ^ k.toNat).sum = sumC li S c fun k => 2 ^ k
  tab : tabOf (kfD li) (vfD li c) ((thereI li c).map D.int) = kvOf li 5 S c
set_option maxHeartbeats 4000000 in
theorem w14 {li wo : Nat → Int} {ca wa fo : Addr} {p : Pst} (hok : ∀ c, c < 6 → CellOk li wo p.S c) (hA : AOk 8 A) (l : Fm prog w (lawEnv L fa cd) s.heap V ρ κ (mo3 li wo ca wa fo p))
    (h1 : Has ρ "cells" (.raw (.ref ca))) (h4 : Has κ "lines" (ints5 li)) (h5 : Has κ "worths" (ints5 wo)) (h6 : Has κ "texts" (texts5 li)) (h7 : Has κ "ends" (ends5 li)) (h8 : Has κ "core" (coreD li 32))
    (k : ∀ h' tk, Stay (Fp (lawEnv L fa cd) (mo3 li wo ca wa fo p)) s.heap h' → (∃ V ρ κ μ, Fm prog w (lawEnv L fa cd) h' V ρ κ μ) → Q .next { s with heap := h', toks := tk }) :
    wpAny (model prog w) A (exec (lawS 14) (lawEnv L fa cd)) Q E s := by
  refine fm_for (ds := (List.range 6).map fun (i : Nat) => D.int i) hA l (src_rng (nn := 6) (ld_range l.tk rfl rfl rfl rfl) ex_int rfl rfl) (Tgt.cel (c := L + 4) rfl)
    (fun _ => [("cells", .raw (.ref ca))]) (fun i => ("core", coreD li 32) :: κ5 li wo) (fun _ => mo3 li wo ca wa fo p)
    (fun y d h => lookup_one h h1) (fun y d h => lookup_cons' h h8 fun h => lookup_four h h4 h5 h6 h7) rfl (fun i => rfl) ?_ (fun h' tk st f => k h' tk st ⟨_, _, _, _, f⟩)
  intro V' c d g1 tk E' hd f1
  obtain ⟨hc, rfl⟩ := rng_at hd
  have c0 := Int.natCast_nonneg c
  have c63 : (c : Int) < 2 ^ 63 := by omega
  have ok := hok c hc
  -- there
  refine wpAny_execs_cons (fm_compF (s := { s with heap := g1, toks := tk }) (onIb fun k => [((e1 li k.toNat : Nat) : Int), ((e2 li k.toNat : Nat) : Int)].any (· == (c : Int))) (onI D.int) hA f1 (src_rng (nn := 5) (ld_range f1.tk rfl rfl rfl rfl) ex_int rfl rfl) ⟨fun V' C h1 d g y hd f => ?_, fun V' C h1 d g y hd _ f => ?_⟩ (by decide) (fun g2 tk2 st2 f2 => ?_))
  · obtain ⟨j, hj, rfl⟩ := List.mem_map.mp hd
    have hj : j < 5 := by simpa using hj
    refine Txs.one (tx_inT (ns := [((e1 li j : Nat) : Int), ((e2 li j : Nat) : Int)]) ((exf f1.fr (x := "cell") (c := L + 4) rfl rfl g y).bare f.live) (ex_item ((exf f1.fr (x := "ends") (c := L + 6) rfl rfl g y).bare f.live) ((ex_loc f rfl).bare f.live) (Int.natCast_nonneg j) (by omega) (ends_at hj)))
  · obtain ⟨j, _, rfl⟩ := List.mem_map.mp hd
    exact ex_loc f rfl
  rw [show ((List.range 5).map fun (i : Nat) => D.int i) = five5.map D.int from rfl, onI_map] at f2
  replace f2 : Fm prog w (lawEnv L fa cd) g2 V' (("there", .lst ((thereI li c).map D.int)) :: [("cells", .raw (.ref ca))]) (("cell", .int c) :: ("core", coreD li 32) :: κ5 li wo) (mo3 li wo ca wa fo p) := f2
  -- stay
  refine wpAny_execs_cons (fm_assignC (s := { s with heap := g2, toks := tk2 }) (c := L + 9) hA f2 rfl (ex_comp (onIb fun k => (coreI li 32).any (· == k)) (onI D.int) (src_lst (exl f2.fr (d := .lst ((thereI li c).map D.int)) rfl)) ⟨fun V' C h1 d g y hd f => ?_, fun V' C h1 d g y hd _ f => ?_⟩ ?_) (fun g3 tk3 st3 f3 => ?_))
  · obtain ⟨j, _, rfl⟩ := List.mem_map.mp hd
    exact Txs.one (tx_inL ((ex_loc f rfl).bare f.live) ((exf f2.fr (x := "core") (c := L + 7) rfl rfl g y).bare f.live))
  · obtain ⟨j, _, rfl⟩ := List.mem_map.mp hd
    exact ex_loc f rfl
  · have := there_len li c
    rw [List.length_map]; omega
  rw [onI_map] at f3
  replace f3 : Fm prog w (lawEnv L fa cd) g3 V' (("there", .lst ((thereI li c).map D.int)) :: [("cells", .raw (.ref ca))]) (("stay", .lst ((stayI li c).map D.int)) :: ("cell", .int c) :: ("core", coreD li 32) :: κ5 li wo) (mo3 li wo ca wa fo p) := f3
  have sl := stay_len li c
  -- low, high
  refine wpAny_execs_cons (fm_assign (s := { s with heap := g3, toks := tk3 }) hA f3 (ex_sum (fun k => li k.toNat) f3.tk (src_lst (exc f3.fr (c := L + 9) (d := .lst ((stayI li c).map D.int)) rfl rfl)) (fun V' C h1 k g y hk f => ?_) (by omega)) fun g4 tk4 st4 f4 => ?_)
  · obtain ⟨j, hj, rfl⟩ := there_five (stay_there hk)
    exact ex_item (exf f3.fr (x := "lines") (c := L + 2) rfl rfl g y) (ex_loc f rfl) (Int.natCast_nonneg j) (by omega) (fn_at hj)
  refine wpAny_execs_cons (fm_assign (s := { s with heap := g4, toks := tk4 }) hA f4 (ex_sum (fun k => wo k.toNat) f4.tk (src_lst (exc f4.fr (c := L + 9) (d := .lst ((stayI li c).map D.int)) rfl rfl)) (fun V' C h1 k g y hk f => ?_) (by omega)) fun g5 tk5 st5 f5 => ?_)
  · obtain ⟨j, hj, rfl⟩ := there_five (stay_there hk)
    exact ex_item (exf f4.fr (x := "worths") (c := L + 3) rfl rfl g y) (ex_loc f rfl) (Int.natCast_nonneg j) (by omega) (fn_at hj)
  -- table
  refine wpAny_execs_cons (fm_dcomp (s := { s with heap := g5, toks := tk5 }) (kfD li) (vfD li c) hA f5 (src_lst (exl f5.fr (d := .lst ((thereI li c).map D.int)) rfl)) (fun V' C cc h1 d v g y lv hd hcell rv => ?_) ?_ fun g6 tk6 st6 f6 => ?_)
  · obtain ⟨k, hk, rfl⟩ := List.mem_map.mp hd
    obtain ⟨j, hj, rfl⟩ := there_five hk
    have j0 := Int.natCast_nonneg j
    have j63 : (j : Int) < 2 ^ 63 := by omega
    have fr1 := f5.fr.grow g y lv
    have T1 := f5.tk.ext y
    refine ⟨ex_item (exf f5.fr (x := "texts") (c := L + 5) rfl rfl g y) (ex_name (ld_cell (c := cc) rfl hcell rfl rfl) rv) j0 j63 (d := .str (tx li j)) (by simp [hj]), ?_⟩
    refine ex_callB (ds := [.lst (((stayI li c).filter fun j' => li j'.toNat == li j).map D.int)]) (ld_len T1) (ExL.cons ?_ ExL.nil) (by
      have h := cl_lenL (prog := prog) (w := w) (n := 8) (h₀ := h1) (ds := ((stayI li c).filter fun j' => li j'.toNat == li j).map D.int) (by
        have := Nat.le_trans (List.length_filter_le (fun j' => li j'.toNat == li j) (stayI li c)) sl
        rw [List.length_map]; omega)
      rw [List.length_map] at h
      exact h)
    rw [← onI_map]
    refine ex_comp _ _ (src_lst (exf f5.fr (x := "stay") (c := L + 9) (d := .lst ((stayI li c).map D.int)) rfl rfl g y)) ⟨fun V'' C' h2 d g' y' hd f => ?_, fun V'' C' h2 d g' y' hd _ f => ?_⟩ (by rw [List.length_map]; omega)
    · obtain ⟨k', hk', rfl⟩ := List.mem_map.mp hd
      obtain ⟨j', hj', rfl⟩ := there_five (stay_there hk')
      exact Txs.one (tx_eqI (ex_item ((exf fr1 (x := "lines") (c := L + 2) rfl rfl g' y').bare f.live) ((ex_loc f rfl).bare f.live) (Int.natCast_nonneg j') (by omega) (fn_at hj')) (ex_item ((exf fr1 (x := "lines") (c := L + 2) rfl rfl g' y').bare f.live) ((ex_name (ld_cell (c := cc) rfl (hcell.keeps y') rfl rfl) (rv.grow g' y')).bare f.live) j0 j63 (fn_at hj)))
    · obtain ⟨k', _, rfl⟩ := List.mem_map.mp hd
      exact ex_loc f rfl
  · have := there_len li c
    rw [List.length_map]; omega
  -- if
  refine wpAny_execs_cons (st_if (n := 8) (s := { s with heap := g6, toks := tk6 }) (b := false) hA (tx_neCell (c := cellOf li wo 5 p.S c) ((ex_itemM (a := ca) (f6.mo (m := .lst (dL (cellOf li wo 5 p.S))) (by simp [mo3])) (exl f6.fr rfl) (exc f6.fr (c := L + 4) rfl rfl) c0 c63 (dL_get _ hc)).bare f6.live) (Ex.bare ?_ f6.live)) (fun e => nomatch e) fun _ g7 tk7 x7 => wpAny_execs_nil (wpAny_execs_nil ⟨rfl, g7, tk7, V', rfl, ?_, fun b hb => hb, ?_⟩))
  · have e : dT (cellOf li wo 5 p.S c) = .tup [.int ((stayI li c).length : Nat), .int ((stayI li c).map fun k => li k.toNat).sum, .int ((stayI li c).map fun k => wo k.toNat).sum, .int ((stayI li c).map fun k => (2 : Int) ^ k.toNat).sum, dC (tabOf (kfD li) (vfD li c) ((thereI li c).map D.int))] := by
      rw [ok.len, ok.low, ok.high, ok.pow, ok.tab]; rfl
    rw [e]
    refine ex_tuple (ExL.cons ?_ (ExL.cons (exl f6.fr rfl) (ExL.cons (exl f6.fr rfl) (ExL.cons (ex_sum (fun k => (2 : Int) ^ k.toNat) f6.tk (src_lst (exc f6.fr (c := L + 9) (d := .lst ((stayI li c).map D.int)) rfl rfl)) (fun V' C h1 k g y hk f => ?_) (by omega)) (ExL.cons (exl f6.fr rfl) ExL.nil)))))
    · refine ex_callB (ds := [.lst ((stayI li c).map D.int)]) (ld_len f6.tk) (ExL.cons (exc f6.fr (c := L + 9) rfl rfl) ExL.nil) ?_
      have h := cl_lenL (prog := prog) (w := w) (n := 8) (h₀ := g6) (ds := (stayI li c).map D.int) (by rw [List.length_map]; omega)
      rw [List.length_map] at h
      exact h
    · obtain ⟨j, hj, rfl⟩ := there_five (stay_there hk)
      refine ex_pow ex_int (ex_loc f rfl) (Int.natCast_nonneg j) ?_
      rw [show Builtin.Int.intBits 2 = 2 from by decide]; omega
  · exact st2.trans (st3.trans (st4.trans (st5.trans (st6.trans (x7.stay _)))))
  · exact (f6.ext x7).sub (fun y d h => lookup_one h rfl) (fun y d h => lookup_cons' h rfl fun h => lookup_four h rfl rfl rfl rfl) (List.Sublist.refl _)
end
end Mine
end
noncomputable section -- D6
open PySem PySem.W PyProof.Rows
set_option maxRecDepth 100000
set_option linter.unusedVariables false
namespace Mine
section
variable (li wo : Nat → Int)
def Stops (S : Nat → Bool) : Prop := ∀ c, c < 6 → sumC li S c one ≠ 1
theorem sum_mono {T S : Nat → Bool} (h : ∀ k, T k = true → S k = true) (c : Nat) : sumC li T c one ≤ sumC li S c one := by
  have key : ∀ k, (if (T k && inC li k c) = true then (1 : Int) else 0) ≤ if (S k && inC li k c) = true then 1 else 0 := fun k => by
    have := h k
    cases hT : T k <;> cases hS : S k <;> cases hi : inC li k c <;> simp_all
  have h0 := key 0
  have h1 := key 1
  have h2 := key 2
  have h3 := key 3
  have h4 := key 4
  unfold sumC one
  omega
theorem sum_pos {T : Nat → Bool} {c k : Nat} (hk : k < 5) (hT : T k = true) (hc : inC li k c = true) : 1 ≤ sumC li T c one := by
  have key : ∀ k, 0 ≤ if (T k && inC li k c) = true then (1 : Int) else 0 := fun k => by split <;> omega
  have h0 := key 0
  have h1 := key 1
  have h2 := key 2
  have h3 := key 3
  have h4 := key 4
  have e : (T k && inC li k c) = true := by simp [hT, hc]
  refine five (P := fun k => (T k && inC li k c) = true → 1 ≤ sumC li T c one) ?_ ?_ ?_ ?_ ?_ k hk e <;> intro e <;> unfold sumC one <;> rw [if_pos e] <;> omega
theorem sum_same {T S : Nat → Bool} (h : ∀ k, k < 5 → T k = S k) (c : Nat) (g : Nat → Int) : sumC li T c g = sumC li S c g := by
  unfold sumC
  rw [h 0 (by decide), h 1 (by decide), h 2 (by decide), h 3 (by decide), h 4 (by decide)]
/-- a stopping set stays -/
theorem keep1 {T : Nat → Bool} (hT : Stops li T) {p : Pst} (h : ∀ k, T k = true → p.S k = true) {c : Nat} (hc : c < 6) : ∀ k, T k = true → (peel1 li wo p c).S k = true := by
  intro k hk
  unfold peel1
  by_cases h1 : sumC li p.S c one = 1
  · rw [if_pos h1]
    obtain ⟨hq5, hSq, hqc, _⟩ := pick_spec li p.S c h1
    show (p.S k && k != pickK li p.S c) = true
    rw [h k hk, Bool.true_and]
    by_cases e : k = pickK li p.S c
    · exfalso
      have hTq : T (pickK li p.S c) = true := e ▸ hk
      have a1 := sum_pos li hq5 hTq hqc
      have a2 := sum_mono li h c
      exact hT c hc (by omega)
    · simpa using e
  · rw [if_neg h1]; exact h k hk
theorem keepC {T : Nat → Bool} (hT : Stops li T) {p : Pst} (h : ∀ k, T k = true → p.S k = true) : ∀ n, n ≤ 6 → ∀ k, T k = true → (peelC li wo p n).S k = true
  | 0, _ => h
  | n + 1, hn => keep1 li wo hT (keepC hT h n (by omega)) (by omega)
theorem keepT {T : Nat → Bool} (hT : Stops li T) (h : ∀ k, T k = true → k < 5) : ∀ t, ∀ k, T k = true → (peelT li wo t).S k = true
  | 0 => fun k hk => by simpa [peelT, below] using h k hk
  | t + 1 => keepC li wo hT (keepT hT h t) 6 (by decide)
def sz (S : Nat → Bool) : Nat := (if S 0 then 1 else 0) + (if S 1 then 1 else 0) + (if S 2 then 1 else 0) + (if S 3 then 1 else 0) + (if S 4 then 1 else 0)
theorem sz_minus {S : Nat → Bool} {k : Nat} (hk : k < 5) (hS : S k = true) : sz (minus S k) < sz S := by
  refine five (P := fun k => S k = true → sz (minus S k) < sz S) ?_ ?_ ?_ ?_ ?_ k hk hS <;> intro hS <;> simp only [sz, minus, hS] <;> simp <;> omega
theorem sz_peel1 (p : Pst) (c : Nat) : (peel1 li wo p c = p ∧ sumC li p.S c one ≠ 1) ∨ sz (peel1 li wo p c).S < sz p.S := by
  unfold peel1
  by_cases h1 : sumC li p.S c one = 1
  · rw [if_pos h1]
    obtain ⟨hq5, hSq, _, _⟩ := pick_spec li p.S c h1
    exact .inr (sz_minus hq5 hSq)
  · rw [if_neg h1]; exact .inl ⟨rfl, h1⟩
theorem sz_peelC (p : Pst) : ∀ n, (peelC li wo p n = p ∧ ∀ c, c < n → sumC li p.S c one ≠ 1) ∨ sz (peelC li wo p n).S < sz p.S
  | 0 => .inl ⟨rfl, fun c h => absurd h (Nat.not_lt_zero _)⟩
  | n + 1 => by
    have h1 := sz_peel1 li wo (peelC li wo p n) n
    rcases sz_peelC p n with ⟨e, h⟩ | h
    · rw [peelC]
      rw [e] at h1 ⊢
      rcases h1 with ⟨e1, h2⟩ | h2
      · refine .inl ⟨e1, fun c hc => ?_⟩
        rcases Nat.lt_succ_iff_lt_or_eq.mp hc with hc | rfl
        · exact h c hc
        · exact h2
      · exact .inr h2
    · rw [peelC]
      rcases h1 with ⟨e1, _⟩ | h2
      · rw [e1]; exact .inr h
      · exact .inr (by omega)
theorem sz_peelT : ∀ t, Stops li (peelT li wo t).S ∨ sz (peelT li wo t).S + t ≤ 5
  | 0 => .inr (by show sz (below 5) + 0 ≤ 5; decide)
  | t + 1 => by
    rw [peelT]
    rcases sz_peelC li wo (peelT li wo t) 6 with ⟨e, h⟩ | h
    · rw [e]; exact .inl h
    · rcases sz_peelT t with hs | hs
      · have : peelC li wo (peelT li wo t) 6 = peelT li wo t := by
          have key : ∀ n, n ≤ 6 → peelC li wo (peelT li wo t) n = peelT li wo t := by
            intro n
            induction n with
            | zero => intro _; rfl
            | succ n ih =>
              intro hn
              rw [peelC, ih (by omega), peel1, if_neg (hs n (by omega))]
          exact key 6 (by decide)
        rw [this]; exact .inl hs
      · exact .inr (by omega)
theorem end_stops : Stops li (peelT li wo 5).S := by
  rcases sz_peelT li wo 5 with h | h
  · exact h
  · have h0 : sz (peelT li wo 5).S = 0 := by omega
    generalize (peelT li wo 5).S = S at h0 ⊢
    have : ∀ k, k < 5 → S k = false := by
      unfold sz at h0
      refine five ?_ ?_ ?_ ?_ ?_
      · cases h : S 0 with
        | false => rfl
        | true => rw [h] at h0; simp at h0
      · cases h : S 1 with
        | false => rfl
        | true => rw [h] at h0; simp at h0
      · cases h : S 2 with
        | false => rfl
        | true => rw [h] at h0; simp at h0
      · cases h : S 3 with
        | false => rfl
        | true => rw [h] at h0; simp at h0
      · cases h : S 4 with
        | false => rfl
        | true => rw [h] at h0; simp at h0
    intro c _
    rw [sum_same li (T := S) (S := fun _ => false) this]
    simp [sumC]
/-! the core -/
def Ti (i : Nat) : Nat → Bool := fun k => decide (k < 5) && bitp i k
theorem bits_all : ∀ b0 b1 b2 b3 b4 : Bool, ∃ i : Fin 32, bitp i.val 0 = b0 ∧ bitp i.val 1 = b1 ∧ bitp i.val 2 = b2 ∧ bitp i.val 3 = b3 ∧ bitp i.val 4 = b4 := by decide +kernel
theorem Ti_all (S : Nat → Bool) : ∃ i, i < 32 ∧ ∀ k, k < 5 → Ti i k = S k := by
  obtain ⟨i, h0, h1, h2, h3, h4⟩ := bits_all (S 0) (S 1) (S 2) (S 3) (S 4)
  exact ⟨i.val, i.isLt, five (by simpa [Ti] using h0) (by simpa [Ti] using h1) (by simpa [Ti] using h2) (by simpa [Ti] using h3) (by simpa [Ti] using h4)⟩
theorem chosen_mem {i k : Nat} : (k : Int) ∈ chosenI i ↔ Ti i k = true := by
  unfold chosenI Ti
  rw [List.mem_filter, five5_mem]
  constructor
  · rintro ⟨⟨n, hn, e⟩, hb⟩
    have : k = n := by omega
    subst this
    simp [hn, hb]
  · intro h
    simp only [Bool.and_eq_true, decide_eq_true_eq] at h
    exact ⟨⟨k, h.1, rfl⟩, h.2⟩
theorem filter_sum (P : Int → Bool) (g : Int → Int) : ∀ l : List Int, ((l.filter P).map g).sum = (l.map fun k => if P k then g k else 0).sum
  | [] => rfl
  | x :: l => by
    have ih := filter_sum P g l
    cases h : P x with
    | true => simp [h, ih]
    | false => simp [h, ih]
theorem five_sum (g : Int → Int) : (five5.map g).sum = g 0 + g 1 + g 2 + g 3 + g 4 := by
  simp [five5, List.range_succ]; omega
theorem tally_sum (c : Nat) : ∀ (ks : List Int) (f : Nat → Int), (ks.foldl (tstep li) f) c = f c + (ks.map fun k => if inC li k.toNat c then (1 : Int) else 0).sum
  | [], f => by simp
  | k :: ks, f => by
    rw [List.foldl_cons, tally_sum c ks]
    simp only [tstep, List.map_cons, List.sum_cons]
    omega
theorem tally_is (i c : Nat) : tallyF li (chosenI i) c = sumC li (Ti i) c one := by
  rw [tallyF, tally_sum, chosenI, filter_sum, five_sum]
  have key : ∀ k : Nat, k < 5 → (if bitp i (k : Int) = true then (if inC li ((k : Int)).toNat c = true then (1 : Int) else 0) else 0) = if (Ti i k && inC li k c) = true then 1 else 0 := fun k hk => by
    rw [show ((k : Nat) : Int).toNat = k from rfl]
    unfold Ti
    cases bitp i k <;> cases inC li k c <;> simp [hk]
  have h0 : (if bitp i 0 = true then (if inC li (0 : Int).toNat c = true then (1 : Int) else 0) else 0) = if (Ti i 0 && inC li 0 c) = true then 1 else 0 := key 0 (by decide)
  have h1 : (if bitp i 1 = true then (if inC li (1 : Int).toNat c = true then (1 : Int) else 0) else 0) = if (Ti i 1 && inC li 1 c) = true then 1 else 0 := key 1 (by decide)
  have h2 : (if bitp i 2 = true then (if inC li (2 : Int).toNat c = true then (1 : Int) else 0) else 0) = if (Ti i 2 && inC li 2 c) = true then 1 else 0 := key 2 (by decide)
  have h3 : (if bitp i 3 = true then (if inC li (3 : Int).toNat c = true then (1 : Int) else 0) else 0) = if (Ti i 3 && inC li 3 c) = true then 1 else 0 := key 3 (by decide)
  have h4 : (if bitp i 4 = true then (if inC li (4 : Int).toNat c = true then (1 : Int) else 0) else 0) = if (Ti i 4 && inC li 4 c) = true then 1 else 0 := key 4 (by decide)
  rw [h0, h1, h2, h3, h4, Int.zero_add]
  rfl
theorem stop_iff (i : Nat) : stopI li i = true ↔ Stops li (Ti i) := by
  unfold stopI Stops
  rw [Bool.not_eq_true', List.any_eq_false]
  constructor
  · intro h c hc e
    have hm : tallyF li (chosenI i) c ∈ tallyL (tallyF li (chosenI i)) := List.mem_map.mpr ⟨c, List.mem_range.mpr hc, rfl⟩
    exact h _ hm (by rw [tally_is, e]; rfl)
  · intro h x hx e
    obtain ⟨c, hc, rfl⟩ := List.mem_map.mp hx
    have hc := List.mem_range.mp hc
    exact h c hc (by rw [← tally_is]; simpa using e)
theorem core_mem (k : Int) : ∀ n, k ∈ coreI li n ↔ ∃ i, i < n ∧ stopI li i = true ∧ k ∈ chosenI i
  | 0 => by simp [coreI]
  | n + 1 => by
    have ih := core_mem k n
    rw [coreI]
    by_cases hs : stopI li n = true
    · rw [if_pos hs, List.mem_append, ih, List.mem_filter]
      constructor
      · rintro (⟨i, hi, h⟩ | ⟨h, _⟩)
        · exact ⟨i, by omega, h⟩
        · exact ⟨n, by omega, hs, h⟩
      · rintro ⟨i, hi, h1, h2⟩
        rcases Nat.lt_succ_iff_lt_or_eq.mp hi with hi | rfl
        · exact .inl ⟨i, hi, h1, h2⟩
        · by_cases hk : k ∈ coreI li i
          · exact .inl (ih.mp hk)
          · refine .inr ⟨h2, ?_⟩
            rw [Bool.not_eq_true', List.any_eq_false]
            intro x hx e
            exact hk (by have : x = k := by simpa using e
                         exact this ▸ hx)
    · rw [if_neg hs, ih]
      constructor
      · rintro ⟨i, hi, h⟩; exact ⟨i, by omega, h⟩
      · rintro ⟨i, hi, h1, h2⟩
        rcases Nat.lt_succ_iff_lt_or_eq.mp hi with hi | rfl
        · exact ⟨i, hi, h1, h2⟩
        · exact absurd h1 hs
theorem peelS_below : ∀ t, ∀ k, (peelT li wo t).S k = true → k < 5 := by
  have p1 : ∀ (p : Pst) c, (∀ k, p.S k = true → k < 5) → ∀ k, (peel1 li wo p c).S k = true → k < 5 := by
    intro p c h k hk
    unfold peel1 at hk
    split at hk
    · have : (p.S k && k != pickK li p.S c) = true := hk
      simp only [Bool.and_eq_true] at this
      exact h k this.1
    · exact h k hk
  have pC : ∀ (p : Pst), (∀ k, p.S k = true → k < 5) → ∀ n k, (peelC li wo p n).S k = true → k < 5 := by
    intro p h n
    induction n with
    | zero => exact h
    | succ n ih => exact p1 _ _ ih
  intro t
  induction t with
  | zero => intro k hk; simpa [peelT, below] using hk
  | succ t ih => exact pC _ ih 6
/-- what is left is the core -/
theorem core_is (k : Nat) (hk : k < 5) : (coreI li 32).any (· == (k : Int)) = (peelT li wo 5).S k := by
  rw [Bool.eq_iff_iff, List.any_eq_true]
  constructor
  · rintro ⟨x, hx, e⟩
    have : x = (k : Int) := by simpa using e
    subst this
    obtain ⟨i, _, hs, hc⟩ := (core_mem li _ 32).mp hx
    refine keepT li wo ((stop_iff li i).mp hs) (fun k hk => ?_) 5 k (chosen_mem.mp hc)
    unfold Ti at hk
    simp only [Bool.and_eq_true, decide_eq_true_eq] at hk
    exact hk.1
  · intro hS
    obtain ⟨i, hi, he⟩ := Ti_all (peelT li wo 5).S
    refine ⟨(k : Int), (core_mem li _ 32).mpr ⟨i, hi, (stop_iff li i).mpr fun c hc => ?_, chosen_mem.mpr ((he k hk).trans hS)⟩, by simp⟩
    rw [sum_same li he]
    exact end_stops li wo c hc
end
end Mine
end
noncomputable section -- D7
open PySem PySem.W PyProof.Rows
set_option maxRecDepth 100000
set_option linter.unusedVariables false
namespace Mine
section
variable (li wo : Nat → Int)
/-- what has been read -/
def Inv (p : Pst) : Prop := ∃ ks : List Nat, p.F = ks.map (trip li wo) ∧ ks.Nodup ∧ (∀ k, k ∈ ks ↔ k < 5 ∧ p.S k = false)
theorem inv1 {p : Pst} (h : Inv li wo p) (c : Nat) : Inv li wo (peel1 li wo p c) := by
  obtain ⟨ks, hF, hn, hm⟩ := h
  unfold peel1
  by_cases h1 : sumC li p.S c one = 1
  · rw [if_pos h1]
    obtain ⟨hq5, hSq, _, _⟩ := pick_spec li p.S c h1
    generalize pickK li p.S c = q at *
    have hq : q ∉ ks := fun m => by have := (hm q).mp m; rw [hSq] at this; cases this.2
    refine ⟨ks ++ [q], by simp [hF], ?_, fun k => ?_⟩
    · rw [List.nodup_append]
      exact ⟨hn, by simp, fun a ha b hb e => hq (by rw [List.mem_singleton.mp hb] at e; exact e ▸ ha)⟩
    · rw [List.mem_append, hm, List.mem_singleton]
      show _ ↔ k < 5 ∧ (p.S k && k != q) = false
      by_cases e : k = q
      · subst e; simp [hq5]
      · have : (k != q) = true := by simpa using e
        rw [this, Bool.and_true]
        constructor
        · rintro (h | h)
          · exact h
          · exact absurd h e
        · exact .inl
  · rw [if_neg h1]; exact ⟨ks, hF, hn, hm⟩
theorem invC {p : Pst} (h : Inv li wo p) : ∀ n, Inv li wo (peelC li wo p n)
  | 0 => h
  | n + 1 => inv1 li wo (invC h n) n
theorem invT : ∀ t, Inv li wo (peelT li wo t)
  | 0 => ⟨[], rfl, List.nodup_nil, fun k => by simp [peelT, below]⟩
  | t + 1 => invC li wo (invT t) 6
theorem pow_inj5 : ∀ a b : Fin 5, (2 : Int) ^ a.val = 2 ^ b.val → a = b := by decide
theorem read_all : (peelT li wo 5).F.Perm (restT li wo) ∧ (peelT li wo 5).F.Nodup ∧ (peelT li wo 5).F.length ≤ 5 := by
  obtain ⟨ks, hF, hn, hm⟩ := invT li wo 5
  have hp : ks.Perm ((List.range 5).filter fun k => !(peelT li wo 5).S k) := by
    refine (List.perm_ext_iff_of_nodup hn (List.nodup_range.filter _)).mpr fun k => ?_
    rw [hm, List.mem_filter, List.mem_range]
    simp
  have hr : restT li wo = ((List.range 5).filter fun k => !(peelT li wo 5).S k).map (trip li wo) := by
    unfold restT restI five5
    rw [List.filter_map, List.map_map]
    have e : (List.range 5).filter ((fun k => !(coreI li 32).any (· == k)) ∘ fun (k : Nat) => (k : Int)) = (List.range 5).filter fun k => !(peelT li wo 5).S k := by
      refine List.filter_congr fun k hk => ?_
      simp only [Function.comp_def]
      rw [core_is li wo k (List.mem_range.mp hk)]
    rw [e]
    rfl
  refine ⟨?_, ?_, ?_⟩
  · rw [hF, hr]; exact hp.map _
  · rw [hF, List.nodup_iff_pairwise_ne, List.pairwise_map]
    refine List.Pairwise.imp_of_mem ?_ (List.nodup_iff_pairwise_ne.mp hn)
    intro a b ha hb hne e
    have ha := ((hm a).mp ha).1
    have hb := ((hm b).mp hb).1
    have e' : (2 : Int) ^ a = 2 ^ b := (Prod.mk.inj (Prod.mk.inj e).2).2
    have := pow_inj5 ⟨a, ha⟩ ⟨b, hb⟩ e'
    exact hne (by simpa using this)
  · rw [hF, List.length_map, hp.length_eq]
    exact Nat.le_trans (List.length_filter_le _ _) (by simp)
section
variable {S : Nat → Bool} (hS : ∀ k : Nat, k < 5 → (coreI li 32).any (· == (k : Int)) = S k)
theorem there_is (k c : Nat) : [((e1 li k : Nat) : Int), ((e2 li k : Nat) : Int)].any (· == (c : Int)) = inC li k c := by
  unfold inC
  rw [Bool.eq_iff_iff]
  simp
  omega
theorem len_sum (l : List Int) : (l.length : Int) = (l.map fun _ => (1 : Int)).sum := by
  induction l with
  | nil => rfl
  | cons x l ih => simp only [List.length_cons, List.map_cons, List.sum_cons]; omega
include hS
theorem stay_sum (c : Nat) (R : Int → Bool) (R' : Nat → Bool) (hR : ∀ k : Nat, k < 5 → R (k : Int) = R' k) (g : Int → Int) : (((stayI li c).filter R).map g).sum = sumC li (fun k => S k && R' k) c fun k => g k := by
  unfold stayI thereI
  rw [List.filter_filter, List.filter_filter, filter_sum, five_sum]
  have key : ∀ k : Nat, k < 5 → (if (R (k : Int) && (coreI li 32).any (· == (k : Int)) && [((e1 li ((k : Int)).toNat : Nat) : Int), ((e2 li ((k : Int)).toNat : Nat) : Int)].any (· == (c : Int))) = true then g k else 0) = if (S k && R' k && inC li k c) = true then g k else 0 := fun k hk => by
    rw [show ((k : Nat) : Int).toNat = k from rfl, there_is, hS k hk, hR k hk]
    cases S k <;> cases R' k <;> rfl
  have h0 := key 0 (by decide)
  have h1 := key 1 (by decide)
  have h2 := key 2 (by decide)
  have h3 := key 3 (by decide)
  have h4 := key 4 (by decide)
  unfold sumC
  rw [← h0, ← h1, ← h2, ← h3, ← h4]
  rfl
theorem stay_sum' (c : Nat) (g : Int → Int) : ((stayI li c).map g).sum = sumC li S c fun k => g k := by
  have h := stay_sum li hS c (fun _ => true) (fun _ => true) (fun _ _ => rfl) g
  rw [List.filter_eq_self.mpr fun _ _ => rfl] at h
  rw [h]
  simp
theorem vf_is (hb : ∀ k, 0 ≤ li k ∧ li k < 100) (c k : Nat) : vfD li c (.int k) = countC li S c (tx li k) := by
  show ((((stayI li c).filter fun j => li j.toNat == li k).length : Nat) : Int) = _
  rw [len_sum, stay_sum li hS c (fun j => li j.toNat == li k) (fun j => tx li j == tx li k) (fun j _ => ?_) (fun _ => 1)]
  · rfl
  · rw [show ((j : Nat) : Int).toNat = j from rfl, Bool.eq_iff_iff]
    simp only [beq_iff_eq]
    constructor
    · intro e; unfold tx; rw [e]
    · intro e; exact text_inj _ _ (hb j).1 (hb j).2 (hb k).1 (hb k).2 e
theorem tab_is (hb : ∀ k, 0 ≤ li k ∧ li k < 100) (c : Nat) : tabOf (kfD li) (vfD li c) ((thereI li c).map D.int) = kvOf li 5 S c := by
  have key : ∀ n, tabOf (kfD li) (vfD li c) ((((List.range n).map fun (k : Nat) => (k : Int)).filter fun k => [((e1 li k.toNat : Nat) : Int), ((e2 li k.toNat : Nat) : Int)].any (· == (c : Int))).map D.int) = (keysIn li c n).map fun t => (t, countC li S c t) := by
    intro n
    induction n with
    | zero => rfl
    | succ n ih =>
      rw [List.range_succ, List.map_append, List.filter_append, List.map_append]
      have ht := there_is li n c
      cases hc : inC li n c with
      | true =>
        rw [hc] at ht
        have e : ((([n].map fun (k : Nat) => (k : Int)).filter fun k => [((e1 li k.toNat : Nat) : Int), ((e2 li k.toNat : Nat) : Int)].any (· == (c : Int))).map D.int) = [D.int n] := by
          simp only [List.map_cons, List.map_nil, List.filter_cons]
          rw [show ((n : Nat) : Int).toNat = n from rfl, ht]
          rfl
        rw [e, tabOf_snoc, ih, show kfD li (D.int (n : Int)) = tx li n from rfl, vf_is li hS hb]
        have ha : (((keysIn li c n).map fun t => (t, countC li S c t)).any fun p => p.1 = tx li n) = decide (tx li n ∈ keysIn li c n) := kv_any li n S c (tx li n)
        unfold setC
        rw [ha]
        by_cases hm : tx li n ∈ keysIn li c n
        · have ek : keysIn li c (n + 1) = keysIn li c n := by rw [keysIn]; simp [hm]
          rw [if_pos (by simpa using hm), ek, List.map_map]
          refine List.map_congr_left fun t _ => ?_
          simp only [Function.comp_def]
          by_cases h : t = tx li n
          · simp [h]
          · simp [h]
        · have ek : keysIn li c (n + 1) = keysIn li c n ++ [tx li n] := by rw [keysIn]; simp [hm, hc]
          rw [if_neg (by simpa using hm), ek, List.map_append]
          rfl
      | false =>
        rw [hc] at ht
        have e : ((([n].map fun (k : Nat) => (k : Int)).filter fun k => [((e1 li k.toNat : Nat) : Int), ((e2 li k.toNat : Nat) : Int)].any (· == (c : Int))).map D.int) = [] := by
          simp only [List.map_cons, List.map_nil, List.filter_cons]
          rw [show ((n : Nat) : Int).toNat = n from rfl, ht]
          rfl
        have ek : keysIn li c (n + 1) = keysIn li c n := by rw [keysIn]; simp [hc]
        rw [e, List.append_nil, ih, ek]
  exact key 5
end
/-- each cell as the law asks -/
theorem cell_ok (hb : ∀ k, 0 ≤ li k ∧ li k < 100) (c : Nat) : CellOk li wo (peelT li wo 5).S c := by
  have hS : ∀ k : Nat, k < 5 → (coreI li 32).any (· == (k : Int)) = (peelT li wo 5).S k := fun k hk => core_is li wo k hk
  refine ⟨?_, ?_, ?_, ?_, tab_is li hS hb c⟩
  · rw [len_sum, stay_sum' li hS c]
  · rw [stay_sum' li hS c]; rfl
  · rw [stay_sum' li hS c]; rfl
  · rw [stay_sum' li hS c]; rfl
end
end Mine
end
noncomputable section -- W9
open PySem PySem.W PyProof.Rows
set_option maxRecDepth 100000
set_option linter.unusedVariables false
namespace Mine
section
variable {prog : Program} {w : World} {n : Nat} {env : Env} {h₀ h₁ : Heap} {V W : List Addr} {ρ κ : List (Str × D)} {μ : List (Addr × Mo)} {L fa : Addr} {cd : Value} {A : Around} {s : Shared} {Q : Flow → Shared → Prop} {E : Value → Shared → Prop}
theorem body_eq : dBody (gdef 9) = [lawS 0, lawS 1, lawS 2, lawS 3, lawS 4, lawS 5, lawS 6, lawS 7, lawS 8, lawS 9, lawS 10, lawS 11, lawS 12, lawS 13, lawS 14, lawS 15] := rfl
theorem ext_stay {X : List Addr} {a b : Heap} (x : Ext h₀ a) (st : Stay X a b) (hX : ∀ p ∈ X, h₀.get? p = none) : Ext h₀ b := fun p o e => st p o (fun m => by rw [hX p m] at e; cases e) (x p o e)
theorem new_none {a : Addr} (x : Ext h₀ h₁) (h : h₁.get? a = none) : h₀.get? a = none := by
  cases e : h₀.get? a with
  | none => rfl
  | some o => rw [x _ _ e] at h; cases h
theorem law_body {ns : List Int} (hA : AOk 8 A) (l : Fm prog w (lawEnv L fa cd) s.heap V ρ κ []) (hs : Has κ "script" (.lst (ns.map D.int))) (hn : ns.length ≤ 63) (x0 : Ext h₀ s.heap) (hV : ∀ b ∈ V, h₀.get? b = none)
    (k : ∀ h' tk, Ext h₀ h' → Q (.ret (.bool true)) { s with heap := h', toks := tk }) : wpAny (model prog w) A (execs (dBody (gdef 9)) (lawEnv L fa cd)) Q E s := by
  rw [body_eq]
  have hb : ∀ k : Nat, 0 ≤ (drawn ns k).fmod 100 ∧ (drawn ns k).fmod 100 < 100 := fun k => ⟨Int.fmod_nonneg_of_pos _ (by decide), Int.fmod_lt_of_pos _ (by decide)⟩
  refine wpAny_execs_cons (w0 hA l hs hn fun g0 tk0 st0 f0 => ?_)
  have y0 := ext_stay x0 st0 fun p hp => hV p (l.fp p hp)
  refine wpAny_execs_cons (w1 (s := { s with heap := g0, toks := tk0 }) (xs := (List.range 5).map fun (i : Nat) => drawn ns i) hA f0 rfl (by simp) fun g1 tk1 st1 f1 => ?_)
  have y1 := ext_stay y0 st1 fun p hp => hV p (f0.fp p hp)
  refine wpAny_execs_cons (w2 (s := { s with heap := g1, toks := tk1 }) (xs := (List.range 5).map fun (i : Nat) => drawn ns i) hA f1 rfl (by simp) fun g2 tk2 st2 f2 => ?_)
  have y2 := ext_stay y1 st2 fun p hp => hV p (f1.fp p hp)
  rw [List.map_map, List.map_map] at f2
  generalize hli : (fun k : Nat => (drawn ns k).fmod 100) = li at *
  generalize hwo : (fun k : Nat => clamp ((drawn ns k).fdiv 100)) = wo at *
  have hb' : ∀ k, 0 ≤ li k ∧ li k < 100 := by rw [← hli]; exact hb
  have f2' : Fm prog w (lawEnv L fa cd) g2 V [("drawn", .lst (((List.range 5).map fun (i : Nat) => drawn ns i).map D.int))] [("worths", ints5 wo), ("lines", ints5 li)] [] := by
    rw [← hli, ← hwo]
    exact f2.sub (fun y d h => lookup_one h rfl) (fun y d h => lookup_two h rfl rfl) (List.Sublist.refl _)
  refine wpAny_execs_cons (w3 (s := { s with heap := g2, toks := tk2 }) hA f2' fun a g3 tk3 ha st3 f3 => ?_)
  have y3 := ext_stay y2 st3 fun p hp => hV p (f2'.fp p hp)
  have na : h₀.get? a = none := new_none y2 ha
  have hV3 : ∀ p ∈ a :: V, h₀.get? p = none := fun p hp => (List.mem_cons.mp hp).elim (fun e => e ▸ na) (hV p)
  refine wpAny_execs_cons (w4 (s := { s with heap := g3, toks := tk3 }) hA f3 fun b g4 tk4 hb4 st4 f4 => ?_)
  have y4 := ext_stay y3 st4 fun p hp => hV3 p (f3.fp p hp)
  have nb : h₀.get? b = none := new_none y3 hb4
  have hV4 : ∀ p ∈ b :: a :: V, h₀.get? p = none := fun p hp => (List.mem_cons.mp hp).elim (fun e => e ▸ nb) (hV3 p)
  refine wpAny_execs_cons (w5 (s := { s with heap := g4, toks := tk4 }) (li := li) (wo := wo) (a := a) (b := b) hb' hA f4 rfl rfl rfl rfl fun g5 tk5 st5 f5 => ?_)
  have y5 := ext_stay y4 st5 fun p hp => hV4 p (f4.fp p hp)
  refine wpAny_execs_cons (w6 (s := { s with heap := g5, toks := tk5 }) hA f5 fun c g6 tk6 hc6 st6 f6 => ?_)
  have y6 := ext_stay y5 st6 fun p hp => hV4 p (f5.fp p hp)
  have nc : h₀.get? c = none := new_none y5 hc6
  have hV6 : ∀ p ∈ c :: b :: a :: V, h₀.get? p = none := fun p hp => (List.mem_cons.mp hp).elim (fun e => e ▸ nc) (hV4 p)
  have f6' : Fm prog w (lawEnv L fa cd) g6 (c :: b :: a :: V) [("found", .raw (.ref c)), ("cells", .raw (.ref a)), ("where", .raw (.ref b))] [("lines", ints5 li), ("worths", ints5 wo)] (mo3 li wo a b c (peelT li wo 0)) := f6.perm ((List.Perm.swap ..).trans ((List.Perm.cons _ (List.Perm.swap ..)).trans (List.Perm.swap ..)))
  refine wpAny_execs_cons (w7 (s := { s with heap := g6, toks := tk6 }) hA f6' rfl rfl rfl rfl rfl fun g7 tk7 st7 f7 => ?_)
  have y7 := ext_stay y6 st7 fun p hp => hV6 p (f6'.fp p hp)
  refine wpAny_execs_cons (w8 (s := { s with heap := g7, toks := tk7 }) (li := li) hb' hA f7 rfl fun g8 tk8 st8 f8 => ?_)
  have y8 := ext_stay y7 st8 fun p hp => hV6 p (f7.fp p hp)
  refine wpAny_execs_cons (w9 (s := { s with heap := g8, toks := tk8 }) (li := li) hb' hA f8 rfl fun g9 tk9 st9 f9 => ?_)
  have y9 := ext_stay y8 st9 fun p hp => hV6 p (f8.fp p hp)
  refine wpAny_execs_cons (w10 (s := { s with heap := g9, toks := tk9 }) (li := li) hb' hA f9 rfl fun g10 tk10 st10 f10 => ?_)
  have y10 := ext_stay y9 st10 fun p hp => hV6 p (f9.fp p hp)
  refine wpAny_execs_cons (w11 (s := { s with heap := g10, toks := tk10 }) hA f10 fun g11 tk11 st11 f11 => ?_)
  have y11 := ext_stay y10 st11 fun p hp => hV6 p (f10.fp p hp)
  refine wpAny_execs_cons (w12 (s := { s with heap := g11, toks := tk11 }) (li := li) (wo := wo) (ca := a) (wa := b) (fo := c) hA f11 rfl rfl rfl rfl rfl rfl rfl rfl fun g12 tk12 st12 f12 => ?_)
  have y12 := ext_stay y11 st12 fun p hp => hV6 p (f11.fp p hp)
  obtain ⟨r1, r2, r3⟩ := read_all li wo
  refine wpAny_execs_cons (w13 (s := { s with heap := g12, toks := tk12 }) (li := li) (wo := wo) (ca := a) (wa := b) (fo := c) (p := peelT li wo 5) r1 r2 r3 hA f12 rfl rfl rfl rfl fun g13 tk13 x13 => ?_)
  have f13 := f12.ext x13
  have y13 := y12.trans x13
  refine wpAny_execs_cons (w14 (s := { s with heap := g13, toks := tk13 }) (li := li) (wo := wo) (ca := a) (wa := b) (fo := c) (p := peelT li wo 5) (fun c _ => cell_ok li wo hb' c) hA f13 rfl rfl rfl rfl rfl rfl fun g14 tk14 st14 _ => ?_)
  have y14 := ext_stay y13 st14 fun p hp => hV6 p (f13.fp p hp)
  exact wpAny_execs_cons (wpAny_Return_some (wpAny_Constant_bool (k g14 tk14 y14)))
end
end Mine
end
noncomputable section -- Hd
open PySem PySem.W PyProof.Rows
namespace Mine
set_option maxRecDepth 100000 in
set_option maxHeartbeats 8000000 in
open_top hd for PySem.Challenge.rw_pg0034_01
end Mine
end
noncomputable section -- J1
open PySem PySem.W PyProof.Rows
set_option maxRecDepth 100000
set_option linter.unusedVariables false
namespace Mine
theorem def_at {P : Params} {h : Heap} (X : (hd.heap_39 P).In h) {f i : Nat} {o : Obj} {pm : Value} {cd : Addr} (e1 : (hd.heap_39 P).lookup f = some o) (e2 : o.data = .func (fdAt i pm cd)) (e3 : codeIn (hd.heap_39 P) (.ref cd) (dName (gdef i)) = true) : DefAt h f i :=
  ⟨o, pm, cd, X _ _ e1, e2, codeRec_of X e3⟩
theorem top_ok {P : Params} {h : Heap} {mg mb : Str → Option Value} (X : (hd.heap_39 P).In h) (g : h.Ns mainGlobals mg) (b : h.Ns builtinsNs mb) (bb : ∀ x : Str, x ≠ "__name__" → mb x = bootBuiltins x) (lim : h.NoLimit) : TopOk h := by
  have none_of : ∀ x ∈ (["range", "sum", "max", "min", "ord", "str", "len", "sorted", "isinstance", "tuple", "zip"] : List Str), mg x = none := by
    intro x hx
    simp only [List.mem_cons, List.not_mem_nil, or_false] at hx
    rcases hx with rfl | rfl | rfl | rfl | rfl | rfl | rfl | rfl | rfl | rfl | rfl <;> exact mg_none_of X g rfl
  refine ⟨lim, def_at X rfl rfl rfl, def_at X rfl rfl rfl, def_at X rfl rfl rfl, def_at X rfl rfl rfl, def_at X rfl rfl rfl, def_at X rfl rfl rfl, mg, mb, g, b, mg_of X g rfl, mg_of X g rfl, mg_of X g rfl, mg_of X g rfl, mg_of X g rfl, mg_of X g rfl, none_of, ?_⟩
  refine ⟨?_, ?_, ?_, ?_, ?_, ?_, ?_, ?_, ?_, ?_⟩ <;> (rw [bb _ (by decide)]; decide +kernel)
end Mine
end
noncomputable section -- J2
open PySem PySem.W PyProof.Rows
set_option maxRecDepth 100000
set_option linter.unusedVariables false
namespace Mine
theorem rp_ints {prog : Program} {w : World} {h : Heap} {W : List Addr} : ∀ {vs : List Value} {ns : List Int}, IntsAre vs ns → RpL prog w h W vs (ns.map D.int)
  | _, _, .nil => .nil
  | _, _, .cons _ _ r => .cons (.int _ _) (rp_ints r)
theorem frame_new {prog : Program} {w : World} {h h₁ : Heap} {L fa a : Addr} {cd : Value} {m cm : Str → Option Value} {vs : List Value} {ns : List Int} (T : TopOk h) (hL : h.objs.size = L) (hns : h₁.Ns L m) (x : Ext h h₁)
    (cel : ∀ n c, (lawEnv L fa cd).cells.lookup n = some c → h₁.IsCell c (cm n)) (apart : (lawEnv L fa cd).cells.Pairwise fun x y => x.2 ≠ y.2) (above : ∀ n c, (n, c) ∈ (lawEnv L fa cd).cells → L < c)
    (hcm : cm "script" = some (.ref a)) (hl : h.IsList a vs.toArray) (hi : IntsAre vs ns) : Fm prog w (lawEnv L fa cd) h₁ (L :: (lawEnv L fa cd).cells.map (·.2)) [] [("script", .lst (ns.map D.int))] [] ∧ ∀ b ∈ L :: (lawEnv L fa cd).cells.map (·.2), h.get? b = none := by
  have hlist : ∀ p ∈ (lawEnv L fa cd).cells, (lawEnv L fa cd).cells.lookup p.1 = some p.2 := by
    intro p hp
    have hp : p ∈ ([("stay", L + 9), ("choice", L + 8), ("core", L + 7), ("ends", L + 6), ("texts", L + 5), ("cell", L + 4), ("worths", L + 3), ("lines", L + 2), ("script", L + 1)] : List (Str × Addr)) := hp
    simp only [List.mem_cons, List.not_mem_nil, or_false] at hp
    rcases hp with rfl | rfl | rfl | rfl | rfl | rfl | rfl | rfl | rfl <;> rfl
  have hV : ∀ b ∈ L :: (lawEnv L fa cd).cells.map (·.2), L ≤ b := by
    intro b hb
    rcases List.mem_cons.mp hb with rfl | hb
    · exact Nat.le_refl _
    · obtain ⟨p, hp, rfl⟩ := List.mem_map.mp hb
      exact Nat.le_of_lt (above p.1 p.2 hp)
  have haL : @LT.lt Nat _ a L := by
    obtain ⟨o, ho, _⟩ := hl
    have := Heap.lt_size ho
    rw [hL] at this
    exact this
  have haV : a ∉ L :: (lawEnv L fa cd).cells.map (·.2) := fun hm => by
    have h1 : @LE.le Nat _ L a := hV a hm
    omega
  refine ⟨?_, fun b hb => Heap.get?_none_of_le (by rw [hL]; exact hV b hb)⟩
  refine ⟨⟨⟨m, hns, fun y d e => by simp at e⟩, fun y c hc => ⟨cm y, cel y c hc, fun d e => ?_⟩, fun b hb => ?_, List.mem_cons_self, fun y c hc => ⟨List.mem_cons_of_mem _ (List.mem_map.mpr ⟨_, mem_cells hc, rfl⟩), fun q => ?_⟩, fun y z c hy hz => name_of_addr apart (mem_cells hy) (mem_cells hz)⟩, hlist, ⟨h, T, x, fun b hb => Heap.get?_none_of_le (by rw [hL]; exact hV b hb)⟩, fun p hp => (nomatch hp), List.nodup_nil⟩
  · rcases lookup_cons_some e with ⟨rfl, rfl⟩ | ⟨_, e⟩
    · refine ⟨.ref a, hcm, .lst ?_ haV (rp_ints hi)⟩
      obtain ⟨o, ho, r⟩ := hl
      exact ⟨o, x _ _ ho, r⟩
    · simp at e
  · rcases List.mem_cons.mp hb with rfl | hb
    · obtain ⟨o, _, _, ho, _⟩ := hns; exact ⟨o, ho⟩
    · obtain ⟨p, hp, rfl⟩ := List.mem_map.mp hb
      obtain ⟨o, ho, _⟩ := cel p.1 p.2 (hlist p hp)
      exact ⟨o, ho⟩
  · have h1 : @LT.lt Nat _ L c := above y c (mem_cells hc)
    have q' : @Eq Nat c L := q
    omega
end Mine
end
noncomputable section -- J3
open PySem PySem.W PyProof.Rows
set_option linter.unusedVariables false
namespace Mine
set_option maxRecDepth 100000 in
set_option maxHeartbeats 8000000 in
theorem law_holds : PySem.Challenge.rw_pg0034_01.Holds := hd (by
  k_fill
  intro w s₀ s₁ mg mb G Y fa o pm cd doc dV kV ho hd hcd hD hmg hg args vals as hpre hlay hrd hwl hlo
  have KX := kIn_of Y
  have X := (Ground.X G).1
  have V := (Ground.X G).2
  have GL := glob_more (Ground.glob G (by first | k_qdec | decide +kernel) (by first | k_qdec | decide +kernel)) V
  refine Ground.open G ?_
  intro T B D TE TW
  try (refine guard_noD D (by decide +kernel) ?_; clear D)
  wrow_args hpre hlay hrd hwl hlo
  all_goals (
    first | refine callC_kw (enter_call ?_) | refine enter_call ?_ | refine callC_kw (enter_callW ?_) | refine enter_callW ?_ | w_how
    w_top on
    try refine codeAny_mono ?_ (fun _ _ g => GoodW.toG g)
    skip)
  have he := Dflts.none hD rfl; subst he; have he := Dflts.noKw hD; subst he
  have TK : TopOk s₁.heap := top_ok KX GL.g GL.b GL.builtins (Top.nolimit T)
  refine call_cells (by decide) ho (fd_plain hd) (Top.nolimit T) hcd rfl ?a1 fun h₁ tk₁ F X0 => ?_
  case a1 => exact (kinds_of (by kinds_ok))
  rename_i hl _ _ _ hi _ hlen _
  obtain ⟨FR, hV⟩ := frame_new (prog := PySem.Challenge.rw_pg0034_01.row.prog) (w := w) (fa := fa) (cd := cd) (L := s₁.heap.objs.size) TK rfl F.ns F.keep X0.cell X0.apart X0.above rfl hl hi
  refine law_body (L := s₁.heap.objs.size) (fa := fa) (cd := cd) ⟨rfl, by show callerA.depth + 1 + 8 < recursionLimit; decide +kernel, by show callerA.units + 3 + 50 * 8 < cLine; decide +kernel⟩ FR rfl (by omega) F.keep hV fun h' tk x => ⟨.inl ⟨_, _, _, rfl, ?_, .bool true, ?_, ?_⟩, x, rfl, hg⟩
  · exact fun _ => rfl
  · first | wrow_post | kc_post
  · exact fun _ => ⟨List.nodup_nil, fun _ h => nomatch h⟩)
end Mine
end
set_option maxRecDepth 100000 in
set_option maxHeartbeats 8000000 in
theorem PySem.Challenge.cw_pg0034_01_holds : PySem.Challenge.rw_pg0034_01.Holds := by
  exact Mine.law_holds
