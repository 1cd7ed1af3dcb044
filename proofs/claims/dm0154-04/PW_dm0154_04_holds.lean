import PyProof.Rows.All
import Wide.All
import OpenK.AllK
import Wide.FinOn
import PySem.Challenge.RW_dm0154_04
set_option Elab.async false
set_option linter.all false
set_option maxRecDepth 100000
set_option maxHeartbeats 8000000
section PartHD04
open PySem PySem.W PyProof.Rows
namespace Mine
open_top hd04 for PySem.Challenge.rw_dm0154_04
end Mine

end PartHD04
section PartB1
open PySem PySem.W PyProof.Rows
namespace Mine

abbrev Kp (h h' : Heap) : Prop := ∀ b o, h.get? b = some o → h'.get? b = some o
theorem Kp.rfl {h : Heap} : Kp h h := fun _ _ e => e
theorem Kp.trans {a b c : Heap} (x : Kp a b) (y : Kp b c) : Kp a c := fun n o e => y n o (x n o e)
theorem Kp.push {h : Heap} (o : Obj) : Kp h (h.push o) := fun _ _ e => Heap.get?_push_of_some _ e
theorem Kp.hide {h h' : Heap} (μ : List Addr) (k : Kp h h') : Kp (hideAll h μ) (hideAll h' μ) := fun b o e => by
  refine hideAll_get μ (k b o (of_hideAll μ e)) fun hb => ?_
  rw [hideAll_none μ hb] at e; cases e
theorem Kp.unhide {h : Heap} (μ : List Addr) : Kp (hideAll h μ) h := fun _ _ e => of_hideAll μ e

def Rd (μ : List Addr) (h : Heap) (v : Value) (d : PyData) : Prop := ∃ as, Reads (hideAll h μ) v d as
def RdAll (μ : List Addr) (h : Heap) (vs : List Value) (ds : List PyData) : Prop := ∃ as, ReadsAll (hideAll h μ) vs ds as
theorem Rd.keeps {μ : List Addr} {h h' : Heap} {v : Value} {d : PyData} (k : Kp h h') (r : Rd μ h v d) : Rd μ h' v d :=
  let ⟨as, r⟩ := r; ⟨as, Reads.keeps (k.hide μ) r⟩
theorem RdAll.keeps {μ : List Addr} {h h' : Heap} {v : List Value} {d : List PyData} (k : Kp h h') (r : RdAll μ h v d) : RdAll μ h' v d :=
  let ⟨as, r⟩ := r; ⟨as, ReadsAll.keeps (k.hide μ) r⟩
theorem Rd.open {μ : List Addr} {h : Heap} {v : Value} {d : PyData} (r : Rd μ h v d) : Rd [] h v d :=
  let ⟨as, r⟩ := r; ⟨as, Reads.keeps (Kp.unhide μ) r⟩
theorem RdAll.open {μ : List Addr} {h : Heap} {v : List Value} {d : List PyData} (r : RdAll μ h v d) : RdAll [] h v d :=
  let ⟨as, r⟩ := r; ⟨as, ReadsAll.keeps (Kp.unhide μ) r⟩

theorem rd_none {μ h} : Rd μ h .none .none := ⟨_, .none⟩
theorem rd_bool {μ h b} : Rd μ h (.bool b) (.bool b) := ⟨_, .bool b⟩
theorem rd_int {μ h i t} : Rd μ h (.int i t) (.int i) := ⟨_, .int i t⟩
theorem rd_str {μ h x t} : Rd μ h (.str x t) (.str x) := ⟨_, .str x t⟩
theorem Rd.bool_inv {μ h v b} (r : Rd μ h v (.bool b)) : v = .bool b := by obtain ⟨_, r⟩ := r; cases r; rfl
theorem Rd.int_inv {μ h v i} (r : Rd μ h v (.int i)) : ∃ t, v = .int i t := by obtain ⟨_, r⟩ := r; cases r; exact ⟨_, rfl⟩
theorem Rd.str_inv {μ h v x} (r : Rd μ h v (.str x)) : ∃ t, v = .str x t := by obtain ⟨_, r⟩ := r; cases r; exact ⟨_, rfl⟩
theorem RdAll.nil {μ h} : RdAll μ h [] [] := ⟨_, .nil⟩
theorem RdAll.cons {μ h v d vs ds} (a : Rd μ h v d) (b : RdAll μ h vs ds) : RdAll μ h (v :: vs) (d :: ds) :=
  let ⟨_, a⟩ := a; let ⟨_, b⟩ := b; ⟨_, .cons a b⟩
theorem RdAll.cons_inv {μ h vs d ds} (r : RdAll μ h vs (d :: ds)) : ∃ v vs', vs = v :: vs' ∧ Rd μ h v d ∧ RdAll μ h vs' ds := by
  obtain ⟨_, r⟩ := r; cases r with | cons a b => exact ⟨_, _, rfl, ⟨_, a⟩, ⟨_, b⟩⟩
theorem RdAll.nil_inv {μ h vs} (r : RdAll μ h vs []) : vs = [] := by obtain ⟨_, r⟩ := r; cases r; rfl
theorem RdAll.length {μ h vs ds} (r : RdAll μ h vs ds) : vs.length = ds.length := by
  obtain ⟨_, r⟩ := r; exact SeqAt.ReadsAll.length _ _ _ r
theorem RdAll.append {μ h} : ∀ {vs ds vs' ds'}, RdAll μ h vs ds → RdAll μ h vs' ds' → RdAll μ h (vs ++ vs') (ds ++ ds')
  | vs, [], vs', ds', a, b => by rw [a.nil_inv]; exact b
  | vs, d :: ds, vs', ds', a, b => by
    obtain ⟨v, r, rfl, h1, h2⟩ := a.cons_inv
    exact .cons h1 (h2.append b)
theorem RdAll.get {μ h} : ∀ {vs ds} (i : Nat) {d}, RdAll μ h vs ds → ds[i]? = some d → ∃ v, vs[i]? = some v ∧ Rd μ h v d
  | vs, [], i, d, _, e => by simp at e
  | vs, d :: ds, 0, d', a, e => by
    obtain ⟨v, r, rfl, h1, h2⟩ := a.cons_inv
    simp at e; subst e; exact ⟨v, rfl, h1⟩
  | vs, d :: ds, i + 1, d', a, e => by
    obtain ⟨v, r, rfl, h1, h2⟩ := a.cons_inv
    simpa using h2.get i (by simpa using e)
theorem RdAll.get' {μ h} : ∀ {vs ds} (i : Nat) {v}, RdAll μ h vs ds → vs[i]? = some v → ∃ d, ds[i]? = some d ∧ Rd μ h v d
  | vs, [], i, v, a, e => by rw [a.nil_inv] at e; simp at e
  | vs, d :: ds, 0, v, a, e => by
    obtain ⟨v', r, rfl, h1, h2⟩ := a.cons_inv
    simp at e; subst e; exact ⟨d, rfl, h1⟩
  | vs, d :: ds, i + 1, v, a, e => by
    obtain ⟨v', r, rfl, h1, h2⟩ := a.cons_inv
    simpa using h2.get' i (by simpa using e)

/-- A list value whose items are data. -/
def LsAt (μ : List Addr) (h : Heap) (v : Value) (ds : List PyData) : Prop := ∃ a vs, v = .ref a ∧ h.IsList a vs ∧ RdAll μ h vs.toList ds
theorem LsAt.keeps {μ h h' v ds} (k : Kp h h') (r : LsAt μ h v ds) : LsAt μ h' v ds := by
  obtain ⟨a, vs, rfl, ⟨o, ho, r1⟩, r2⟩ := r
  exact ⟨a, vs, rfl, ⟨o, k _ _ ho, r1⟩, r2.keeps k⟩
theorem Rd.ls {μ h v ds} (r : Rd μ h v (.list ds)) : LsAt μ h v ds := by
  obtain ⟨_, r⟩ := r
  cases r with
  | list h1 h2 h3 h4 => exact ⟨_, _, rfl, ⟨_, of_hideAll μ h1, h2, _, h3⟩, ⟨_, h4⟩⟩
theorem LsAt.rd {h v ds} (r : LsAt [] h v ds) : Rd [] h v (.list ds) := by
  obtain ⟨a, vs, rfl, ⟨o, h1, h2, n, h3⟩, as, h4⟩ := r
  exact ⟨_, .list h1 h2 h3 h4⟩
theorem LsAt.rd' {μ h v ds} (r : LsAt μ h v ds) (hn : ∀ a, v = .ref a → a ∉ μ) : Rd μ h v (.list ds) := by
  obtain ⟨a, vs, rfl, ⟨o, h1, h2, n, h3⟩, as, h4⟩ := r
  exact ⟨_, .list (hideAll_get μ h1 (hn a rfl)) h2 h3 h4⟩
theorem LsAt.open {μ h v ds} (r : LsAt μ h v ds) : LsAt [] h v ds := by
  obtain ⟨a, vs, rfl, l, r⟩ := r; exact ⟨a, vs, rfl, l, r.open⟩

structure Cx where
  prog : Program
  w : World
  K : Frag
  mg : Str → Option Value
  mb : Str → Option Value

structure GK (c : Cx) (h : Heap) : Prop where
  inK : c.K.In h
  g : h.Ns mainGlobals c.mg
  b : h.Ns builtinsNs c.mb
  nolimit : h.NoLimit
  builtins : ∀ x : Str, x ≠ "__name__" → c.mb x = bootBuiltins x
theorem GK.keeps {c : Cx} {h h' : Heap} (k : Kp h h') (x : GK c h) : GK c h' :=
  ⟨fun a o e => k a o (x.inK a o e), x.g.keeps k, x.b.keeps k, x.nolimit.keeps k, x.builtins⟩

inductive VarAt (env : Env) (h : Heap) (x : Str) (v : Value) : Prop
  | loc {m} : env.kindOf x = some .local → h.Ns env.locals m → m x = some v → VarAt env h x v
  | cell {a} : env.kindOf x = some .cell → env.cells.lookup x = some a → h.IsCell a (some v) → VarAt env h x v
  | free {a} : env.kindOf x = some .free → (x == ("__classdict__" : Str)) = false → env.cells.lookup x = some a → h.IsCell a (some v) → VarAt env h x v
theorem VarAt.keeps {env : Env} {h h' : Heap} {x : Str} {v : Value} (k : Kp h h') : VarAt env h x v → VarAt env h' x v
  | .loc a b e => .loc a (b.keeps k) e
  | .cell a b e => .cell a b (e.keeps k)
  | .free a b e f => .free a b e (f.keeps k)
theorem VarAt.load {env : Env} {x : Str} {v : Value} {M : Model} {A : Around} {E : Value → Shared → Prop} {s : Shared} {Q : Value → Shared → Prop} (hk : env.scope.kind = .function) (V : VarAt env s.heap x v) (h : Q v s) :
    wpAny M A (loadName env x) Q E s := by
  cases V with
  | loc a b e => exact wpAny_loadName_local hk a b e h
  | cell a b e => exact wpAny_loadName_cell hk a b e h
  | free a b e f => exact wpAny_loadName_free hk a e f h b

def Live (μ : List Addr) (h : Heap) : Prop := ∀ a ∈ μ, ∃ o, h.get? a = some o
theorem Live.keeps {μ : List Addr} {h h' : Heap} (k : Kp h h') (l : Live μ h) : Live μ h' := fun a ha => let ⟨o, e⟩ := l a ha; ⟨o, k _ _ e⟩
theorem Live.fresh {μ : List Addr} {h : Heap} (l : Live μ h) : h.objs.size ∉ μ := fun e => let ⟨_, q⟩ := l _ e; Nat.lt_irrefl _ (Heap.lt_size q)
theorem Live.nil {h : Heap} : Live [] h := fun _ ha => nomatch ha

structure EnvOK (c : Cx) (env : Env) (μ : List Addr) (ρ : List (Str × PyData)) (σ : List (Str × List PyData)) (h : Heap) : Prop where
  gk : GK c h
  fn : env.scope.kind = .function
  gl : env.globals = mainGlobals
  bl : env.builtins = builtinsNs
  vars : ∀ x d, ρ.lookup x = some d → ∃ v, VarAt env h x v ∧ Rd μ h v d
  muts : ∀ x ds, σ.lookup x = some ds → ∃ a, VarAt env h x (.ref a) ∧ LsAt μ h (.ref a) ds
  live : Live μ h
theorem EnvOK.keeps {c : Cx} {env : Env} {μ ρ σ} {h h' : Heap} (k : Kp h h') (x : EnvOK c env μ ρ σ h) : EnvOK c env μ ρ σ h' :=
  ⟨x.gk.keeps k, x.fn, x.gl, x.bl, fun y d e => let ⟨v, a, b⟩ := x.vars y d e; ⟨v, a.keeps k, b.keeps k⟩,
    fun y d e => let ⟨v, a, b⟩ := x.muts y d e; ⟨v, a.keeps k, b.keeps k⟩, x.live.keeps k⟩

abbrev K1 (s : Shared) (μ : List Addr) (d : PyData) (Q : Value → Shared → Prop) : Prop :=
  ∀ v h' tk, Kp s.heap h' → Rd μ h' v d → Q v { s with heap := h', toks := tk }

/-- the tree yields the datum, everything kept -/
def Yl (c : Cx) (A : Around) (μ : List Addr) (t : Sem Value) (d : PyData) (s : Shared) : Prop :=
  ∀ (Q : Value → Shared → Prop) (E : Value → Shared → Prop), K1 s μ d Q → wpAny (model c.prog c.w) A t Q E s
/-- the tree yields the bool, everything kept -/
def Yb (c : Cx) (A : Around) (t : Sem Bool) (b : Bool) (s : Shared) : Prop :=
  ∀ (Q : Bool → Shared → Prop) (E : Value → Shared → Prop), (∀ h' tk, Kp s.heap h' → Q b { s with heap := h', toks := tk }) → wpAny (model c.prog c.w) A t Q E s

def Ev (c : Cx) (A : Around) (env : Env) (ρ : List (Str × PyData)) (σ : List (Str × List PyData)) (e : Expr) (d : PyData) : Prop :=
  ∀ μ s, EnvOK c env μ ρ σ s.heap → Yl c A μ (eval e env) d s
/-- evaluates to a list whose items are the data (the list itself may be one that is being grown) -/
def EvL (c : Cx) (A : Around) (env : Env) (ρ : List (Str × PyData)) (σ : List (Str × List PyData)) (e : Expr) (ds : List PyData) : Prop :=
  ∀ μ s, EnvOK c env μ ρ σ s.heap → ∀ (Q : Value → Shared → Prop) (E : Value → Shared → Prop), (∀ v h' tk, Kp s.heap h' → LsAt μ h' v ds → Q v { s with heap := h', toks := tk }) → wpAny (model c.prog c.w) A (eval e env) Q E s
def Tst (c : Cx) (A : Around) (env : Env) (ρ : List (Str × PyData)) (σ : List (Str × List PyData)) (e : Expr) (b : Bool) : Prop :=
  ∀ μ s, EnvOK c env μ ρ σ s.heap → Yb c A (PySem.isTrue e env (eval e env)) b s

theorem Ev.l {c A env ρ σ e ds} (h : Ev c A env ρ σ e (.list ds)) : EvL c A env ρ σ e ds := fun μ s ok _ _ hQ =>
  h μ s ok _ _ fun v h' tk k r => hQ v h' tk k r.ls

section
variable {c : Cx} {A : Around} {env : Env} {ρ : List (Str × PyData)} {σ : List (Str × List PyData)}

theorem Ev.int {i k pos} : Ev c A env ρ σ (.Constant (.int i) k pos) (.int i) := fun _ _ _ _ _ hQ => wpAny_Constant_int (hQ _ _ _ Kp.rfl rd_int)
theorem Ev.str {i k pos} : Ev c A env ρ σ (.Constant (.str i) k pos) (.str i) := fun _ _ _ _ _ hQ => wpAny_Constant_str (hQ _ _ _ Kp.rfl rd_str)
theorem Ev.bool {i k pos} : Ev c A env ρ σ (.Constant (.bool i) k pos) (.bool i) := fun _ s _ _ _ hQ => wpAny_Constant_bool (hQ _ _ s.toks Kp.rfl rd_bool)
theorem Ev.name {x pos d} (hv : ρ.lookup x = some d) (hd : (x == ("__debug__" : Str)) = false) : Ev c A env ρ σ (.Name x pos) d := fun _ s ok _ _ hQ => by
  obtain ⟨v, V, r⟩ := ok.vars x d hv
  exact wpAny_Name (V.load ok.fn (hQ v s.heap s.toks Kp.rfl r)) hd
theorem EvL.name {x pos ds} (hv : σ.lookup x = some ds) (hd : (x == ("__debug__" : Str)) = false) : EvL c A env ρ σ (.Name x pos) ds := fun _ s ok _ _ hQ => by
  obtain ⟨a, V, r⟩ := ok.muts x ds hv
  exact wpAny_Name (V.load ok.fn (hQ _ s.heap s.toks Kp.rfl r)) hd

/-- a binary operation on two data -/
def BinOK (c : Cx) (A : Around) (op : Operator) (d1 d2 d : PyData) : Prop := ∀ μ s v1 v2, Live μ s.heap → Rd μ s.heap v1 d1 → Rd μ s.heap v2 d2 → Yl c A μ (binaryOp op v1 v2) d s
def CmpOK (c : Cx) (A : Around) (op : CmpOp) (d1 d2 : PyData) (b : Bool) : Prop := ∀ μ s v1 v2, Rd μ s.heap v1 d1 → Rd μ s.heap v2 d2 → Yl c A μ (compareOp op v1 v2) (.bool b) s

theorem Ev.bin {l op r pos d1 d2 d} (h1 : Ev c A env ρ σ l d1) (h2 : Ev c A env ρ σ r d2) (h : BinOK c A op d1 d2 d) : Ev c A env ρ σ (.BinOp l op r pos) d := fun μ s ok Q E hQ =>
  wpAny_BinOp (h1 μ s ok _ _ fun v1 g1 t1 k1 r1 => h2 μ _ (ok.keeps k1) _ _ fun v2 g2 t2 k2 r2 => h μ _ v1 v2 (ok.live.keeps (k1.trans k2)) (r1.keeps k2) r2 _ _ fun v g tk k r => hQ v g tk (k1.trans (k2.trans k)) r)
theorem Ev.cmp {l op r pos d1 d2 b} (h1 : Ev c A env ρ σ l d1) (h2 : Ev c A env ρ σ r d2) (h : CmpOK c A op d1 d2 b) (hm : behindInMarks op r = false) : Ev c A env ρ σ (.Compare l [op] [r] pos) (.bool b) := fun μ s ok Q E hQ =>
  wpAny_Compare1 (h1 μ s ok _ _ fun v1 g1 t1 k1 r1 => h2 μ _ (ok.keeps k1) _ _ fun v2 g2 t2 k2 r2 => h μ _ v1 v2 (r1.keeps k2) r2 _ _ fun v g tk k r => hQ v g tk (k1.trans (k2.trans k)) r) hm
theorem Tst.cmp {l op r pos d1 d2 b} (h1 : Ev c A env ρ σ l d1) (h2 : Ev c A env ρ σ r d2) (h : CmpOK c A op d1 d2 b) (hm : behindInMarks op r = false) : Tst c A env ρ σ (.Compare l [op] [r] pos) b := fun μ s ok Q E hQ =>
  wpAny_isTrue_Compare1 (h1 μ s ok _ _ fun v1 g1 t1 k1 r1 => h2 μ _ (ok.keeps k1) _ _ fun v2 g2 t2 k2 r2 => h μ _ v1 v2 (r1.keeps k2) r2 _ _ fun v g tk k r => by
    rw [r.bool_inv]; exact wpAny_truthy_bool (hQ g tk (k1.trans (k2.trans k)))) hm

def TruOK (c : Cx) (A : Around) (d : PyData) (b : Bool) : Prop := ∀ μ s v, Rd μ s.heap v d → Yb c A (truthy v) b s
theorem Tst.plain {e d b} (h : Ev c A env ρ σ e d) (ht : TruOK c A d b) (hp : ∀ whole, PySem.isTrue e env whole = (do let v ← whole; standAt e.pos; holding [v] (truthy v))) : Tst c A env ρ σ e b := fun μ s ok Q E hQ =>
  isTrue_plain (h μ s ok _ _ fun v g tk k r => ht μ _ v r _ _ fun g' tk' k' => hQ g' tk' (k.trans k')) (hp _)
theorem Tst.not {x pos b} (h : Tst c A env ρ σ x b) : Tst c A env ρ σ (.UnaryOp .Not x pos) (!b) := fun μ s ok Q E hQ =>
  isTrue_not (h μ s ok _ _ fun g tk k => hQ g tk k)
theorem Tst.and_nil {pos} : Tst c A env ρ σ (.BoolOp .And [] pos) true := fun μ s ok Q E hQ => isTrue_and_nil (hQ s.heap s.toks Kp.rfl)
theorem Tst.or_nil {pos} : Tst c A env ρ σ (.BoolOp .Or [] pos) false := fun μ s ok Q E hQ => isTrue_or_nil (hQ s.heap s.toks Kp.rfl)
theorem isTrue_boolop_whole {op vs pos} {w1 w2 : Sem Value} : PySem.isTrue (.BoolOp op vs pos) env w1 = PySem.isTrue (.BoolOp op vs pos) env w2 := by
  simp only [PySem.isTrue]
theorem Tst.and {x rest pos b1 b2} (h : Tst c A env ρ σ x b1) (h' : b1 = true → Tst c A env ρ σ (.BoolOp .And rest pos) b2) : Tst c A env ρ σ (.BoolOp .And (x :: rest) pos) (b1 && b2) := fun μ s ok Q E hQ =>
  isTrue_and (h μ s ok _ _ fun g tk k => by
    cases b1 with
    | false => exact hQ g tk k
    | true =>
      simp only [if_true]
      rw [isTrue_boolop_whole (w2 := eval (.BoolOp .And rest pos) env)]
      exact h' rfl μ _ (ok.keeps k) _ _ fun g' tk' k' => hQ g' tk' (k.trans k'))
theorem Tst.or {x rest pos b1 b2} (h : Tst c A env ρ σ x b1) (h' : b1 = false → Tst c A env ρ σ (.BoolOp .Or rest pos) b2) : Tst c A env ρ σ (.BoolOp .Or (x :: rest) pos) (b1 || b2) := fun μ s ok Q E hQ =>
  isTrue_or (h μ s ok _ _ fun g tk k => by
    cases b1 with
    | true => exact hQ g tk k
    | false =>
      simp only [Bool.false_eq_true, if_false]
      rw [isTrue_boolop_whole (w2 := eval (.BoolOp .Or rest pos) env)]
      exact h' rfl μ _ (ok.keeps k) _ _ fun g' tk' k' => hQ g' tk' (k.trans k'))
theorem Tst.ifexp {t x y pos b r} (h : Tst c A env ρ σ t b) (hx : b = true → Tst c A env ρ σ x r) (hy : b = false → Tst c A env ρ σ y r) : Tst c A env ρ σ (.IfExp t x y pos) r := fun μ s ok Q E hQ =>
  isTrue_IfExp (h μ s ok _ _ fun g tk k => by
    cases b with
    | true => simp only [if_true]; exact hx rfl μ _ (ok.keeps k) _ _ fun g' tk' k' => hQ g' tk' (k.trans k')
    | false => simp only [Bool.false_eq_true, if_false]; exact hy rfl μ _ (ok.keeps k) _ _ fun g' tk' k' => hQ g' tk' (k.trans k'))
theorem Ev.ifexp {t x y pos b d} (h : Tst c A env ρ σ t b) (hx : b = true → Ev c A env ρ σ x d) (hy : b = false → Ev c A env ρ σ y d) : Ev c A env ρ σ (.IfExp t x y pos) d := fun μ s ok Q E hQ =>
  wpAny_IfExp (h μ s ok _ _ fun g tk k => by
    cases b with
    | true => simp only [if_true]; exact hx rfl μ _ (ok.keeps k) _ _ fun v g' tk' k' r => hQ v g' tk' (k.trans k') r
    | false => simp only [Bool.false_eq_true, if_false]; exact hy rfl μ _ (ok.keeps k) _ _ fun v g' tk' k' r => hQ v g' tk' (k.trans k') r)
theorem Ev.not {x pos d b} (h : Ev c A env ρ σ x d) (ht : TruOK c A d b) : Ev c A env ρ σ (.UnaryOp .Not x pos) (.bool (!b)) := fun μ s ok Q E hQ =>
  UnaryOp_ (h μ s ok _ _ fun v g tk k r => not_of (ht μ _ v r _ _ fun g' tk' k' => hQ _ g' tk' (k.trans k') rd_bool))
theorem Ev.bool_one {op e pos d} (h : Ev c A env ρ σ e d) : Ev c A env ρ σ (.BoolOp op [e] pos) d := fun μ s ok Q E hQ => BoolOp_one (h μ s ok Q E hQ)
theorem Ev.and {e₁ e₂ rest pos d1 b d} (h : Ev c A env ρ σ e₁ d1) (ht : TruOK c A d1 b) (h1 : b = false → d = d1) (h2 : b = true → Ev c A env ρ σ (.BoolOp .And (e₂ :: rest) pos) d) : Ev c A env ρ σ (.BoolOp .And (e₁ :: e₂ :: rest) pos) d := fun μ s ok Q E hQ =>
  BoolOp_and (h μ s ok _ _ fun v g tk k r => ht μ _ v r _ _ fun g' tk' k' => by
    cases b with
    | false => simp only [Bool.false_eq_true, if_false]; exact hQ v g' tk' (k.trans k') (h1 rfl ▸ r.keeps k')
    | true => simp only [if_true]; exact h2 rfl μ _ (ok.keeps (k.trans k')) _ _ fun v g'' tk'' k'' r => hQ v g'' tk'' (k.trans (k'.trans k'')) r)
theorem Ev.or {e₁ e₂ rest pos d1 b d} (h : Ev c A env ρ σ e₁ d1) (ht : TruOK c A d1 b) (h1 : b = true → d = d1) (h2 : b = false → Ev c A env ρ σ (.BoolOp .Or (e₂ :: rest) pos) d) : Ev c A env ρ σ (.BoolOp .Or (e₁ :: e₂ :: rest) pos) d := fun μ s ok Q E hQ =>
  BoolOp_or (h μ s ok _ _ fun v g tk k r => ht μ _ v r _ _ fun g' tk' k' => by
    cases b with
    | true => simp only [if_true]; exact hQ v g' tk' (k.trans k') (h1 rfl ▸ r.keeps k')
    | false => simp only [Bool.false_eq_true, if_false]; exact h2 rfl μ _ (ok.keeps (k.trans k')) _ _ fun v g'' tk'' k'' r => hQ v g'' tk'' (k.trans (k'.trans k'')) r)
end
end Mine

end PartB1
section PartB2
open PySem PySem.W PyProof.Rows
namespace Mine
section
variable {c : Cx} {A : Around}

theorem Yl.of {μ t d s} (h : ∀ (Q : Value → Shared → Prop) (E : Value → Shared → Prop), K1 s μ d Q → wpAny (model c.prog c.w) A t Q E s) : Yl c A μ t d s := h

theorem BinOK.add_int {a b : Int} : BinOK c A .Add (.int a) (.int b) (.int (a + b)) := fun μ s v1 v2 lv r1 r2 Q E hQ => by
  obtain ⟨t, rfl⟩ := r1.int_inv; obtain ⟨u, rfl⟩ := r2.int_inv; exact P.add_int (hQ _ s.heap _ Kp.rfl rd_int)
theorem BinOK.sub_int {a b : Int} : BinOK c A .Sub (.int a) (.int b) (.int (a - b)) := fun μ s v1 v2 lv r1 r2 Q E hQ => by
  obtain ⟨t, rfl⟩ := r1.int_inv; obtain ⟨u, rfl⟩ := r2.int_inv; exact P.sub_int (hQ _ s.heap _ Kp.rfl rd_int)
theorem BinOK.mul_int {a b : Int} (hm : IntMulOk a b) : BinOK c A .Mult (.int a) (.int b) (.int (a * b)) := fun μ s v1 v2 lv r1 r2 Q E hQ => by
  obtain ⟨t, rfl⟩ := r1.int_inv; obtain ⟨u, rfl⟩ := r2.int_inv; exact P.mul_int (hQ _ s.heap _ Kp.rfl rd_int) hm
theorem BinOK.fdiv_int {a b : Int} (h0 : (b == 0) = false) (hp : Builtin.divisionGoesByPylong a b = false) : BinOK c A .FloorDiv (.int a) (.int b) (.int (a.fdiv b)) := fun μ s v1 v2 lv r1 r2 Q E hQ => by
  obtain ⟨t, rfl⟩ := r1.int_inv; obtain ⟨u, rfl⟩ := r2.int_inv
  exact AutoIntOps.floordiv_1 (by simp [h0]) (by simp [hp]) (hQ _ s.heap _ Kp.rfl rd_int)
theorem BinOK.mod_int {a b : Int} (h0 : (b == 0) = false) : BinOK c A .Mod (.int a) (.int b) (.int (a.fmod b)) := fun μ s v1 v2 lv r1 r2 Q E hQ => by
  obtain ⟨t, rfl⟩ := r1.int_inv; obtain ⟨u, rfl⟩ := r2.int_inv
  exact AutoIntOps.mod_1 (by simp [h0]) (hQ _ s.heap _ Kp.rfl rd_int)
theorem BinOK.pow_int {a b : Int} (h1 : 1 < a) (h0 : 0 ≤ b) (hb : Builtin.Int.intTooBig (((Builtin.Int.intBits a : Nat) : Int) * b) = false) : BinOK c A .Pow (.int a) (.int b) (.int (a ^ b.toNat)) := fun μ s v1 v2 lv r1 r2 Q E hQ => by
  obtain ⟨t, rfl⟩ := r1.int_inv; obtain ⟨u, rfl⟩ := r2.int_inv
  by_cases hz : b = 0
  · subst hz
    exact AutoIntOps.pow_0 (by omega) (by simp) (hQ _ s.heap _ Kp.rfl (by simpa using rd_int))
  · refine AutoIntOps.pow_4 (by omega) (by simpa using hz) ?_ ?_ (by simp [hb]) (hQ _ s.heap _ Kp.rfl rd_int)
    · simp; omega
    · simp; omega
theorem BinOK.add_str {a b : Str} (hz : a.length + b.length ≤ sizeLine) : BinOK c A .Add (.str a) (.str b) (.str (a ++ b)) := fun μ s v1 v2 lv r1 r2 Q E hQ => by
  obtain ⟨t, rfl⟩ := r1.str_inv; obtain ⟨u, rfl⟩ := r2.str_inv
  exact SB.add (fun t' k => hQ _ s.heap _ Kp.rfl rd_str) hz

theorem CmpOK.eq_int {a b : Int} : CmpOK c A .Eq (.int a) (.int b) (a == b) := fun μ s v1 v2 r1 r2 Q E hQ => by
  obtain ⟨t, rfl⟩ := r1.int_inv; obtain ⟨u, rfl⟩ := r2.int_inv; exact P.eq_int (hQ _ s.heap s.toks Kp.rfl rd_bool)
theorem CmpOK.ne_int {a b : Int} : CmpOK c A .NotEq (.int a) (.int b) (a != b) := fun μ s v1 v2 r1 r2 Q E hQ => by
  obtain ⟨t, rfl⟩ := r1.int_inv; obtain ⟨u, rfl⟩ := r2.int_inv; exact P.ne_int (hQ _ s.heap s.toks Kp.rfl rd_bool)
theorem CmpOK.lt_int {a b : Int} : CmpOK c A .Lt (.int a) (.int b) (decide (a < b)) := fun μ s v1 v2 r1 r2 Q E hQ => by
  obtain ⟨t, rfl⟩ := r1.int_inv; obtain ⟨u, rfl⟩ := r2.int_inv; exact P.lt_int (hQ _ s.heap s.toks Kp.rfl rd_bool)
theorem CmpOK.le_int {a b : Int} : CmpOK c A .LtE (.int a) (.int b) (decide (a ≤ b)) := fun μ s v1 v2 r1 r2 Q E hQ => by
  obtain ⟨t, rfl⟩ := r1.int_inv; obtain ⟨u, rfl⟩ := r2.int_inv; exact P.le_int (hQ _ s.heap s.toks Kp.rfl rd_bool)
theorem CmpOK.gt_int {a b : Int} : CmpOK c A .Gt (.int a) (.int b) (decide (a > b)) := fun μ s v1 v2 r1 r2 Q E hQ => by
  obtain ⟨t, rfl⟩ := r1.int_inv; obtain ⟨u, rfl⟩ := r2.int_inv; exact P.gt_int (hQ _ s.heap s.toks Kp.rfl rd_bool)
theorem CmpOK.ge_int {a b : Int} : CmpOK c A .GtE (.int a) (.int b) (decide (a ≥ b)) := fun μ s v1 v2 r1 r2 Q E hQ => by
  obtain ⟨t, rfl⟩ := r1.int_inv; obtain ⟨u, rfl⟩ := r2.int_inv; exact P.ge_int (hQ _ s.heap s.toks Kp.rfl rd_bool)
theorem Str.beq_cps (x y : Str) : (x.cps.toList == y.cps.toList) = (x == y) := by
  rcases x with ⟨⟨x⟩⟩; rcases y with ⟨⟨y⟩⟩
  by_cases h : x = y
  · subst h; simp
  · have : (Str.mk ⟨x⟩ == Str.mk ⟨y⟩) = false := by
      simp only [beq_eq_false_iff_ne, ne_eq]; intro e; exact h (by injection e with e; injection e)
    rw [this]; simpa using h
theorem CmpOK.eq_str {a b : Str} : CmpOK c A .Eq (.str a) (.str b) (a == b) := fun μ s v1 v2 r1 r2 Q E hQ => by
  obtain ⟨t, rfl⟩ := r1.str_inv; obtain ⟨u, rfl⟩ := r2.str_inv; exact P.eq_str (Str.beq_cps a b ▸ hQ _ s.heap s.toks Kp.rfl rd_bool)
theorem CmpOK.ne_str {a b : Str} : CmpOK c A .NotEq (.str a) (.str b) (!(a == b)) := fun μ s v1 v2 r1 r2 Q E hQ => by
  obtain ⟨t, rfl⟩ := r1.str_inv; obtain ⟨u, rfl⟩ := r2.str_inv
  refine P.ne_str ?_
  have : (a.cps.toList != b.cps.toList) = !(a == b) := by rw [← Str.beq_cps]; rfl
  rw [this]; exact hQ _ s.heap s.toks Kp.rfl rd_bool
theorem CmpOK.in_str {a b : Str} : CmpOK c A .In (.str a) (.str b) (Txt.contains b a) := fun μ s v1 v2 r1 r2 Q E hQ => by
  obtain ⟨t, rfl⟩ := r1.str_inv; obtain ⟨u, rfl⟩ := r2.str_inv; exact SB.contains (hQ _ s.heap s.toks Kp.rfl rd_bool)
theorem CmpOK.notIn_str {a b : Str} : CmpOK c A .NotIn (.str a) (.str b) (!Txt.contains b a) := fun μ s v1 v2 r1 r2 Q E hQ => by
  obtain ⟨t, rfl⟩ := r1.str_inv; obtain ⟨u, rfl⟩ := r2.str_inv; exact SB.notContains (hQ _ s.heap s.toks Kp.rfl rd_bool)
theorem CmpOK.eq {d1 d2 : PyData} (h1 : d1.canLay0 = true) (h2 : d2.canLay0 = true) (hu : A.units + min d1.depth d2.depth < cLine) : CmpOK c A .Eq d1 d2 (PyData.eqv d1 d2) := fun μ s v1 v2 r1 r2 Q E hQ => by
  obtain ⟨as, r1⟩ := r1.open; obtain ⟨bs, r2⟩ := r2.open
  exact SeqAt.compareEq_reads r1 r2 h1 h2 hu (hQ _ s.heap s.toks Kp.rfl rd_bool)
theorem CmpOK.ne {d1 d2 : PyData} (h1 : d1.canLay0 = true) (h2 : d2.canLay0 = true) (hu : A.units + min d1.depth d2.depth < cLine) : CmpOK c A .NotEq d1 d2 (!PyData.eqv d1 d2) := fun μ s v1 v2 r1 r2 Q E hQ => by
  obtain ⟨as, r1⟩ := r1.open; obtain ⟨bs, r2⟩ := r2.open
  exact SeqAt.compareNe_reads r1 r2 h1 h2 hu (hQ _ s.heap s.toks Kp.rfl rd_bool)
theorem CmpOK.in_list {d : PyData} {xs : List PyData} (h1 : d.canLay0 = true) (h2 : PyData.canLayAll0 xs = true) (hu : A.units + 1 + min (PyData.depthAll xs) d.depth < cLine) : CmpOK c A .In d (.list xs) (xs.any fun y => PyData.eqv y d) := fun μ s v1 v2 r1 r2 Q E hQ => by
  obtain ⟨as, r1⟩ := r1.open; obtain ⟨bs, r2⟩ := r2.open
  exact SeqAt.in_list_reads r2 r1 h2 h1 hu (hQ _ s.heap s.toks Kp.rfl rd_bool)
theorem CmpOK.in_tuple {d : PyData} {xs : List PyData} (h1 : d.canLay0 = true) (h2 : PyData.canLayAll0 xs = true) (hu : A.units + 1 + min (PyData.depthAll xs) d.depth < cLine) : CmpOK c A .In d (.tuple xs) (xs.any fun y => PyData.eqv y d) := fun μ s v1 v2 r1 r2 Q E hQ => by
  obtain ⟨as, r1⟩ := r1.open; obtain ⟨bs, r2⟩ := r2.open
  exact SeqAt.in_tuple_reads r2 r1 h2 h1 hu (hQ _ s.heap s.toks Kp.rfl rd_bool)
theorem CmpOK.notIn_list {d : PyData} {xs : List PyData} (h1 : d.canLay0 = true) (h2 : PyData.canLayAll0 xs = true) (hu : A.units + 1 + min (PyData.depthAll xs) d.depth < cLine) : CmpOK c A .NotIn d (.list xs) (!xs.any fun y => PyData.eqv y d) := fun μ s v1 v2 r1 r2 Q E hQ => by
  obtain ⟨as, r1⟩ := r1.open; obtain ⟨bs, r2⟩ := r2.open
  exact SeqAt.notIn_list_reads r2 r1 h2 h1 hu (hQ _ s.heap s.toks Kp.rfl rd_bool)
theorem CmpOK.notIn_tuple {d : PyData} {xs : List PyData} (h1 : d.canLay0 = true) (h2 : PyData.canLayAll0 xs = true) (hu : A.units + 1 + min (PyData.depthAll xs) d.depth < cLine) : CmpOK c A .NotIn d (.tuple xs) (!xs.any fun y => PyData.eqv y d) := fun μ s v1 v2 r1 r2 Q E hQ => by
  obtain ⟨as, r1⟩ := r1.open; obtain ⟨bs, r2⟩ := r2.open
  exact SeqAt.notIn_tuple_reads r2 r1 h2 h1 hu (hQ _ s.heap s.toks Kp.rfl rd_bool)
theorem isSame_bool (a b : Bool) : isSame (.bool a) (.bool b) = pure (a == b) := by cases a <;> cases b <;> rfl
theorem CmpOK.is_bool {a b : Bool} : CmpOK c A .Is (.bool a) (.bool b) (a == b) := fun μ s v1 v2 r1 r2 Q E hQ => by
  rw [r1.bool_inv, r2.bool_inv]
  show wpAny _ A (do return .bool (← isSame (.bool a) (.bool b))) Q E s
  rw [isSame_bool]
  exact wpAny_pure (hQ _ s.heap s.toks Kp.rfl rd_bool)
theorem CmpOK.isNot_bool {a b : Bool} : CmpOK c A .IsNot (.bool a) (.bool b) (!(a == b)) := fun μ s v1 v2 r1 r2 Q E hQ => by
  rw [r1.bool_inv, r2.bool_inv]
  show wpAny _ A (do return .bool (!(← isSame (.bool a) (.bool b)))) Q E s
  rw [isSame_bool]
  exact wpAny_pure (hQ _ s.heap s.toks Kp.rfl rd_bool)

theorem TruOK.bool {b : Bool} : TruOK c A (.bool b) b := fun μ s v r Q E hQ => by rw [r.bool_inv]; exact wpAny_truthy_bool (hQ s.heap s.toks Kp.rfl)
theorem TruOK.none : TruOK c A .none false := fun μ s v r Q E hQ => by obtain ⟨_, r⟩ := r; cases r; exact truthy_none (hQ s.heap s.toks Kp.rfl)
theorem TruOK.int {a : Int} : TruOK c A (.int a) (a != 0) := fun μ s v r Q E hQ => by obtain ⟨t, rfl⟩ := r.int_inv; exact P.truthy_int (hQ s.heap s.toks Kp.rfl)
theorem TruOK.str {a : Str} (hz : a.length ≤ sizeLine) : TruOK c A (.str a) ((a.length : Int) != 0) := fun μ s v r Q E hQ => by
  obtain ⟨t, rfl⟩ := r.str_inv
  exact P.truthy_str (by rw [sizeLine_eq] at hz; omega) (hQ s.heap _ Kp.rfl)
end
end Mine

end PartB2
section PartB3
open PySem PySem.W PyProof.Rows
namespace Mine

theorem kp_kept (h : Heap) : KeptH (fun h' => Kp h h') := fun _ _ k => k.trans (Kp.push _)

theorem lsAt_push {μ h vs ds n} (r : RdAll μ h vs.toList ds) : LsAt μ (h.push { cls := .type "list", data := .seq vs n }) (.ref h.objs.size) ds :=
  ⟨_, vs, rfl, ⟨_, Heap.get?_push_size _ rfl, rfl, n, rfl⟩, r.keeps (Kp.push _)⟩
theorem fresh_notin {μ : List Addr} {h : Heap} (hμ : ∀ a ∈ μ, a < h.objs.size) : h.objs.size ∉ μ := fun e => Nat.lt_irrefl _ (hμ _ e)

section
variable {c : Cx} {A : Around} {env : Env} {ρ : List (Str × PyData)} {σ : List (Str × List PyData)}

def idxPlain (i : Expr) : Prop := ∀ o v, subscripted i false o v = operate [o, v] (getItem o v)

theorem Ev.item_str {value idx pos x i} (h1 : Ev c A env ρ σ value (.str x)) (h2 : Ev c A env ρ σ idx (.int i)) (hi : (Txt.charAt x i).isSome = true) (hr : fitsSsize i = true) (hp : idxPlain idx) :
    Ev c A env ρ σ (.Subscript value idx pos) (.str (Txt.item x i)) := fun μ s ok Q E hQ =>
  Subscript_ (h1 μ s ok _ _ fun v1 g1 t1 k1 r1 => h2 μ _ (ok.keeps k1) _ _ fun v2 g2 t2 k2 r2 => by
    obtain ⟨t, rfl⟩ := r1.str_inv; obtain ⟨u, rfl⟩ := r2.int_inv
    exact tail_any (typeIs_str _ _ _) F.slot_str_getitem.lookup (SB.getItem hr hi (hQ _ g2 _ (k1.trans k2) rd_str)) (hp _ _))

/-- Python's place of an index -/
def pyIdx {α : Type} (xs : List α) (i : Int) : Option α := if 0 ≤ i then xs[i.toNat]? else if -(xs.length : Int) ≤ i then xs[(i + xs.length).toNat]? else none

theorem Ev.item_list {value idx pos ds i d} (h1 : EvL c A env ρ σ value ds) (h2 : Ev c A env ρ σ idx (.int i)) (hd : pyIdx ds i = some d) (hz : ds.length ≤ sizeLine) (hp : idxPlain idx) :
    Ev c A env ρ σ (.Subscript value idx pos) d := fun μ s ok Q E hQ =>
  Subscript_ (h1 μ s ok _ _ fun v1 g1 t1 k1 r1 => h2 μ _ (ok.keeps k1) _ _ fun v2 g2 t2 k2 r2 => by
    obtain ⟨a, vs, rfl, hl, ra⟩ := r1.keeps k2; obtain ⟨u, rfl⟩ := r2.int_inv
    have hn := ra.length
    rw [sizeLine_eq] at hz
    refine tail_any hl.typeIs slot_list_getitem.lookup ?_ (hp _ _)
    unfold pyIdx at hd
    by_cases h0 : 0 ≤ i
    · rw [if_pos h0] at hd
      obtain ⟨v, hv, rv⟩ := ra.get _ hd
      have : i.toNat < ds.length := (List.getElem?_eq_some_iff.mp hd).1
      exact wpAny_getItem_list (s := { s with heap := g2, toks := t2 }) hl h0 (by omega) (by simpa using hv) (hQ v g2 t2 (k1.trans k2) rv)
    · rw [if_neg h0] at hd
      split at hd
      · rename_i h1
        obtain ⟨v, hv, rv⟩ := ra.get _ hd
        have e : vs.size = ds.length := by simpa using hn
        exact wpAny_getItem_list_neg (s := { s with heap := g2, toks := t2 }) hl (by omega) (by omega) (by omega) (by rw [e]; simpa using hv) (hQ v g2 t2 (k1.trans k2) rv)
      · cases hd)

theorem Rd.tup {μ h v ds} (r : Rd μ h v (.tuple ds)) : ∃ a vs, v = .ref a ∧ IsTup h a vs ∧ RdAll μ h vs.toList ds := by
  obtain ⟨_, r⟩ := r
  cases r with
  | tuple h1 h2 h3 h4 => exact ⟨_, _, rfl, ⟨_, of_hideAll μ h1, h2, _, h3⟩, ⟨_, h4⟩⟩

/-- a bound of a slice: nothing, or an int -/
def EvP (c : Cx) (A : Around) (env : Env) (ρ : List (Str × PyData)) (σ : List (Str × List PyData)) (e : Option Expr) (d : Option Int) : Prop :=
  ∀ μ s, EnvOK c env μ ρ σ s.heap → ∀ (Q : Value → Shared → Prop) (E : Value → Shared → Prop), (∀ v h' tk, Kp s.heap h' → IsPart v d → Q v { s with heap := h', toks := tk }) → wpAny (model c.prog c.w) A (evalPart e env) Q E s
theorem EvP.none : EvP c A env ρ σ none none := fun _ s _ Q E hQ => wpAny_pure (hQ _ s.heap s.toks Kp.rfl .none)
theorem EvP.some {e i} (h : Ev c A env ρ σ e (.int i)) : EvP c A env ρ σ (some e) (some i) := fun μ s ok Q E hQ =>
  h μ s ok _ _ fun v g t k r => by obtain ⟨u, rfl⟩ := r.int_inv; exact hQ _ g t k (.int _ _)

theorem Ev.slice_str {value l u p pos x lo hi} (h1 : Ev c A env ρ σ value (.str x)) (hl : EvP c A env ρ σ l lo) (hu : EvP c A env ρ σ u hi) (hz : x.length ≤ sizeLine) :
    Ev c A env ρ σ (.Subscript value (.Slice l u none p) pos) (.str (Txt.slice x lo hi)) := fun μ s ok Q E hQ =>
  Subscript_ (h1 μ s ok _ _ fun v1 g1 t1 k1 r1 => wpAny_Slice (hl μ _ (ok.keeps k1) _ _ fun vl g2 t2 k2 p2 => hu μ _ (ok.keeps (k1.trans k2)) _ _ fun vu g3 t3 k3 p3 => by
    refine evalPart_none_step ?_
    obtain ⟨t, rfl⟩ := r1.str_inv
    have K : Kp s.heap g3 := k1.trans (k2.trans k3)
    have fin : ∀ {i}, ItemOn (model c.prog c.w) A E (.str x t) i Q { s with heap := g3.push { cls := .type "slice", data := .fields #[vl, vu, .none] }, toks := t3 } → wpAny (model c.prog c.w) A (subscriptTail value (.Slice l u none p) (.str x t) i) Q E { s with heap := g3.push { cls := .type "slice", data := .fields #[vl, vu, .none] }, toks := t3 } := by
      intro i hI
      obtain ⟨T, id, a, b, g⟩ := hI
      exact tail_any b a g rfl
    refine fin ?_
    cases p2 with
    | none => cases p3 with
      | none => exact SBH.sliceItem_nn (s := { s with heap := g3, toks := t3 }) (kp_kept s.heap) K (fun h' t' k P => hQ _ h' k P rd_str) hz
      | int j uj => exact SBH.sliceItem_ns (s := { s with heap := g3, toks := t3 }) (kp_kept s.heap) K (fun h' t' k P => hQ _ h' k P rd_str) hz
    | int i ui => cases p3 with
      | none => exact SBH.sliceItem_sn (s := { s with heap := g3, toks := t3 }) (kp_kept s.heap) K (fun h' t' k P => hQ _ h' k P rd_str) hz
      | int j uj => exact SBH.sliceItem_ss (s := { s with heap := g3, toks := t3 }) (kp_kept s.heap) K (fun h' t' k P => hQ _ h' k P rd_str) hz))

def pickD (ds : List PyData) (lo hi st : Option Int) : List PyData :=
  (sliceRange (sliceBounds lo hi st ds.length).1 (sliceBounds lo hi st ds.length).2.1 (sliceBounds lo hi st ds.length).2.2).filterMap (ds[·]?)
theorem rdAll_pick {μ h} {vs : Array Value} {ds : List PyData} (r : RdAll μ h vs.toList ds) (l : List Nat) : RdAll μ h (l.filterMap (vs[·]?)) (l.filterMap (ds[·]?)) := by
  induction l with
  | nil => exact .nil
  | cons i l ih =>
    rw [List.filterMap_cons, List.filterMap_cons]
    cases hd : ds[i]? with
    | none =>
      have e : vs[i]? = none := by
        cases hv : vs[i]? with
        | none => rfl
        | some v => obtain ⟨d, e, _⟩ := r.get' i (by simpa using hv); rw [hd] at e; cases e
      rw [e]; exact ih
    | some d =>
      obtain ⟨v, e, rv⟩ := r.get i hd
      have e' : vs[i]? = some v := by simpa using e
      rw [e']; exact .cons rv ih


theorem lsRd {μ h vs ds n} (lv : Live μ h) (r : RdAll μ h vs.toList ds) : Rd μ (h.push { cls := .type "list", data := .seq vs n }) (.ref h.objs.size) (.list ds) :=
  (lsAt_push r).rd' fun a e => by cases e; exact lv.fresh
theorem tupRd {μ h vs ds n} (lv : Live μ h) (r : RdAll μ h vs.toList ds) : Rd μ (h.push { cls := .type "tuple", data := .seq vs n }) (.ref h.objs.size) (.tuple ds) := by
  obtain ⟨as, r⟩ := r.keeps (Kp.push (h := h) { cls := .type "tuple", data := .seq vs n })
  exact ⟨_, .tuple (hideAll_get μ (Heap.get?_push_size _ rfl) lv.fresh) rfl rfl r⟩

theorem EvL.slice {value l u st p pos ds lo hi k} (h1 : EvL c A env ρ σ value ds) (hl : EvP c A env ρ σ l lo) (hu : EvP c A env ρ σ u hi) (hs : EvP c A env ρ σ st k) (h0 : k ≠ some 0) (hz : ds.length ≤ sizeLine)
    (hsub : ∃ f : Value → Value → List Value, ∀ o i, subscripted (.Slice l u st p) false o i = operate (f o i) (getItem o i)) :
    Ev c A env ρ σ (.Subscript value (.Slice l u st p) pos) (.list (pickD ds lo hi k)) := fun μ s ok Q E hQ =>
  Subscript_ (h1 μ s ok _ _ fun v1 g1 t1 k1 r1 => wpAny_Slice (hl μ _ (ok.keeps k1) _ _ fun vl g2 t2 k2 p2 => hu μ _ (ok.keeps (k1.trans k2)) _ _ fun vu g3 t3 k3 p3 => hs μ _ (ok.keeps (k1.trans (k2.trans k3))) _ _ fun vs g4 t4 k4 p4 => by
    obtain ⟨f, hf⟩ := hsub
    have K : Kp s.heap g4 := k1.trans (k2.trans (k3.trans k4))
    obtain ⟨a, its, rfl, hL, ra⟩ := (r1.keeps (k2.trans (k3.trans k4))).keeps (Kp.push { cls := .type "slice", data := .fields #[vl, vu, vs] })
    have hn : its.size = ds.length := by simpa using ra.length
    refine tail_any hL.typeIs slot_list_getitem.lookup ?_ (hf _ _)
    refine wpAny_getItem_list_slice (s := { s with heap := g4.push { cls := .type "slice", data := .fields #[vl, vu, vs] }, toks := t4 }) hL (Heap.IsSliceOf.new ..) p2 p3 p4 h0 ?_ (by rw [hn]; exact hz)
    refine hQ _ _ _ (K.trans ((Kp.push _).trans (Kp.push _))) (lsRd (ok.live.keeps (K.trans (Kp.push _))) ?_)
    have := rdAll_pick ra (sliceRange (sliceBounds lo hi k its.size).1 (sliceBounds lo hi k its.size).2.1 (sliceBounds lo hi k its.size).2.2)
    unfold slicePick pickD
    rw [← hn]
    simpa using this))

theorem BinOK.add_list {xs ys : List PyData} (hz : xs.length + ys.length ≤ sizeLine) : BinOK c A .Add (.list xs) (.list ys) (.list (xs ++ ys)) := fun μ s v1 v2 lv r1 r2 Q E hQ => by
  obtain ⟨l, vs, rfl, hl, ra⟩ := r1.ls
  obtain ⟨b, ws, rfl, hb, rb⟩ := r2.ls
  obtain ⟨⟨cls, dd, data, sl⟩, ho, hc, n, hd⟩ := id hl
  obtain ⟨⟨cls2, dd2, data2, sl2⟩, ho2, hc2, n2, hd2⟩ := id hb
  simp only at hc hd hc2 hd2
  subst hc hd hc2 hd2
  have e1 : vs.size = xs.length := by simpa using ra.length
  have e2 : ws.size = ys.length := by simpa using rb.length
  refine concat_meets ⟨_, ho, rfl⟩ ⟨_, ho2, rfl⟩ noFill_list_add seq_list_add PySem.F.slot_list_add PySem.F.entry_list_add (PySem.F.args_list_add_2 _ _) (list_addW l b vs ws n n2 dd dd2 sl sl2 (by rw [e1, e2]; exact hz)) ⟨ho, ho2, ?_⟩
  exact hQ _ _ _ (Kp.push _) (lsRd lv (by simpa using ra.append rb))

/-- the items of a display or a call -/
def EvAll (c : Cx) (A : Around) (env : Env) (ρ : List (Str × PyData)) (σ : List (Str × List PyData)) (pos : Pos) (es : List Expr) (ds : List PyData) : Prop :=
  ∀ μ s, EnvOK c env μ ρ σ s.heap → ∀ (Q : List Value → Shared → Prop) (E : Value → Shared → Prop), (∀ vs h' tk, Kp s.heap h' → RdAll μ h' vs ds → Q vs { s with heap := h', toks := tk }) → wpAny (model c.prog c.w) A (spliced (backTo pos (starEach es env))) Q E s
theorem EvAll.nil {pos} : EvAll c A env ρ σ pos [] [] := fun μ s ok Q E hQ => wpAny_items_nil (hQ _ s.heap s.toks Kp.rfl .nil)
theorem EvAll.cons {pos e es d ds} (h1 : Ev c A env ρ σ e d) (h2 : EvAll c A env ρ σ pos es ds) (he : starEach (e :: es) env = (false, eval e env) :: starEach es env) : EvAll c A env ρ σ pos (e :: es) (d :: ds) := fun μ s ok Q E hQ =>
  wpAny_items_cons (h1 μ s ok _ _ fun v g t k r => h2 μ _ (ok.keeps k) _ _ fun vs g' t' k' r' => hQ _ g' t' (k.trans k') (.cons (r.keeps k') r')) he
theorem Ev.list {pos es ds} (h : EvAll c A env ρ σ pos es ds) (hz : ds.length ≤ sizeLine) : Ev c A env ρ σ (.List es pos) (.list ds) := fun μ s ok Q E hQ =>
  List_ (h μ s ok _ _ fun vs g t k r => wpAny_newObj_type (hQ _ _ _ (k.trans (Kp.push _)) (lsRd (ok.live.keeps k) (by simpa using r))) (by show vs.toArray.size ≤ sizeLine; rw [List.size_toArray, r.length]; exact hz))
theorem Ev.tuple {pos es ds n} (h : EvAll c A env ρ σ pos es ds) (hz : ds.length ≤ sizeLine) : Ev c A env ρ σ (.Tuple es n pos) (.tuple ds) := fun μ s ok Q E hQ =>
  Tuple_ (h μ s ok _ _ fun vs g t k r => wpAny_newObj_type (hQ _ _ _ (k.trans (Kp.push _)) (tupRd (ok.live.keeps k) (by simpa using r))) (by show vs.toArray.size ≤ sizeLine; rw [List.size_toArray, r.length]; exact hz))
end
end Mine

end PartB3
section PartB4
open PySem PySem.W PyProof.Rows
namespace Mine

def Room (A : Around) (n : Nat) : Prop := A.handled = none ∧ A.depth + n < recursionLimit ∧ A.units + 4 * n + 100 < cLine
theorem Room.deeper {A : Around} {n : Nat} (env : Env) (r : Room A (n + 1)) : Room (A.deeper env) n := by
  obtain ⟨a, b, d⟩ := r
  refine ⟨a, ?_, ?_⟩
  · show A.depth + 1 + n < _; omega
  · show A.units + 3 + _ + _ < _; omega
theorem Room.units {A : Around} {n : Nat} (r : Room A n) : A.units + 100 < cLine := by obtain ⟨_, _, d⟩ := r; omega
theorem Room.mono {A : Around} {n m : Nat} (r : Room A n) (h : m ≤ n) : Room A m := ⟨r.1, by have := r.2.1; omega, by have := r.2.2; omega⟩

/-- a call of the def at f, on these data, gives this datum -/
def CallsTo (c : Cx) (f : Addr) (n : Nat) (ds : List PyData) (r : PyData) : Prop :=
  ∀ A s vals μ, Room A n → GK c s.heap → Live μ s.heap → RdAll μ s.heap vals ds → ∀ R : Result → Shared → Prop, (∀ v h' tk, Kp s.heap h' → Rd μ h' v r → R (.ok (.ret v)) { s with heap := h', toks := tk }) → codeAny (model c.prog c.w) A (.call (.ref f) ⟨vals, []⟩) R s
def BltTo (c : Cx) (A : Around) (id : String) (ds : List PyData) (r : PyData) : Prop :=
  ∀ s vals μ, GK c s.heap → Live μ s.heap → RdAll μ s.heap vals ds → Yl c A μ (call (.builtin id) vals) r s
def TypTo (c : Cx) (A : Around) (id : String) (ds : List PyData) (r : PyData) : Prop :=
  ∀ s vals μ, GK c s.heap → Live μ s.heap → RdAll μ s.heap vals ds → Yl c A μ (call (.type id) vals) r s

def isFnK (c : Cx) (f : Addr) : Bool := match c.K.lookup f with | some ⟨_, _, .func _, _⟩ => true | _ => false

section
variable {c : Cx} {A : Around} {env : Env} {ρ : List (Str × PyData)} {σ : List (Str × List PyData)}

theorem ld_global {μ s x pos v Q E} (ok : EnvOK c env μ ρ σ s.heap) (hx : env.kindOf x = some .globalImplicit) (hd : (x == ("__debug__" : Str)) = false) (e : nsIn c.K mainGlobals x = some (some v)) (h : Q v s) :
    wpAny (model c.prog c.w) A (eval (.Name x pos) env) Q E s :=
  Calls.Name_function_global ok.fn hx (Calls.loadGlobal_global (by rw [ok.gl]; exact ok.gk.g) (mg_of ok.gk.inK ok.gk.g e) h) hd
theorem ld_builtin {μ s x pos v Q E} (ok : EnvOK c env μ ρ σ s.heap) (hx : env.kindOf x = some .globalImplicit) (hd : (x == ("__debug__" : Str)) = false) (e : nsIn c.K mainGlobals x = some none) (hb : bootBuiltins x = some v) (hn : x ≠ ("__name__" : Str)) (h : Q v s) :
    wpAny (model c.prog c.w) A (eval (.Name x pos) env) Q E s :=
  Calls.Name_function_global ok.fn hx (Calls.loadGlobal_builtin (by rw [ok.gl]; exact ok.gk.g) (mg_none_of ok.gk.inK ok.gk.g e) (by rw [ok.bl]; exact ok.gk.b) ((ok.gk.builtins x hn).trans hb) h) hd

theorem evalArgs_items {f : Value} {pos : Pos} {e : Expr} {es : List Expr} {Q : Args → Shared → Prop} {E s M} (hs : starEach (e :: es) env = (false, eval e env) :: starEach es env)
    (h : wpAny M A (spliced (backTo pos (starEach (e :: es) env))) (fun vs s' => Q { pos := vs } s') E s) : wpAny M A (evalArgs f true (backTo pos (starEach (e :: es) env)) []) Q E s := by
  rw [hs] at h ⊢
  exact Calls.evalArgs_plain h

theorem Ev.call {x np pos a1 es ds r f n} (hx : env.kindOf x = some .globalImplicit) (hd : (x == ("__debug__" : Str)) = false) (e : nsIn c.K mainGlobals x = some (some (.ref f))) (hf : isFnK c f = true)
    (ha : EvAll c A env ρ σ pos (a1 :: es) ds) (hs : starEach (a1 :: es) env = (false, eval a1 env) :: starEach es env)
    (hr : Room A n) (hc : CallsTo c f n ds r) : Ev c A env ρ σ (.Call (.Name x np) (a1 :: es) [] pos) r := fun μ s ok Q E hQ => by
  refine Call_Name rfl (ld_global ok hx hd e ?_)
  have ⟨o, fd, ho, hdt⟩ : ∃ o fd, c.K.lookup f = some o ∧ o.data = .func fd := by
    unfold isFnK at hf
    split at hf
    · rename_i fd _ ho; exact ⟨_, fd, ho, rfl⟩
    · cases hf
  refine Calls.callWith_function (o := o) (fd := fd) (evalArgs_items hs (ha μ s ok _ _ fun vs g t k r' => ?_))
  refine ⟨⟨(ok.gk.keeps k).inK _ _ ho, hdt⟩, ?_⟩
  exact wpAny_call (hc A _ vs μ hr (ok.gk.keeps k) (ok.live.keeps k) r' _ fun v g' t' k' rv => hQ v g' t' (k.trans k') rv)
theorem Ev.blt {x np pos a1 es ds r id} (hx : env.kindOf x = some .globalImplicit) (hd : (x == ("__debug__" : Str)) = false) (e : nsIn c.K mainGlobals x = some none) (hb : bootBuiltins x = some (.builtin id)) (hn : x ≠ ("__name__" : Str))
    (ha : EvAll c A env ρ σ pos (a1 :: es) ds) (hs : starEach (a1 :: es) env = (false, eval a1 env) :: starEach es env) (hp : (backTo pos (starEach (a1 :: es) env)).any (·.1) = false)
    (hc : BltTo c A id ds r) : Ev c A env ρ σ (.Call (.Name x np) (a1 :: es) [] pos) r := fun μ s ok Q E hQ => by
  refine Call_Name rfl (ld_builtin ok hx hd e hb hn ?_)
  refine Calls.callWith_builtin hp (evalArgs_items hs (ha μ s ok _ _ fun vs g t k r' => ?_))
  exact hc _ vs μ (ok.gk.keeps k) (ok.live.keeps k) r' _ _ fun v g' t' k' rv => hQ v g' t' (k.trans k') rv
theorem Ev.typ {x np pos a1 es ds r id} (hx : env.kindOf x = some .globalImplicit) (hd : (x == ("__debug__" : Str)) = false) (e : nsIn c.K mainGlobals x = some none) (hb : bootBuiltins x = some (.type id)) (hn : x ≠ ("__name__" : Str))
    (ha : EvAll c A env ρ σ pos (a1 :: es) ds) (hs : starEach (a1 :: es) env = (false, eval a1 env) :: starEach es env) (hp : (backTo pos (starEach (a1 :: es) env)).any (·.1) = false)
    (hc : TypTo c A id ds r) : Ev c A env ρ σ (.Call (.Name x np) (a1 :: es) [] pos) r := fun μ s ok Q E hQ => by
  refine Call_Name rfl (ld_builtin ok hx hd e hb hn ?_)
  refine PyProof.Rows.callWith_type hp (evalArgs_items hs (ha μ s ok _ _ fun vs g t k r' => ?_))
  exact hc _ vs μ (ok.gk.keeps k) (ok.live.keeps k) r' _ _ fun v g' t' k' rv => hQ v g' t' (k.trans k') rv

/-- methods -/
def Meth0OK (c : Cx) (A : Around) (name : Str) (d r : PyData) : Prop := ∀ μ s ov pos Q E, Live μ s.heap → Rd μ s.heap ov d → K1 s μ r Q → MethodOnS c.prog c.w A E name ov pos [] Q s
def Meth1OK (c : Cx) (A : Around) (name : Str) (d d1 r : PyData) : Prop := ∀ μ s ov pos a Q E, Live μ s.heap → Rd μ s.heap ov d → Yl c A μ a d1 s → K1 s μ r Q → MethodOnS c.prog c.w A E name ov pos [(false, a)] Q s
theorem Ev.meth0 {o name apos pos d r} (h : Ev c A env ρ σ o d) (hm : Meth0OK c A name d r) (hbase : attributeBase o name env (eval o env) = eval o env) (hline : (apos.endLine == pos.line) = true) :
    Ev c A env ρ σ (.Call (.Attribute o name apos) [] [] pos) r := fun μ s ok Q E hQ =>
  Call_method0 hbase hline (h μ s ok _ _ fun v g t k rv => hm μ _ v pos Q E (ok.live.keeps k) rv fun v' g' t' k' r' => hQ v' g' t' (k.trans k') r')
theorem Ev.meth1 {o e name apos pos d d1 r} (h : Ev c A env ρ σ o d) (he : Ev c A env ρ σ e d1) (hm : Meth1OK c A name d d1 r) (hbase : attributeBase o name env (eval o env) = eval o env) (hline : (apos.endLine == pos.line) = true)
    (hs : starEach [e] env = [(false, eval e env)]) : Ev c A env ρ σ (.Call (.Attribute o name apos) [e] [] pos) r := fun μ s ok Q E hQ =>
  Call_method1 hbase hs hline (h μ s ok _ _ fun v g t k rv => hm μ _ v pos _ Q E (ok.live.keeps k) rv (he μ _ (ok.keeps k)) fun v' g' t' k' r' => hQ v' g' t' (k.trans k') r')

theorem Meth0OK.lower {x : Str} (hf : (Txt.lower x).length ≤ sizeLine) : Meth0OK c A "lower" (.str x) (.str (Txt.lower x)) := fun μ s ov pos Q E lv r hQ => by
  obtain ⟨t, rfl⟩ := r.str_inv; exact SB.lower (by simpa [Builtin.Str.tooLong] using hf) (hQ _ s.heap _ Kp.rfl rd_str)
theorem Meth0OK.upper {x : Str} (hf : (Txt.upper x).length ≤ sizeLine) : Meth0OK c A "upper" (.str x) (.str (Txt.upper x)) := fun μ s ov pos Q E lv r hQ => by
  obtain ⟨t, rfl⟩ := r.str_inv; exact SB.upper (by simpa [Builtin.Str.tooLong] using hf) (hQ _ s.heap _ Kp.rfl rd_str)
theorem Meth1OK.find {x y : Str} : Meth1OK c A "find" (.str x) (.str y) (.int (Txt.find x y)) := fun μ s ov pos a Q E lv r ha hQ => by
  obtain ⟨t, rfl⟩ := r.str_inv
  exact SB.find (ha _ _ fun v g tk k r' => by obtain ⟨u, rfl⟩ := r'.str_inv; exact ⟨_, _, rfl, hQ _ g _ k rd_int⟩)
theorem Meth1OK.rfind {x y : Str} : Meth1OK c A "rfind" (.str x) (.str y) (.int (Txt.rfind x y)) := fun μ s ov pos a Q E lv r ha hQ => by
  obtain ⟨t, rfl⟩ := r.str_inv
  exact SB.rfind (ha _ _ fun v g tk k r' => by obtain ⟨u, rfl⟩ := r'.str_inv; exact ⟨_, _, rfl, hQ _ g _ k rd_int⟩)
theorem Meth1OK.startswith {x y : Str} : Meth1OK c A "startswith" (.str x) (.str y) (.bool (Txt.startswith x y)) := fun μ s ov pos a Q E lv r ha hQ => by
  obtain ⟨t, rfl⟩ := r.str_inv
  exact SB.startswith (ha _ _ fun v g tk k r' => by obtain ⟨u, rfl⟩ := r'.str_inv; exact ⟨_, _, rfl, hQ _ g tk k rd_bool⟩)
theorem rdAll_strs {μ h} : ∀ {vs : List Value} {ts : List Str}, RdAll μ h vs (ts.map .str) → ∃ l, vs = strValues l ∧ l.map (·.1) = ts
  | vs, [], r => ⟨[], by rw [r.nil_inv]; rfl, rfl⟩
  | vs, t :: ts, r => by
    obtain ⟨v, vs', rfl, h1, h2⟩ := r.cons_inv
    obtain ⟨u, rfl⟩ := h1.str_inv
    obtain ⟨l, rfl, e⟩ := rdAll_strs h2
    exact ⟨(t, u) :: l, rfl, by simp [e]⟩
theorem rdAll_of_strs {μ h} : ∀ (l : List (Str × Tok)), RdAll μ h (strValues l) ((l.map (·.1)).map .str)
  | [] => .nil
  | p :: l => .cons rd_str (rdAll_of_strs l)
theorem Meth1OK.join {x : Str} {ts : List Str} (hok : JoinOk x ts = true) : Meth1OK c A "join" (.str x) (.list (ts.map .str)) (.str (Txt.join x ts)) := fun μ s ov pos a Q E lv r ha hQ => by
  obtain ⟨t, rfl⟩ := r.str_inv
  refine SB.join (ha _ _ fun v g tk k r' => ?_)
  obtain ⟨D, vs, rfl, hl, ra⟩ := r'.ls
  obtain ⟨l, e, rfl⟩ := rdAll_strs ra
  exact ⟨D, l, rfl, by rw [← e]; simpa using hl, _, rfl, hok, fun t' k' => hQ _ g _ k rd_str⟩
theorem Meth1OK.split {x y : Str} (hy : (y.length == 0) = false) (hx : x.length ≤ sizeLine) (hn : (Builtin.Str.partsBetween x (Builtin.Str.occurrences x y 0 x.length (x.length + 1)) y.length).length ≤ sizeLine) :
    Meth1OK c A "split" (.str x) (.str y) (.list ((Txt.split x y).map .str)) := fun μ s ov pos a Q E lv r ha hQ => by
  obtain ⟨t, rfl⟩ := r.str_inv
  refine ⟨"str", _, F.plainAttrs_str, F.slot_str_split, F.type_str_split, typeIs_str _ _ _, (fun _ e => nomatch e),
    method1_meets F.slot_str_split F.entry_str_split (ha _ _ fun v g tk k r' => ?_)⟩
  obtain ⟨u, rfl⟩ := r'.str_inv
  refine ⟨typeIs_str _ _ _, F.args_str_split_2 _ _, ?_⟩
  have fin : ∀ (l : List (Str × Tok)) tk', l.map (·.1) = Txt.split x y → Q (.ref g.objs.size) { s with heap := g.push { cls := .type "list", data := .seq (strValues l).toArray }, toks := tk' } := fun l tk' e =>
    hQ _ _ _ (k.trans (Kp.push _)) (e ▸ lsRd (lv.keeps k) (by simpa using rdAll_of_strs l))
  cases h1 : (decide (x.length < y.length) || decide (Builtin.Str.strKind x < Builtin.Str.strKind y))
  · cases hf : (Builtin.Str.occurrences x y 0 x.length (x.length + 1)).isEmpty
    · refine ⟨_, meets_str_split_sep x y t u h1 hy hf hx hn, ?_⟩
      show wants Q E _ { s with toks := _, heap := g.push { cls := .type "list", data := .seq (strsFrom tk (Builtin.Str.partsBetween x (Builtin.Str.occurrences x y 0 x.length (x.length + 1)) y.length)).toArray } }
      rw [strsFrom_eq]
      exact fin (numbered tk _) _ ((numbered_texts _ _).trans ((if_neg (ne_true_of_eq_false h1)).trans (if_neg (ne_true_of_eq_false hf))).symm)
    · exact ⟨_, meets_str_split_not_found x y t u h1 hy hf, fin [(x, t)] _ ((if_neg (ne_true_of_eq_false h1)).trans (if_pos hf)).symm⟩
  · exact ⟨_, meets_str_split_cannot_occur x y t u h1, fin [(x, t)] _ (if_pos h1).symm⟩

theorem BltTo.len_str {x : Str} (hz : x.length ≤ sizeLine) : BltTo c A "len" [.str x] (.int x.length) := fun s vals μ gk lv r Q E hQ => by
  obtain ⟨v, vs, rfl, h1, h2⟩ := r.cons_inv
  rw [h2.nil_inv]
  obtain ⟨t, rfl⟩ := h1.str_inv
  rw [sizeLine_eq] at hz
  exact P.len_str (by omega) (hQ _ s.heap _ Kp.rfl rd_int)
end
end Mine

end PartB4
section PartB5
open PySem PySem.W PyProof.Rows
namespace Mine

theorem Rd.to {μ μ' : List Addr} {h h' : Heap} {v d} (k : ∀ b o, b ∉ μ → h.get? b = some o → b ∉ μ' ∧ h'.get? b = some o) (r : Rd μ h v d) : Rd μ' h' v d := by
  obtain ⟨as, r⟩ := r
  refine ⟨as, Reads.keeps (fun b o e => ?_) r⟩
  have hb : b ∉ μ := fun hb => by rw [hideAll_none μ hb] at e; cases e
  have := k b o hb (of_hideAll μ e)
  exact hideAll_get μ' this.2 this.1
theorem RdAll.to {μ μ' : List Addr} {h h' : Heap} {v d} (k : ∀ b o, b ∉ μ → h.get? b = some o → b ∉ μ' ∧ h'.get? b = some o) (r : RdAll μ h v d) : RdAll μ' h' v d := by
  obtain ⟨as, r⟩ := r
  refine ⟨as, ReadsAll.keeps (fun b o e => ?_) r⟩
  have hb : b ∉ μ := fun hb => by rw [hideAll_none μ hb] at e; cases e
  have := k b o hb (of_hideAll μ e)
  exact hideAll_get μ' this.2 this.1
theorem Rd.weaken {μ μ' : List Addr} {h : Heap} {v d} (k : ∀ b, b ∈ μ' → b ∈ μ) (r : Rd μ h v d) : Rd μ' h v d := r.to fun b o hb e => ⟨fun q => hb (k b q), e⟩

def upd {α : Type} : List (Str × α) → Str → α → List (Str × α)
  | [], x, d => [(x, d)]
  | (y, e) :: r, x, d => if x == y then (y, d) :: r else (y, e) :: upd r x d
theorem upd_lookup {α : Type} : ∀ (l : List (Str × α)) (x y : Str) (d : α), (upd l x d).lookup y = if y == x then some d else l.lookup y
  | [], x, y, d => by simp only [upd, List.lookup]; cases y == x <;> rfl
  | (z, e) :: r, x, y, d => by
    unfold upd
    by_cases hxz : (x == z) = true
    · rw [if_pos hxz]
      have hxz' := beq_iff_eq.mp hxz; subst hxz'
      simp only [List.lookup_cons]
      cases y == x <;> rfl
    · rw [if_neg hxz]
      simp only [List.lookup_cons]
      by_cases hyz : (y == z) = true
      · have hyz' := beq_iff_eq.mp hyz; subst hyz'
        have hne : (y == x) = false := by
          simp only [beq_eq_false_iff_ne]; intro e; subst e; simp at hxz
        simp [hne]
      · simp only [hyz]
        exact upd_lookup r x y d

def Val (env : Env) (m cm : Str → Option Value) (x : Str) (v : Value) : Prop :=
  (env.kindOf x = some .local ∧ m x = some v) ∨ (env.kindOf x = some .cell ∧ (∃ a, env.cells.lookup x = some a) ∧ cm x = some v)

def hid (env : Env) (ν : List (Str × Addr)) (μ₀ : List Addr) : List Addr := env.locals :: (env.cells.map (·.2) ++ (ν.map (·.2) ++ μ₀))
theorem mem_hid {env ν μ₀ a} : a ∈ hid env ν μ₀ ↔ a = env.locals ∨ a ∈ env.cells.map (·.2) ∨ a ∈ ν.map (·.2) ∨ a ∈ μ₀ := by simp [hid]

/-- within a call: the frame, its cells, all that stood before kept -/
structure IC (s₀ : Shared) (env : Env) (m cm : Str → Option Value) (s : Shared) : Prop where
  same : ∃ h tk, s = { s₀ with heap := h, toks := tk }
  ns : s.heap.Ns env.locals m
  keep : Kp s₀.heap s.heap
  cell : ∀ n a, env.cells.lookup n = some a → s.heap.IsCell a (cm n)
  apart : env.cells.Pairwise fun x y => x.2 ≠ y.2
  offL : s₀.heap.get? env.locals = none
  offC : ∀ p ∈ env.cells, s₀.heap.get? p.2 = none
theorem none_of_size {h : Heap} {a : Addr} (q : h.objs.size ≤ a) : h.get? a = none := by
  cases e : h.get? a with
  | none => rfl
  | some o => exact absurd (Heap.lt_size e) (Nat.not_lt.mpr q)
theorem IC.of {s₀ env m cm s} (x : InCallC s₀ env.locals m env.cells cm s) : IC s₀ env m cm s :=
  ⟨x.toInCall.same, x.toInCall.ns, x.toInCall.keep, x.cell, x.apart, none_of_size x.toInCall.fresh, fun p hp => none_of_size (Nat.le_trans x.toInCall.fresh (Nat.le_of_lt (x.above p.1 p.2 hp)))⟩
theorem ne_of_none {h : Heap} {a b : Addr} {o : Obj} (q : h.get? a = none) (e : h.get? b = some o) : b ≠ a := by rintro rfl; rw [q] at e; cases e

structure StP (c : Cx) (s₀ : Shared) (env : Env) (μ₀ : List Addr) (ρ : List (Str × PyData)) (σ : List (Str × List PyData)) (m cm : Str → Option Value) (ν : List (Str × Addr)) (s : Shared) : Prop where
  ic : IC s₀ env m cm s
  gk : GK c s₀.heap
  fn : env.scope.kind = .function
  gl : env.globals = mainGlobals
  bl : env.builtins = builtinsNs
  cn : ∀ p ∈ env.cells, env.cells.lookup p.1 = some p.2
  vars : ∀ x d, ρ.lookup x = some d → ∃ v, Val env m cm x v ∧ Rd (hid env ν μ₀) s.heap v d
  muts : ∀ x ds, σ.lookup x = some ds → ∃ a vs, ν.lookup x = some a ∧ Val env m cm x (.ref a) ∧ s.heap.PlainList a vs ∧ RdAll (hid env ν μ₀) s.heap vs.toList ds
  nd : (ν.map (·.2)).Nodup
  new : ∀ p ∈ ν, s₀.heap.get? p.2 = none
  out : Live μ₀ s₀.heap
  lv : ∀ p ∈ ν, ∃ vs, s.heap.PlainList p.2 vs

def St (c : Cx) (s₀ : Shared) (env : Env) (μ₀ : List Addr) (ρ : List (Str × PyData)) (σ : List (Str × List PyData)) (s : Shared) : Prop :=
  ∃ m cm ν, StP c s₀ env μ₀ ρ σ m cm ν s

theorem StP.live {c s₀ env μ₀ ρ σ m cm ν s} (S : StP c s₀ env μ₀ ρ σ m cm ν s) : Live (hid env ν μ₀) s.heap := fun a ha => by
  rcases mem_hid.mp ha with rfl | h | h | h
  · obtain ⟨o, _, _, ho, _⟩ := S.ic.ns; exact ⟨o, ho⟩
  · obtain ⟨p, hp, rfl⟩ := List.mem_map.mp h
    obtain ⟨o, ho, _⟩ := S.ic.cell _ _ (S.cn p hp); exact ⟨o, ho⟩
  · obtain ⟨p, hp, rfl⟩ := List.mem_map.mp h
    obtain ⟨vs, n, ho⟩ := S.lv p hp; exact ⟨_, ho⟩
  · obtain ⟨o, ho⟩ := S.out a h; exact ⟨o, S.ic.keep _ _ ho⟩
theorem StP.env {c s₀ env μ₀ ρ σ m cm ν s} (S : StP c s₀ env μ₀ ρ σ m cm ν s) : EnvOK c env (hid env ν μ₀) ρ σ s.heap where
  gk := S.gk.keeps S.ic.keep
  fn := S.fn
  gl := S.gl
  bl := S.bl
  vars := fun x d e => by
    obtain ⟨v, V, r⟩ := S.vars x d e
    rcases V with ⟨k, hm⟩ | ⟨k, ⟨a, ha⟩, hm⟩
    · exact ⟨v, .loc k S.ic.ns hm, r⟩
    · exact ⟨v, .cell k ha (hm ▸ S.ic.cell x a ha), r⟩
  muts := fun x ds e => by
    obtain ⟨a, vs, _, V, ⟨n, hl⟩, r⟩ := S.muts x ds e
    have L : LsAt (hid env ν μ₀) s.heap (.ref a) ds := ⟨a, vs, rfl, ⟨_, hl, rfl, n, rfl⟩, r⟩
    rcases V with ⟨k, hm⟩ | ⟨k, ⟨b, hb⟩, hm⟩
    · exact ⟨a, .loc k S.ic.ns hm, L⟩
    · exact ⟨a, .cell k hb (hm ▸ S.ic.cell x b hb), L⟩
  live := S.live

theorem StP.grow {c s₀ env μ₀ ρ σ m cm ν s} {h' : Heap} {tk : Nat} (S : StP c s₀ env μ₀ ρ σ m cm ν s) (k : Kp s.heap h') : StP c s₀ env μ₀ ρ σ m cm ν { s with heap := h', toks := tk } where
  ic := ⟨(let ⟨h, t, e⟩ := S.ic.same; ⟨h', tk, by rw [e]⟩), S.ic.ns.keeps k, fun b o e => k b o (S.ic.keep b o e), fun n a e => (S.ic.cell n a e).keeps k, S.ic.apart, S.ic.offL, S.ic.offC⟩
  gk := S.gk
  fn := S.fn
  gl := S.gl
  bl := S.bl
  cn := S.cn
  vars := fun x d e => let ⟨v, V, r⟩ := S.vars x d e; ⟨v, V, r.keeps k⟩
  muts := fun x ds e => let ⟨a, vs, h1, h2, ⟨n, h3⟩, h4⟩ := S.muts x ds e; ⟨a, vs, h1, h2, ⟨n, k _ _ h3⟩, h4.keeps k⟩
  nd := S.nd
  new := S.new
  out := S.out
  lv := fun p hp => let ⟨vs, n, e⟩ := S.lv p hp; ⟨vs, n, k _ _ e⟩

theorem ne_of_ns {h : Heap} {a L : Addr} {vs m} (p : h.PlainList a vs) (n : h.Ns L m) : a ≠ L := by
  rintro rfl
  obtain ⟨k, e⟩ := p
  obtain ⟨o, es, ep, ho, hd, _⟩ := n
  rw [e] at ho; cases ho; cases hd
theorem ne_of_cell {h : Heap} {a b : Addr} {vs v} (p : h.PlainList a vs) (n : h.IsCell b v) : a ≠ b := by
  rintro rfl
  obtain ⟨k, e⟩ := p
  obtain ⟨o, ho, hd⟩ := n
  rw [e] at ho; cases ho; cases hd

theorem ne_cell_ns {h : Heap} {a L : Addr} {v m} (p : h.IsCell a v) (n : h.Ns L m) : a ≠ L := by
  rintro rfl
  obtain ⟨o, ho, hd⟩ := p
  obtain ⟨o', es, ep, ho', hd', _⟩ := n
  rw [ho] at ho'; cases ho'; rw [hd] at hd'; cases hd'

/-- where a name may be stored -/
def Slotted (env : Env) (x : Str) : Prop := env.kindOf x = some .local ∨ (env.kindOf x = some .cell ∧ ∃ a, env.cells.lookup x = some a)

end Mine

end PartB5
section PartB6
open PySem PySem.W PyProof.Rows
namespace Mine

def del {α : Type} (l : List (Str × α)) (x : Str) : List (Str × α) := l.filter fun p => !(p.1 == x)
theorem del_lookup {α : Type} : ∀ (l : List (Str × α)) (x y : Str), (del l x).lookup y = if y == x then none else l.lookup y
  | [], x, y => by simp [del]
  | (z, e) :: r, x, y => by
    have ih := del_lookup r x y
    unfold del at ih ⊢
    rw [List.filter_cons]
    by_cases hz : (z == x) = true
    · simp only [hz, Bool.not_true, Bool.false_eq_true, if_false]
      rw [ih]
      have := beq_iff_eq.mp hz; subst this
      by_cases hy : (y == z) = true
      · simp [hy]
      · have : (y == z) = false := by simpa using hy
        simp [this, List.lookup_cons]
    · have hz' : (z == x) = false := by simpa using hz
      simp only [hz', Bool.not_false, if_true]
      rw [List.lookup_cons, List.lookup_cons, ih]
      by_cases hy : (y == z) = true
      · have := beq_iff_eq.mp hy; subst this
        simp [hz']
      · have : (y == z) = false := by simpa using hy
        simp [this]

theorem StP.put {c s₀ env μ₀ ρ σ m cm ν s x v A Q E} (S : StP c s₀ env μ₀ ρ σ m cm ν s) (hk : Slotted env x)
    (h : ∀ s' m' cm', StP c s₀ env μ₀ (del ρ x) (del σ x) m' cm' ν s' → Val env m' cm' x v → (∀ b o, b ∉ hid env ν μ₀ → s.heap.get? b = some o → s'.heap.get? b = some o) → (∀ a vs, s.heap.PlainList a vs → s'.heap.PlainList a vs) → Q () s') :
    wpAny (model c.prog c.w) A (storeName env x v) Q E s := by
  have hden : ∀ {α : Type} {l : List (Str × α)} {y : Str} {d : α}, (del l x).lookup y = some d → y ≠ x ∧ l.lookup y = some d := fun {α l y d} e => by
    rw [del_lookup] at e
    by_cases hy : (y == x) = true
    · rw [if_pos hy] at e; cases e
    · rw [if_neg hy] at e; exact ⟨fun q => hy (by simp [q]), e⟩
  rcases hk with hl | ⟨hl, a, ha⟩
  · refine wpAny_storeName_local hl S.ic.ns (fun h' hn' hs' => ?_) (by rw [S.fn]; rfl)
    have keep : ∀ b o, b ∉ hid env ν μ₀ → s.heap.get? b = some o → b ∉ hid env ν μ₀ ∧ h'.get? b = some o := fun b o hb e => ⟨hb, hs'.extBut b o (fun q => hb (mem_hid.mpr (.inl q))) e⟩
    have keepL : ∀ a vs, s.heap.PlainList a vs → h'.PlainList a vs := fun a vs ⟨n, e⟩ => ⟨n, hs'.extBut a _ (ne_of_ns ⟨n, e⟩ S.ic.ns) e⟩
    have other : ∀ y w, y ≠ x → Val env m cm y w → Val env (fun y => if y = x then some v else m y) cm y w := fun y w hy V => by
      rcases V with ⟨k, e⟩ | V
      · exact .inl ⟨k, by simp [hy, e]⟩
      · exact .inr V
    refine h _ (fun y => if y = x then some v else m y) cm ⟨⟨?_, hn', fun b o e => ?_, fun k b hb => ?_, S.ic.apart, S.ic.offL, S.ic.offC⟩, S.gk, S.fn, S.gl, S.bl, S.cn, fun y d' e => ?_, fun y ds e => ?_, S.nd, S.new, S.out, fun p hp => ?_⟩ (.inl ⟨hl, by simp⟩) (fun b o hb e => (keep b o hb e).2) keepL
    · obtain ⟨h₁, tk, e⟩ := S.ic.same; exact ⟨h', _, by rw [e]⟩
    · exact hs'.extBut b o (ne_of_none S.ic.offL e) (S.ic.keep b o e)
    · exact (S.ic.cell k b hb).sameBut hs' (ne_cell_ns (S.ic.cell k b hb) S.ic.ns)
    · obtain ⟨hy, e⟩ := hden e
      obtain ⟨w, V, rw'⟩ := S.vars y d' e
      exact ⟨w, other y w hy V, rw'.to keep⟩
    · obtain ⟨hy, e⟩ := hden e
      obtain ⟨b, vs, h1, h2, h3, h4⟩ := S.muts y ds e
      exact ⟨b, vs, h1, other y _ hy h2, keepL _ _ h3, h4.to keep⟩
    · obtain ⟨vs, e⟩ := S.lv p hp
      exact ⟨vs, keepL _ _ e⟩
  · have hLc := ne_cell_ns (S.ic.cell x a ha) S.ic.ns
    have hmem : a ∈ hid env ν μ₀ := mem_hid.mpr (.inr (.inl (List.mem_map.mpr ⟨(x, a), mem_of_lookup ha, rfl⟩)))
    refine wpAny_storeName_cell S.fn hl ha (S.ic.cell x a ha) fun h' hc' hs' => ?_
    have keep : ∀ b o, b ∉ hid env ν μ₀ → s.heap.get? b = some o → b ∉ hid env ν μ₀ ∧ h'.get? b = some o := fun b o hb e => ⟨hb, hs'.extBut b o (fun q => hb (q ▸ hmem)) e⟩
    have keepL : ∀ a vs, s.heap.PlainList a vs → h'.PlainList a vs := fun b vs ⟨n, e⟩ => ⟨n, hs'.extBut b _ (ne_of_cell ⟨n, e⟩ (S.ic.cell x a ha)) e⟩
    have other : ∀ y w, y ≠ x → Val env m cm y w → Val env m (fun y => if y = x then some v else cm y) y w := fun y w hy V => by
      rcases V with V | ⟨k, b, e⟩
      · exact .inl V
      · exact .inr ⟨k, b, by simp [hy, e]⟩
    refine h _ m (fun y => if y = x then some v else cm y) ⟨⟨?_, S.ic.ns.sameBut hs' (Ne.symm hLc), fun b o e => ?_, fun k b hb => ?_, S.ic.apart, S.ic.offL, S.ic.offC⟩, S.gk, S.fn, S.gl, S.bl, S.cn, fun y d' e => ?_, fun y ds e => ?_, S.nd, S.new, S.out, fun p hp => ?_⟩ (.inr ⟨hl, ⟨a, ha⟩, by simp⟩) (fun b o hb e => (keep b o hb e).2) keepL
    · obtain ⟨h₁, tk, e⟩ := S.ic.same; exact ⟨h', _, by rw [e]⟩
    · exact hs'.extBut b o (ne_of_none (S.ic.offC _ (mem_of_lookup ha)) e) (S.ic.keep b o e)
    · by_cases hkn : k = x
      · subst hkn
        rw [ha] at hb; cases hb
        simpa using hc'
      · rw [if_neg hkn]
        exact (S.ic.cell k b hb).sameBut hs' fun e => hkn (name_of_addr S.ic.apart (mem_of_lookup hb) (e ▸ mem_of_lookup ha))
    · obtain ⟨hy, e⟩ := hden e
      obtain ⟨w, V, rw'⟩ := S.vars y d' e
      exact ⟨w, other y w hy V, rw'.to keep⟩
    · obtain ⟨hy, e⟩ := hden e
      obtain ⟨b, vs, h1, h2, h3, h4⟩ := S.muts y ds e
      exact ⟨b, vs, h1, other y _ hy h2, keepL _ _ h3, h4.to keep⟩
    · obtain ⟨vs, e⟩ := S.lv p hp
      exact ⟨vs, keepL _ _ e⟩

theorem StP.store {c s₀ env μ₀ ρ σ m cm ν s x v d A Q E} (S : StP c s₀ env μ₀ ρ σ m cm ν s) (hk : Slotted env x) (hx : σ.lookup x = none) (r : Rd (hid env ν μ₀) s.heap v d)
    (h : ∀ s', St c s₀ env μ₀ (upd ρ x d) σ s' → Q () s') : wpAny (model c.prog c.w) A (storeName env x v) Q E s :=
  S.put hk fun s' m' cm' S' V kp kl => h s' ⟨m', cm', ν, S'.ic, S'.gk, S'.fn, S'.gl, S'.bl, S'.cn, fun y d' e => by
      rw [upd_lookup] at e
      by_cases hy : (y == x) = true
      · rw [if_pos hy] at e; cases e
        have := beq_iff_eq.mp hy; subst this
        exact ⟨v, V, r.to fun b o hb e => ⟨hb, kp b o hb e⟩⟩
      · rw [if_neg hy] at e
        exact S'.vars y d' (by rw [del_lookup, if_neg hy]; exact e),
    fun y ds e => S'.muts y ds (by
      rw [del_lookup]
      have : (y == x) = false := by simp only [beq_eq_false_iff_ne]; rintro rfl; rw [hx] at e; cases e
      rw [this]; simpa using e), S'.nd, S'.new, S'.out, S'.lv⟩

theorem StP.sub {c s₀ env μ₀ ρ σ ρ' σ' m cm ν s} (S : StP c s₀ env μ₀ ρ σ m cm ν s) (h1 : ∀ x d, ρ'.lookup x = some d → ρ.lookup x = some d) (h2 : ∀ x d, σ'.lookup x = some d → σ.lookup x = some d) : StP c s₀ env μ₀ ρ' σ' m cm ν s :=
  ⟨S.ic, S.gk, S.fn, S.gl, S.bl, S.cn, fun x d e => S.vars x d (h1 x d e), fun x d e => S.muts x d (h2 x d e), S.nd, S.new, S.out, S.lv⟩

/-- the state with a new list that may be grown -/
theorem StP.newlist {c s₀ env μ₀ ρ σ m cm ν s x} {vs : List Value} {ds : List PyData} {tk n : Nat} (S : StP c s₀ env μ₀ ρ σ m cm ν s) (hx : σ.lookup x = none) (r : RdAll (hid env ν μ₀) s.heap vs ds) :
    StP c s₀ env μ₀ ρ σ m cm ((x, s.heap.objs.size) :: ν) { s with heap := s.heap.push { cls := .type "list", data := .seq vs.toArray n }, toks := tk } ∧
    RdAll (hid env ((x, s.heap.objs.size) :: ν) μ₀) (s.heap.push { cls := .type "list", data := .seq vs.toArray n }) vs ds := by
  have keep : ∀ b o, b ∉ hid env ν μ₀ → s.heap.get? b = some o → b ∉ hid env ((x, s.heap.objs.size) :: ν) μ₀ ∧ (s.heap.push { cls := .type "list", data := .seq vs.toArray n }).get? b = some o := fun b o hb e => by
    refine ⟨fun q => ?_, Heap.get?_push_of_some _ e⟩
    rcases mem_hid.mp q with q | q | q | q
    · exact hb (mem_hid.mpr (.inl q))
    · exact hb (mem_hid.mpr (.inr (.inl q)))
    · simp only [List.map_cons, List.mem_cons] at q
      rcases q with q | q
      · subst q; exact Nat.lt_irrefl _ (Heap.lt_size e)
      · exact hb (mem_hid.mpr (.inr (.inr (.inl q))))
    · exact hb (mem_hid.mpr (.inr (.inr (.inr q))))
  have G := S.grow (tk := tk) (Kp.push (h := s.heap) { cls := .type "list", data := .seq vs.toArray n })
  refine ⟨⟨G.ic, S.gk, S.fn, S.gl, S.bl, S.cn, fun y d e => ?_, fun y ds e => ?_, ?_, ?_, S.out, ?_⟩, r.to keep⟩
  · obtain ⟨v, V, r⟩ := S.vars y d e; exact ⟨v, V, r.to keep⟩
  · obtain ⟨a, ws, h1, h2, h3, h4⟩ := S.muts y ds e
    obtain ⟨k, h3⟩ := h3
    refine ⟨a, ws, ?_, h2, ⟨k, Heap.get?_push_of_some _ h3⟩, h4.to keep⟩
    rw [List.lookup_cons]
    have : (y == x) = false := by
      simp only [beq_eq_false_iff_ne]; rintro rfl; rw [hx] at e; cases e
    rw [this]; exact h1
  · simp only [List.map_cons]
    refine List.nodup_cons.mpr ⟨fun q => ?_, S.nd⟩
    obtain ⟨p, hp, e⟩ := List.mem_map.mp q
    obtain ⟨ws, k, h⟩ := S.lv p hp
    rw [e] at h
    exact Nat.lt_irrefl _ (Heap.lt_size h)
  · intro p hp
    rcases List.mem_cons.mp hp with rfl | hp
    · cases q : s₀.heap.get? s.heap.objs.size with
      | none => rfl
      | some o => exact absurd (Heap.lt_size (S.ic.keep _ _ q)) (Nat.lt_irrefl _)
    · exact S.new p hp
  · intro p hp
    rcases List.mem_cons.mp hp with rfl | hp
    · exact ⟨_, n, Heap.get?_push_size _ rfl⟩
    · exact G.lv p hp

theorem lookup_mem {l : List (Str × Addr)} {x : Str} {a : Addr} (h : l.lookup x = some a) : (x, a) ∈ l := mem_of_lookup h
theorem nodup_snd {l : List (Str × Addr)} (nd : (l.map (·.2)).Nodup) {x y : Str} {a : Addr} (h1 : (x, a) ∈ l) (h2 : (y, a) ∈ l) : x = y := by
  induction l with
  | nil => cases h1
  | cons p l ih =>
    simp only [List.map_cons, List.nodup_cons] at nd
    rcases List.mem_cons.mp h1 with e1 | h1 <;> rcases List.mem_cons.mp h2 with e2 | h2
    · rw [← e1] at e2; exact (Prod.mk.inj e2).1.symm
    · exact absurd (List.mem_map.mpr ⟨_, h2, by rw [← e1]⟩) nd.1
    · exact absurd (List.mem_map.mpr ⟨_, h1, by rw [← e2]⟩) nd.1
    · exact ih nd.2 h1 h2

/-- a list in hand, its object changed -/
theorem StP.chg {c s₀ env μ₀ ρ σ m cm ν s x a} {vs' : Array Value} {ds' : List PyData} {h' : Heap} {tk : Nat} (S : StP c s₀ env μ₀ ρ σ m cm ν s) (ha : ν.lookup x = some a)
    (hv : Val env m cm x (.ref a)) {vs : Array Value} (hp0 : s.heap.PlainList a vs) (hp : h'.PlainList a vs') (hs : Heap.SameBut a s.heap h') (r : RdAll (hid env ν μ₀) s.heap vs'.toList ds') :
    StP c s₀ env μ₀ ρ (upd σ x ds') m cm ν { s with heap := h', toks := tk } := by
  have hmem : a ∈ hid env ν μ₀ := mem_hid.mpr (.inr (.inr (.inl (List.mem_map.mpr ⟨(x, a), lookup_mem ha, rfl⟩))))
  have keep : ∀ b o, b ∉ hid env ν μ₀ → s.heap.get? b = some o → b ∉ hid env ν μ₀ ∧ h'.get? b = some o := fun b o hb e => ⟨hb, hs.extBut b o (fun q => hb (q ▸ hmem)) e⟩
  refine ⟨⟨?_, S.ic.ns.sameBut hs (Ne.symm (ne_of_ns hp0 S.ic.ns)), fun b o e => ?_, fun k b hb => ?_, S.ic.apart, S.ic.offL, S.ic.offC⟩, S.gk, S.fn, S.gl, S.bl, S.cn, fun y d e => ?_, fun y ds e => ?_, S.nd, S.new, S.out, fun p hp' => ?_⟩
  · obtain ⟨h₁, tk', e⟩ := S.ic.same; exact ⟨h', tk, by rw [e]⟩
  · exact hs.extBut b o (ne_of_none (S.new _ (lookup_mem ha)) e) (S.ic.keep b o e)
  · exact (S.ic.cell k b hb).sameBut hs (Ne.symm (ne_of_cell hp0 (S.ic.cell k b hb)))
  · obtain ⟨v, V, r⟩ := S.vars y d e; exact ⟨v, V, r.to keep⟩
  · rw [upd_lookup] at e
    by_cases hy : (y == x) = true
    · rw [if_pos hy] at e; cases e
      have := beq_iff_eq.mp hy; subst this
      exact ⟨a, vs', ha, hv, hp, r.to keep⟩
    · rw [if_neg hy] at e
      obtain ⟨b, ws, h1, h2, ⟨n, h3⟩, h4⟩ := S.muts y ds e
      have hne : b ≠ a := fun q => hy (by
        subst q; simp [nodup_snd S.nd (lookup_mem h1) (lookup_mem ha)])
      exact ⟨b, ws, h1, h2, ⟨n, hs.extBut b _ hne h3⟩, h4.to keep⟩
  · by_cases hpa : p.2 = a
    · exact ⟨vs', hpa ▸ hp⟩
    · obtain ⟨ws, n, e⟩ := S.lv p hp'
      exact ⟨ws, n, hs.extBut _ _ hpa e⟩

theorem StP.freeze {c s₀ env μ₀ ρ σ m cm ν s x ds} (S : StP c s₀ env μ₀ ρ σ m cm ν s) (hx : σ.lookup x = some ds) : St c s₀ env μ₀ (upd ρ x (.list ds)) (del σ x) s := by
  obtain ⟨a, vs, ha, hv, hp, r⟩ := S.muts x ds hx
  refine ⟨m, cm, ν.filter fun p => !(p.2 == a), ?_⟩
  have hsub : ∀ b, b ∈ hid env (ν.filter fun p => !(p.2 == a)) μ₀ → b ∈ hid env ν μ₀ ∧ b ≠ a := fun b hb => by
    rcases mem_hid.mp hb with h | h | h | h
    · exact ⟨mem_hid.mpr (.inl h), fun q => ne_of_ns hp S.ic.ns (q ▸ h)⟩
    · refine ⟨mem_hid.mpr (.inr (.inl h)), fun q => ?_⟩
      obtain ⟨p, hp', e⟩ := List.mem_map.mp h
      exact ne_of_cell hp (S.ic.cell _ _ (S.cn p hp')) (q ▸ e.symm)
    · obtain ⟨p, hp', e⟩ := List.mem_map.mp h
      obtain ⟨h1, h2⟩ := List.mem_filter.mp hp'
      exact ⟨mem_hid.mpr (.inr (.inr (.inl (List.mem_map.mpr ⟨p, h1, e⟩)))), fun q => by
        have e' : p.2 = b := e
        rw [e', q] at h2; simp at h2⟩
    · refine ⟨mem_hid.mpr (.inr (.inr (.inr h))), fun q => ?_⟩
      obtain ⟨o, ho⟩ := S.out b h
      exact ne_of_none (S.new _ (lookup_mem ha)) ho q
  have wk : ∀ {v d}, Rd (hid env ν μ₀) s.heap v d → Rd (hid env (ν.filter fun p => !(p.2 == a)) μ₀) s.heap v d := fun r => r.weaken fun b hb => (hsub b hb).1
  have wka : ∀ {v d}, RdAll (hid env ν μ₀) s.heap v d → RdAll (hid env (ν.filter fun p => !(p.2 == a)) μ₀) s.heap v d := fun r => r.to fun b o hb e => ⟨fun q => hb (hsub b q).1, e⟩
  have lk : ∀ (l : List (Str × Addr)) y b, l.lookup y = some b → b ≠ a → (l.filter fun p => !(p.2 == a)).lookup y = some b := by
    intro l
    induction l with
    | nil => intro y b h _; cases h
    | cons p l ih =>
      intro y b h hb
      rw [List.lookup_cons] at h
      rw [List.filter_cons]
      by_cases hy : (y == p.1) = true
      · simp only [hy] at h; cases h
        have : (!(p.2 == a)) = true := by simpa using hb
        rw [if_pos this, List.lookup_cons]; simp [hy]
      · have hy' : (y == p.1) = false := by simpa using hy
        simp only [hy'] at h
        split
        · rw [List.lookup_cons, hy']; exact ih y b h hb
        · exact ih y b h hb
  refine ⟨S.ic, S.gk, S.fn, S.gl, S.bl, S.cn, fun y d e => ?_, fun y ds' e => ?_, ?_, fun p hp' => S.new p (List.mem_filter.mp hp').1, S.out, fun p hp' => S.lv p (List.mem_filter.mp hp').1⟩
  · rw [upd_lookup] at e
    by_cases hy : (y == x) = true
    · rw [if_pos hy] at e; cases e
      have := beq_iff_eq.mp hy; subst this
      refine ⟨.ref a, hv, LsAt.rd' ⟨a, vs, rfl, (let ⟨n, e⟩ := hp; ⟨_, e, rfl, n, rfl⟩), wka r⟩ fun b e q => ?_⟩
      cases e; exact (hsub a q).2 rfl
    · rw [if_neg hy] at e
      obtain ⟨v, V, r⟩ := S.vars y d e; exact ⟨v, V, wk r⟩
  · rw [del_lookup] at e
    by_cases hy : (y == x) = true
    · rw [if_pos hy] at e; cases e
    · rw [if_neg hy] at e
      obtain ⟨b, ws, h1, h2, h3, h4⟩ := S.muts y ds' e
      exact ⟨b, ws, lk ν y b h1 (fun q => hy (by subst q; simp [nodup_snd S.nd (lookup_mem h1) (lookup_mem ha)])), h2, h3, wka h4⟩
  · exact List.Pairwise.sublist (List.Sublist.map _ List.filter_sublist) S.nd
end Mine

end PartB6
section PartB7
open PySem PySem.W PyProof.Rows
namespace Mine

inductive Fl where
  | next | brk | cont | ret (d : PyData)

abbrev Rho := List (Str × PyData)
abbrev Sig := List (Str × List PyData)

def Done (s₀ : Shared) (μ₀ : List Addr) (s' : Shared) (v : Value) (d : PyData) : Prop :=
  (∃ h tk, s' = { s₀ with heap := h, toks := tk }) ∧ Kp s₀.heap s'.heap ∧ Rd μ₀ s'.heap v d

def FlOK (c : Cx) (s₀ : Shared) (env : Env) (μ₀ : List Addr) (P : Fl → Rho → Sig → Prop) (f : Flow) (s' : Shared) : Prop :=
  match f with
  | .next => ∃ ρ σ, P .next ρ σ ∧ St c s₀ env μ₀ ρ σ s'
  | .brk => ∃ ρ σ, P .brk ρ σ ∧ St c s₀ env μ₀ ρ σ s'
  | .cont => ∃ ρ σ, P .cont ρ σ ∧ St c s₀ env μ₀ ρ σ s'
  | .ret v => ∃ d, P (.ret d) [] [] ∧ Done s₀ μ₀ s' v d

def Ex (c : Cx) (A : Around) (env : Env) (ρ : Rho) (σ : Sig) (body : List Stmt) (P : Fl → Rho → Sig → Prop) : Prop :=
  ∀ s₀ μ₀ s, St c s₀ env μ₀ ρ σ s → ∀ E, wpAny (model c.prog c.w) A (execs body env) (FlOK c s₀ env μ₀ P) E s
def Ex1 (c : Cx) (A : Around) (env : Env) (ρ : Rho) (σ : Sig) (st : Stmt) (P : Fl → Rho → Sig → Prop) : Prop :=
  ∀ s₀ μ₀ s, St c s₀ env μ₀ ρ σ s → ∀ E, wpAny (model c.prog c.w) A (exec st env) (FlOK c s₀ env μ₀ P) E s

theorem kp_base {c s₀ env μ₀ ρ σ m cm ν s} (S : StP c s₀ env μ₀ ρ σ m cm ν s) : Kp s₀.heap (hideAll s.heap (hid env ν [])) := fun b o e => by
  refine hideAll_get _ (S.ic.keep b o e) fun q => ?_
  rcases mem_hid.mp q with q | q | q | q
  · exact ne_of_none S.ic.offL e q
  · obtain ⟨p, hp, rfl⟩ := List.mem_map.mp q; exact ne_of_none (S.ic.offC p hp) e rfl
  · obtain ⟨p, hp, rfl⟩ := List.mem_map.mp q; exact ne_of_none (S.new p hp) e rfl
  · cases q

theorem StP.rebase {c s₀ env μ₀ ρ σ m cm ν s} (S : StP c s₀ env μ₀ ρ σ m cm ν s) : StP c { s with heap := hideAll s.heap (hid env ν []) } env μ₀ ρ σ m cm ν s where
  ic := ⟨⟨s.heap, s.toks, rfl⟩, S.ic.ns, fun b o e => of_hideAll _ e, S.ic.cell, S.ic.apart, hideAll_none _ (mem_hid.mpr (.inl rfl)), fun p hp => hideAll_none _ (mem_hid.mpr (.inr (.inl (List.mem_map.mpr ⟨p, hp, rfl⟩))))⟩
  gk := S.gk.keeps (kp_base S)
  fn := S.fn
  gl := S.gl
  bl := S.bl
  cn := S.cn
  vars := S.vars
  muts := S.muts
  nd := S.nd
  new := fun p hp => hideAll_none _ (mem_hid.mpr (.inr (.inr (.inl (List.mem_map.mpr ⟨p, hp, rfl⟩)))))
  out := S.out.keeps (kp_base S)
  lv := S.lv

/-- back to an older base -/
theorem StP.unbase {c s₀ s₁ env μ₀ μ₁ ρ σ m cm ν s} (S : StP c s₁ env μ₁ ρ σ m cm ν s) (k : Kp s₀.heap s₁.heap) (hs : ∃ h tk, s₁ = { s₀ with heap := h, toks := tk }) (gk : GK c s₀.heap) (out : Live μ₀ s₀.heap) (hμ : ∀ a ∈ μ₀, a ∈ μ₁) :
    StP c s₀ env μ₀ ρ σ m cm ν s := by
  have off : ∀ a, s₁.heap.get? a = none → s₀.heap.get? a = none := fun a e => by
    cases q : s₀.heap.get? a with
    | none => rfl
    | some o => rw [k _ _ q] at e; cases e
  have sub : ∀ b, b ∈ hid env ν μ₀ → b ∈ hid env ν μ₁ := fun b hb => by
    rcases mem_hid.mp hb with q | q | q | q
    · exact mem_hid.mpr (.inl q)
    · exact mem_hid.mpr (.inr (.inl q))
    · exact mem_hid.mpr (.inr (.inr (.inl q)))
    · exact mem_hid.mpr (.inr (.inr (.inr (hμ _ q))))
  refine ⟨⟨?_, S.ic.ns, k.trans S.ic.keep, S.ic.cell, S.ic.apart, off _ S.ic.offL, fun p hp => off _ (S.ic.offC p hp)⟩, gk, S.fn, S.gl, S.bl, S.cn, fun x d e => ?_, fun x d e => ?_, S.nd, fun p hp => off _ (S.new p hp), out, S.lv⟩
  · obtain ⟨h, tk, e⟩ := hs
    obtain ⟨h', tk', e'⟩ := S.ic.same
    exact ⟨h', tk', by rw [e', e]⟩
  · obtain ⟨v, V, r⟩ := S.vars x d e; exact ⟨v, V, r.weaken sub⟩
  · obtain ⟨a, vs, h1, h2, h3, h4⟩ := S.muts x d e
    exact ⟨a, vs, h1, h2, h3, h4.to fun b o hb e => ⟨fun q => hb (sub b q), e⟩⟩

section
variable {c : Cx} {A : Around} {env : Env} {ρ : Rho} {σ : Sig} {P : Fl → Rho → Sig → Prop}

theorem Ex.nil (h : P .next ρ σ) : Ex c A env ρ σ [] P := fun s₀ μ₀ s S E => wpAny_execs_nil ⟨ρ, σ, h, S⟩

theorem Ex.weaken {ρ' σ' body} (h : Ex c A env ρ' σ' body P) (h1 : ∀ x d, ρ'.lookup x = some d → ρ.lookup x = some d) (h2 : ∀ x d, σ'.lookup x = some d → σ.lookup x = some d) : Ex c A env ρ σ body P := fun s₀ μ₀ s S E =>
  h s₀ μ₀ s (let ⟨m, cm, ν, S⟩ := S; ⟨m, cm, ν, S.sub h1 h2⟩) E
def SubL {α : Type} (l : List (Str × α)) : List (Str × α) → Prop
  | [] => True
  | (x, d) :: r => l.lookup x = some d ∧ SubL l r
theorem SubL.all {α : Type} {l : List (Str × α)} : ∀ {r : List (Str × α)}, SubL l r → ∀ x d, r.lookup x = some d → l.lookup x = some d
  | [], _, x, d, e => by cases e
  | (y, d') :: r, h, x, d, e => by
    rw [List.lookup_cons] at e
    by_cases hy : (x == y) = true
    · simp only [hy] at e; cases e
      have := beq_iff_eq.mp hy; subst this; exact h.1
    · have hy' : (x == y) = false := by simpa using hy
      simp only [hy'] at e; exact SubL.all h.2 x d e
/-- forget names -/
theorem Ex.sub (ρ' : Rho) (σ' : Sig) {body} (h1 : SubL ρ ρ') (h2 : SubL σ σ') (h : Ex c A env ρ' σ' body P) : Ex c A env ρ σ body P := h.weaken h1.all h2.all
theorem Ex.freeze (x : Str) {ds body} (hx : σ.lookup x = some ds) (h : Ex c A env (upd ρ x (.list ds)) (del σ x) body P) : Ex c A env ρ σ body P := fun s₀ μ₀ s S E => by
  obtain ⟨m, cm, ν, S⟩ := S
  exact h s₀ μ₀ s (S.freeze hx) E
theorem Ex.mono {body} {P' : Fl → Rho → Sig → Prop} (h : Ex c A env ρ σ body P) (hp : ∀ f ρ σ, P f ρ σ → P' f ρ σ) : Ex c A env ρ σ body P' := fun s₀ μ₀ s S E =>
  wpAny_mono (h s₀ μ₀ s S E) (fun f s' h' => by
    cases f with
    | next => obtain ⟨a, b, x, y⟩ := h'; exact ⟨a, b, hp _ _ _ x, y⟩
    | brk => obtain ⟨a, b, x, y⟩ := h'; exact ⟨a, b, hp _ _ _ x, y⟩
    | cont => obtain ⟨a, b, x, y⟩ := h'; exact ⟨a, b, hp _ _ _ x, y⟩
    | ret v => obtain ⟨d, x, y⟩ := h'; exact ⟨d, hp _ _ _ x, y⟩) fun _ _ e => e

theorem Ex.cons {st rest} (M : Fl → Rho → Sig → Prop) (h : Ex1 c A env ρ σ st M) (hn : ∀ ρ' σ', M .next ρ' σ' → Ex c A env ρ' σ' rest P) (hb : ∀ ρ' σ', M .brk ρ' σ' → P .brk ρ' σ') (hc : ∀ ρ' σ', M .cont ρ' σ' → P .cont ρ' σ')
    (hr : ∀ d, M (.ret d) [] [] → P (.ret d) [] []) : Ex c A env ρ σ (st :: rest) P := fun s₀ μ₀ s S E =>
  wpAny_execs_cons (wpAny_mono (h s₀ μ₀ s S E) (fun f s' h' => by
    cases f with
    | next => obtain ⟨a, b, x, y⟩ := h'; exact hn a b x s₀ μ₀ s' y E
    | brk => obtain ⟨a, b, x, y⟩ := h'; exact ⟨a, b, hb _ _ x, y⟩
    | cont => obtain ⟨a, b, x, y⟩ := h'; exact ⟨a, b, hc _ _ x, y⟩
    | ret v => obtain ⟨d, x, y⟩ := h'; exact ⟨d, hr _ x, y⟩) fun _ _ e => e)
/-- a statement that goes on -/
theorem Ex.step {st rest ρ' σ'} (h : Ex1 c A env ρ σ st (fun f a b => f = .next ∧ a = ρ' ∧ b = σ')) (hn : Ex c A env ρ' σ' rest P) : Ex c A env ρ σ (st :: rest) P :=
  Ex.cons _ h (fun a b ⟨_, e1, e2⟩ => e1 ▸ e2 ▸ hn) (fun _ _ ⟨e, _⟩ => nomatch e) (fun _ _ ⟨e, _⟩ => nomatch e) (fun _ ⟨e, _⟩ => nomatch e)

/-- assignment of a datum to a target -/
def Asg (c : Cx) (A : Around) (env : Env) (t : Expr) (d : PyData) (ρ : Rho) (σ : Sig) (ρ' : Rho) : Prop :=
  ∀ s₀ μ₀ m cm ν s v, StP c s₀ env μ₀ ρ σ m cm ν s → Rd (hid env ν μ₀) s.heap v d → ∀ (Q : Unit → Shared → Prop) (E : Value → Shared → Prop), (∀ s', St c s₀ env μ₀ ρ' σ s' → Q () s') → wpAny (model c.prog c.w) A (assign t env v) Q E s
theorem Asg.name {x p d} (hk : Slotted env x) (hx : σ.lookup x = none) : Asg c A env (.Name x p) d ρ σ (upd ρ x d) := fun s₀ μ₀ m cm ν s v S r Q E hQ =>
  wpAny_assign_Name (S.store hk hx r hQ)

theorem Ex1.assign {x p e pos d} (h : Ev c A env ρ σ e d) (hk : Slotted env x) (hx : σ.lookup x = none) (hs : swapsWith e (some (.Name x p)) pos.line env = pure false) :
    Ex1 c A env ρ σ (.Assign [.Name x p] e pos) (fun f a b => f = .next ∧ a = upd ρ x d ∧ b = σ) := fun s₀ μ₀ s S E => by
  obtain ⟨m, cm, ν, S⟩ := S
  exact wpAny_Assign_Name (h _ s S.env _ _ fun v g t k r => (S.grow k).store hk hx r fun s' S' => ⟨_, _, ⟨rfl, rfl, rfl⟩, S'⟩) hs
theorem Ex.assign {x p e pos d rest} (h : Ev c A env ρ σ e d) (hk : Slotted env x) (hx : σ.lookup x = none) (hs : swapsWith e (some (.Name x p)) pos.line env = pure false) (hn : Ex c A env (upd ρ x d) σ rest P) :
    Ex c A env ρ σ (.Assign [.Name x p] e pos :: rest) P := Ex.step (Ex1.assign h hk hx hs) hn
/-- a fresh list display that is to be grown -/
theorem Ex.assignL {x p es lp pos ds rest} (h : EvAll c A env ρ σ lp es ds) (hz : ds.length ≤ sizeLine) (hk : Slotted env x) (hx : σ.lookup x = none) (hr : ρ.lookup x = none) (hs : swapsWith (.List es lp) (some (.Name x p)) pos.line env = pure false)
    (hn : Ex c A env ρ (upd σ x ds) rest P) : Ex c A env ρ σ (.Assign [.Name x p] (.List es lp) pos :: rest) P := by
  refine Ex.step ?_ hn
  intro s₀ μ₀ s S E
  obtain ⟨m, cm, ν, S⟩ := S
  refine wpAny_Assign_Name (List_ (h _ s S.env _ _ fun vs g t k r => wpAny_newObj_type ?_ (by show vs.toArray.size ≤ sizeLine; rw [List.size_toArray, r.length]; exact hz))) hs
  have S1 := S.grow (tk := t) k
  obtain ⟨S2, r2⟩ := S1.newlist (x := x) (tk := t) (n := 0) hx r
  refine S2.put hk fun s' m' cm' S' V kp kl => ⟨ρ, upd σ x ds, ⟨rfl, rfl, rfl⟩, m', cm', (x, g.objs.size) :: ν, ?_⟩
  refine ⟨S'.ic, S'.gk, S'.fn, S'.gl, S'.bl, S'.cn, fun y d e => S'.vars y d ?_, fun y ds' e => ?_, S'.nd, S'.new, S'.out, S'.lv⟩
  · rw [del_lookup]
    have : (y == x) = false := by simp only [beq_eq_false_iff_ne]; rintro rfl; rw [hr] at e; cases e
    rw [this]; simpa using e
  · rw [upd_lookup] at e
    by_cases hy : (y == x) = true
    · rw [if_pos hy] at e; cases e
      have := beq_iff_eq.mp hy; subst this
      refine ⟨g.objs.size, vs.toArray, by simp [List.lookup_cons], V, kl _ _ ⟨0, Heap.get?_push_size _ rfl⟩, ?_⟩
      have := r2.to (μ' := hid env ((y, g.objs.size) :: ν) μ₀) (h' := s'.heap) fun b o hb e => ⟨hb, kp b o hb e⟩
      simpa using this
    · rw [if_neg hy] at e
      exact S'.muts y ds' (by rw [del_lookup, if_neg hy]; exact e)
theorem Ex.ret {e pos d rest} (h : Ev c A env ρ σ e d) (hp : P (.ret d) [] []) : Ex c A env ρ σ (.Return (some e) pos :: rest) P :=
  Ex.cons (fun f _ _ => f = .ret d) (fun s₀ μ₀ s S E => by
    obtain ⟨m, cm, ν, S⟩ := S
    refine wpAny_Return_some (h _ s S.env _ _ fun v g t k r => ⟨d, rfl, ?_, ?_, ?_⟩)
    · obtain ⟨h', tk, e⟩ := S.ic.same; exact ⟨g, t, by rw [e]⟩
    · exact S.ic.keep.trans k
    · exact r.weaken fun b hb => mem_hid.mpr (.inr (.inr (.inr hb))))
    (fun _ _ e => nomatch e) (fun _ _ e => nomatch e) (fun _ _ e => nomatch e) fun d' e => by cases e; exact hp
theorem Ex.brk {pos rest} (hp : P .brk ρ σ) : Ex c A env ρ σ (.Break pos :: rest) P :=
  Ex.cons (fun f a b => f = .brk ∧ a = ρ ∧ b = σ) (fun s₀ μ₀ s S E => wpAny_Break ⟨ρ, σ, ⟨rfl, rfl, rfl⟩, S⟩) (fun _ _ e => nomatch e.1) (fun _ _ e => by obtain ⟨_, rfl, rfl⟩ := e; exact hp) (fun _ _ e => nomatch e.1) fun d' e => nomatch e.1
theorem Ex.cont {pos rest} (hp : P .cont ρ σ) : Ex c A env ρ σ (.Continue pos :: rest) P :=
  Ex.cons (fun f a b => f = .cont ∧ a = ρ ∧ b = σ) (fun s₀ μ₀ s S E => wpAny_Continue ⟨ρ, σ, ⟨rfl, rfl, rfl⟩, S⟩) (fun _ _ e => nomatch e.1) (fun _ _ e => nomatch e.1) (fun _ _ e => by obtain ⟨_, rfl, rfl⟩ := e; exact hp) fun d' e => nomatch e.1

theorem execs_append (env : Env) : ∀ (a b : List Stmt), execs (a ++ b) env = (do match ← execs a env with | .next => execs b env | f => pure f)
  | [], b => rfl
  | st :: a, b => by
    have ih := execs_append env a b
    show (execs (st :: (a ++ b)) env) = _
    rw [execs_cons, execs_cons, ih]
    simp only [bind_assoc]
    congr 1; funext f
    cases f <;> simp
theorem execs_If (env : Env) (t : Expr) (body orelse : List Stmt) (pos : Pos) (rest : List Stmt) : execs (.If t body orelse pos :: rest) env =
    (do standAt pos; let b ← PySem.isTrue t env (eval t env); if b then execs (body ++ rest) env else execs (orelse ++ rest) env) := by
  rw [execs_cons, exec_If]
  simp only [bind_assoc]
  congr 1; funext _
  congr 1; funext b
  cases b
  · simp only [Bool.false_eq_true, if_false]; rw [execs_append]; rfl
  · simp only [if_true]; rw [execs_append]; rfl
theorem Ex.ite {t body orelse pos b rest} (h : Tst c A env ρ σ t b) (h1 : b = true → Ex c A env ρ σ (body ++ rest) P) (h2 : b = false → Ex c A env ρ σ (orelse ++ rest) P) : Ex c A env ρ σ (.If t body orelse pos :: rest) P := fun s₀ μ₀ s S E => by
  obtain ⟨m, cm, ν, S⟩ := S
  rw [execs_If]
  refine wpAny_bind (wpAny_standAt (wpAny_bind (h _ s S.env _ _ fun g tk k => ?_)))
  cases b with
  | true => exact h1 rfl s₀ μ₀ _ ⟨m, cm, ν, S.grow k⟩ E
  | false => exact h2 rfl s₀ μ₀ _ ⟨m, cm, ν, S.grow k⟩ E

/-- an augmented assignment -/
def InpOK (c : Cx) (A : Around) (op : Operator) (d1 d2 d : PyData) : Prop := ∀ μ s v1 v2, Live μ s.heap → Rd μ s.heap v1 d1 → Rd μ s.heap v2 d2 → Yl c A μ (inplaceOp op v1 v2) d s
theorem InpOK.add_int {a b : Int} : InpOK c A .Add (.int a) (.int b) (.int (a + b)) := fun μ s v1 v2 lv r1 r2 Q E hQ => by
  obtain ⟨t, rfl⟩ := r1.int_inv; obtain ⟨u, rfl⟩ := r2.int_inv; exact P.iadd_int (hQ _ s.heap _ Kp.rfl rd_int)
theorem InpOK.add_str {a b : Str} (hz : a.length + b.length ≤ sizeLine) : InpOK c A .Add (.str a) (.str b) (.str (a ++ b)) := fun μ s v1 v2 lv r1 r2 Q E hQ => by
  obtain ⟨t, rfl⟩ := r1.str_inv; obtain ⟨u, rfl⟩ := r2.str_inv
  exact SB.iadd (fun t' k => hQ _ s.heap _ Kp.rfl rd_str) hz
theorem Ex.aug {x p op e pos d1 d2 d rest} (h1 : ρ.lookup x = some d1) (h2 : Ev c A env ρ σ e d2) (h : InpOK c A op d1 d2 d) (hk : Slotted env x) (hx : σ.lookup x = none) (hn : Ex c A env (upd ρ x d) σ rest P) :
    Ex c A env ρ σ (.AugAssign (.Name x p) op e pos :: rest) P := by
  refine Ex.step ?_ hn
  intro s₀ μ₀ s S E
  obtain ⟨m, cm, ν, S⟩ := S
  obtain ⟨v1, V1, r1⟩ := S.env.vars x d1 h1
  refine wpAny_AugAssign_Name (V1.load S.env.fn (h2 _ s S.env _ _ fun v2 g t k r2 => h _ _ v1 v2 (S.env.live.keeps k) (r1.keeps k) r2 _ _ fun v g' t' k' r => ?_))
  exact (S.grow (k.trans k')).store hk hx r fun s' S' => ⟨_, _, ⟨rfl, rfl, rfl⟩, S'⟩

/-- append to a list in hand -/
theorem Ex.append {x np apos e cpos pos ds d rest} (hx : σ.lookup x = some ds) (h : Ev c A env ρ σ e d) (hz : ds.length ≤ sizeLine) (hd : (x == ("__debug__" : Str)) = false) (hline : (apos.endLine == cpos.line) = true) (hs : starEach [e] env = [(false, eval e env)]) (hi : interactive env = false)
    (hw : swapsWith (.Call (.Attribute (.Name x np) "append" apos) [e] [] cpos) none pos.line env = pure false)
    (hn : Ex c A env ρ (upd σ x (ds ++ [d])) rest P) : Ex c A env ρ σ (.Expr (.Call (.Attribute (.Name x np) "append" apos) [e] [] cpos) pos :: rest) P := by
  refine Ex.step ?_ hn
  intro s₀ μ₀ s S E
  obtain ⟨m, cm, ν, S⟩ := S
  obtain ⟨a, vs, ha, hv, hp, r⟩ := S.muts x ds hx
  have V : VarAt env s.heap x (.ref a) := by
    rcases hv with ⟨k, hm⟩ | ⟨k, ⟨b, hb⟩, hm⟩
    · exact .loc k S.ic.ns hm
    · exact .cell k hb (hm ▸ S.ic.cell x b hb)
  refine wpAny_Expr (wpAny_Call_append rfl (by rw [hs]; rfl) hline (by rw [hs]; rfl) (wpAny_Name (V.load S.fn ?_) hd)) hi hw
  obtain ⟨n, hp⟩ := hp
  refine ⟨a, vs, rfl, ⟨_, n, hp, rfl, rfl, rfl⟩, h _ s S.env _ _ fun v g t k rv => ?_⟩
  have S1 := S.grow (tk := t) k
  refine wpAny_list_append_plain (s := { s with heap := g, toks := t }) ⟨n, k _ _ hp⟩ (fun h' hp' hs' => ?_) (by
    have : vs.size = ds.length := by simpa using r.length
    rw [this]; exact hz)
  refine ⟨ρ, upd σ x (ds ++ [d]), ⟨rfl, rfl, rfl⟩, m, cm, ν, S1.chg (tk := t) (ds' := ds ++ [d]) ha hv ⟨n, k _ _ hp⟩ hp' hs' ?_⟩
  simpa using (r.keeps k).append (.cons rv .nil)
end
end Mine

end PartB7
section PartB8
open PySem PySem.W PyProof.Rows
namespace Mine

/-- an iterable: its iterator walks over the data -/
def EvI (c : Cx) (A : Around) (env : Env) (ρ : Rho) (σ : Sig) (e : Expr) (ds : List PyData) : Prop :=
  ∀ μ s, EnvOK c env μ ρ σ s.heap → ∀ (Q : Value → Shared → Prop) (E : Value → Shared → Prop),
    (∀ I fp wr P W h' tk, Walks c.prog c.w A I fp wr ds.length P W → W 0 h' → (∀ i h, W i h → Live wr h) → (∀ b ∈ wr, s.heap.get? b = none) → (∀ b ∈ fp, b ∉ μ) → Live fp h' →
      (∀ i v, P i v → ∃ d, ds[i]? = some d ∧ Rd (wr ++ μ) h' v d) → Kp s.heap h' → Q (.ref I) { s with heap := h', toks := tk }) →
    wpAny (model c.prog c.w) A (eval e env) (fun x s₁ => wpAny (model c.prog c.w) A (pyIter x) Q E s₁) E s

theorem none_size (h : Heap) : h.get? h.objs.size = none := none_of_size (Nat.le_refl _)
theorem none_back {h h' : Heap} {a : Addr} (k : Kp h h') (e : h'.get? a = none) : h.get? a = none := by
  cases q : h.get? a with
  | none => rfl
  | some o => rw [k _ _ q] at e; cases e

section
variable {c : Cx} {A : Around} {env : Env} {ρ : Rho} {σ : Sig} {P : Fl → Rho → Sig → Prop}

theorem rd_fresh {μ : List Addr} {h : Heap} {o : Obj} {v d} (r : Rd μ h v d) : Rd ([h.objs.size] ++ μ) (h.push o) v d :=
  r.to fun b ob hb e => ⟨fun q => by
    rcases List.mem_append.mp q with q | q
    · simp at q; subst q; exact Nat.lt_irrefl _ (Heap.lt_size e)
    · exact hb q, Heap.get?_push_of_some _ e⟩

theorem EvI.list {e ds} (hh : A.handled = none) (h : Ev c A env ρ σ e (.list ds)) : EvI c A env ρ σ e ds := fun μ s ok Q E hQ =>
  h μ s ok _ _ fun v g t k r => by
    obtain ⟨as, r⟩ := r
    cases r with
    | list h1 h2 h3 h4 =>
      rename_i a o vs n as
      have hl : g.IsList a vs := ⟨o, of_hideAll μ h1, h2, n, h3⟩
      have ha : a ∉ μ := fun q => by rw [hideAll_none μ q] at h1; cases h1
      have hne : a ≠ g.objs.size := Nat.ne_of_lt (Heap.lt_size (of_hideAll μ h1))
      have ra : RdAll μ g vs.toList ds := ⟨_, h4⟩
      have en : vs.size = ds.length := by simpa using ra.length
      refine wpAny_pyIter_list (s := { s with heap := g, toks := t }) hl ?_
      have W := Walks.list (prog := c.prog) (w := c.w) (A := A) hh g.objs.size a hne vs
      rw [en] at W
      refine hQ _ _ _ _ _ _ _ W ⟨⟨_, Heap.get?_push_size _ rfl, rfl, rfl⟩, hl.push _⟩ ?_ ?_ ?_ ?_ ?_ (k.trans (Kp.push _))
      · intro i h' w' b hb
        simp at hb; subst hb
        obtain ⟨⟨o, ho, _⟩, _⟩ := w'; exact ⟨o, ho⟩
      · intro b hb; simp at hb; subst hb
        exact none_back k (none_size g)
      · intro b hb; simp at hb
        rcases hb with rfl | rfl
        · exact (ok.live.keeps k).fresh
        · exact ha
      · intro b hb; simp at hb
        rcases hb with rfl | rfl
        · exact ⟨_, Heap.get?_push_size _ rfl⟩
        · exact ⟨_, Heap.get?_push_of_some _ (of_hideAll μ h1)⟩
      · intro i v hv
        obtain ⟨d, hd, rv⟩ := ra.get' i (v := v) (by simpa using hv)
        exact ⟨d, hd, rd_fresh rv⟩
theorem EvI.tuple {e ds} (hh : A.handled = none) (h : Ev c A env ρ σ e (.tuple ds)) : EvI c A env ρ σ e ds := fun μ s ok Q E hQ =>
  h μ s ok _ _ fun v g t k r => by
    obtain ⟨as, r⟩ := r
    cases r with
    | tuple h1 h2 h3 h4 =>
      rename_i a o vs n
      have hl : g.IsTuple a vs := ⟨o, of_hideAll μ h1, h2, n, h3⟩
      have ha : a ∉ μ := fun q => by rw [hideAll_none μ q] at h1; cases h1
      have hne : a ≠ g.objs.size := Nat.ne_of_lt (Heap.lt_size (of_hideAll μ h1))
      have ra : RdAll μ g vs.toList ds := ⟨_, h4⟩
      have en : vs.size = ds.length := by simpa using ra.length
      refine wpAny_pyIter_tuple (s := { s with heap := g, toks := t }) hl ?_
      have W := Walks.tuple (prog := c.prog) (w := c.w) (A := A) hh g.objs.size a hne vs
      rw [en] at W
      refine hQ _ _ _ _ _ _ _ W ⟨⟨_, Heap.get?_push_size _ rfl, rfl, rfl⟩, ⟨o, Heap.get?_push_of_some _ (of_hideAll μ h1), h2, n, h3⟩⟩ ?_ ?_ ?_ ?_ ?_ (k.trans (Kp.push _))
      · intro i h' w' b hb
        simp at hb; subst hb
        obtain ⟨⟨o, ho, _⟩, _⟩ := w'; exact ⟨o, ho⟩
      · intro b hb; simp at hb; subst hb
        exact none_back k (none_size g)
      · intro b hb; simp at hb
        rcases hb with rfl | rfl
        · exact (ok.live.keeps k).fresh
        · exact ha
      · intro b hb; simp at hb
        rcases hb with rfl | rfl
        · exact ⟨_, Heap.get?_push_size _ rfl⟩
        · exact ⟨_, Heap.get?_push_of_some _ (of_hideAll μ h1)⟩
      · intro i v hv
        obtain ⟨d, hd, rv⟩ := ra.get' i (v := v) (by simpa using hv)
        exact ⟨d, hd, rd_fresh rv⟩
/-- the signs of a text -/
def signsD (x : Str) : List PyData := x.cps.toList.map fun k => .str ⟨#[k]⟩
theorem EvI.str {e x} (hh : A.handled = none) (h : Ev c A env ρ σ e (.str x)) : EvI c A env ρ σ e (signsD x) := fun μ s ok Q E hQ =>
  h μ s ok _ _ fun v g t k r => by
    obtain ⟨u, rfl⟩ := r.str_inv
    have fin : ∀ (o : Obj) (W : Nat → Heap → Prop), Walks c.prog c.w A g.objs.size [g.objs.size] [g.objs.size] x.cps.size (SignAt x) W → W 0 (g.push o) → (∀ i h, W i h → ∃ o, h.get? g.objs.size = some o) → o.isFreed = false →
        Q (.ref g.objs.size) { s with heap := g.push o, toks := t } := fun o W w0 w1 wl hf => by
      have en : x.cps.size = (signsD x).length := by simp [signsD]
      rw [en] at w0
      refine hQ _ _ _ _ _ _ _ w0 w1 ?_ ?_ ?_ ?_ ?_ (k.trans (Kp.push _))
      · intro i h' w' b hb; simp at hb; subst hb; exact wl i h' w'
      · intro b hb; simp at hb; subst hb; exact none_back k (none_size g)
      · intro b hb; simp at hb; subst hb; exact (ok.live.keeps k).fresh
      · intro b hb; simp at hb; subst hb; exact ⟨_, Heap.get?_push_size _ hf⟩
      · rintro i v ⟨q, u', hq, rfl⟩
        refine ⟨.str ⟨#[q]⟩, ?_, rd_str⟩
        simp [signsD, ← Array.getElem?_toList, hq]
        simpa using hq
    cases ha : x.cps.all (· < 128)
    · exact wpAny_pyIter_wide (s := { s with heap := g, toks := t }) ha (fin _ _ (Walks.strWide hh _ x u) ⟨_, Heap.get?_push_size _ rfl, rfl, rfl⟩ (fun i h ⟨o, ho, _⟩ => ⟨o, ho⟩) rfl)
    · exact wpAny_pyIter_ascii (s := { s with heap := g, toks := t }) ha (fin _ _ (Walks.strAscii hh _ x u) ⟨_, Heap.get?_push_size _ rfl, rfl, rfl⟩ (fun i h ⟨o, ho, _⟩ => ⟨o, ho⟩) rfl)

def rangeD (a b : Int) : List PyData := (List.range (b - a).toNat).map fun (i : Nat) => .int (a + (i : Int))

theorem range_walk {μ : List Addr} {s : Shared} {g : Heap} {tk : Nat} {a b : Int} {t u v : Tok} {Q : Value → Shared → Prop} {E : Value → Shared → Prop} (hh : A.handled = none) (lv : Live μ s.heap) (k : Kp s.heap g)
    (ha : -(2 ^ 62) ≤ a ∧ a < 2 ^ 62) (hb : -(2 ^ 62) ≤ b ∧ b < 2 ^ 62)
    (hQ : ∀ I fp wr P W h' tk, Walks c.prog c.w A I fp wr (rangeD a b).length P W → W 0 h' → (∀ i h, W i h → Live wr h) → (∀ b ∈ wr, s.heap.get? b = none) → (∀ b ∈ fp, b ∉ μ) → Live fp h' →
      (∀ i v, P i v → ∃ d, (rangeD a b)[i]? = some d ∧ Rd (wr ++ μ) h' v d) → Kp s.heap h' → Q (.ref I) { s with heap := h', toks := tk }) :
    wpAny (model c.prog c.w) A (pyIter (.ref g.objs.size)) Q E { s with heap := g.push { cls := .type "range", data := .fields #[.int a t, .int b u, .int 1 v] }, toks := tk } := by
  have hs : Builtin.Range.rangeSize a b 1 = ((b - a).toNat : Int) := by
    rw [rangeSize_one]; split <;> omega
  have hsm : Builtin.Range.small a b 1 = true := by
    unfold Builtin.Range.small
    rw [hs]
    unfold Builtin.Range.rangeFitsLong
    simp only [Bool.and_eq_true, decide_eq_true_eq, Bool.or_eq_true]
    refine ⟨⟨⟨⟨⟨?_, ?_⟩, ⟨?_, ?_⟩⟩, ⟨?_, ?_⟩⟩, ⟨?_, ?_⟩⟩, .inr ?_⟩
    all_goals (try omega)
    simp
    omega
  refine wpAny_pyIter_range (IsRange.new ..) hsm ?_
  generalize hg : g.push { cls := .type "range", data := .fields #[.int a t, .int b u, .int 1 v] } = g1
  have k1 : Kp s.heap g1 := by rw [← hg]; exact k.trans (Kp.push _)
  have W := Walks.range (prog := c.prog) (w := c.w) (A := A) hh g1.objs.size a 1 (b - a).toNat
  have en : (rangeD a b).length = (b - a).toNat := by simp [rangeD]
  have W' : Walks c.prog c.w A g1.objs.size [g1.objs.size] [g1.objs.size] (rangeD a b).length (fun i v => i < (b - a).toNat ∧ ∃ t, v = Value.int (a + ↑i * 1) t) fun i h => IsRangeIter h g1.objs.size (a + ↑i * 1) (↑(b - a).toNat - ↑i) 1 := by
    rw [en]
    exact ⟨W.sub, W.frame, fun i s Q E hi st hQ => W.item i s Q E hi st fun v h' tk hp => hQ v h' tk ⟨hi, hp⟩, W.done, W.self⟩
  refine hQ _ _ _ _ _ _ _ W' ?_ ?_ ?_ ?_ ?_ ?_ (k1.trans (Kp.push _))
  · show IsRangeIter (g1.push _) g1.objs.size _ _ _
    rw [hs]
    have e1 : a + ((0 : Nat) : Int) * 1 = a := by omega
    have e2 : (((b - a).toNat : Nat) : Int) - ((0 : Nat) : Int) = ((b - a).toNat : Int) := by omega
    rw [e1, e2]
    exact Heap.get?_push_size _ rfl
  · intro i h' w' b' hb'; simp at hb'; subst hb'
    exact ⟨_, w'⟩
  · intro b' hb'; simp at hb'; subst hb'; exact none_back k1 (none_size g1)
  · intro b' hb'; simp at hb'; subst hb'; exact (lv.keeps k1).fresh
  · intro b' hb'; simp at hb'; subst hb'; exact ⟨_, Heap.get?_push_size _ rfl⟩
  · rintro i v ⟨hi, t', rfl⟩
    refine ⟨.int (a + i), ?_, by simpa using rd_int⟩
    simp [rangeD, hi]
theorem EvI.range1 {x np pos e n} (hh : A.handled = none) (hx : env.kindOf x = some .globalImplicit) (hd : (x == ("__debug__" : Str)) = false) (hg : nsIn c.K mainGlobals x = some none) (hb : bootBuiltins x = some (.type "range")) (hn : x ≠ ("__name__" : Str))
    (h : Ev c A env ρ σ e (.int n)) (hs : starEach [e] env = [(false, eval e env)]) (hz : -(2 ^ 62) ≤ n ∧ n < 2 ^ 62) : EvI c A env ρ σ (.Call (.Name x np) [e] [] pos) (rangeD 0 n) := fun μ s ok Q E hQ => by
  refine Call_Name rfl (ld_builtin ok hx hd hg hb hn ?_)
  rw [show backTo pos (starEach [e] env) = [(false, eval e env)] by rw [hs]; rfl]
  refine PyProof.Rows.callWith_type rfl (Calls.evalArgs_plain (Calls.spliced_cons (h μ s ok _ _ fun v g t k r => Calls.spliced_nil ?_)))
  obtain ⟨u, rfl⟩ := r.int_inv
  exact call_range_1 (s := { s with heap := g, toks := t }) (range_walk (s := s) hh ok.live k ⟨by omega, by omega⟩ hz hQ)
theorem EvI.range2 {x np pos e1 e2 a b} (hh : A.handled = none) (hx : env.kindOf x = some .globalImplicit) (hd : (x == ("__debug__" : Str)) = false) (hg : nsIn c.K mainGlobals x = some none) (hb : bootBuiltins x = some (.type "range")) (hn : x ≠ ("__name__" : Str))
    (h1 : Ev c A env ρ σ e1 (.int a)) (h2 : Ev c A env ρ σ e2 (.int b)) (hs : starEach [e1, e2] env = [(false, eval e1 env), (false, eval e2 env)]) (hz1 : -(2 ^ 62) ≤ a ∧ a < 2 ^ 62) (hz2 : -(2 ^ 62) ≤ b ∧ b < 2 ^ 62) :
    EvI c A env ρ σ (.Call (.Name x np) [e1, e2] [] pos) (rangeD a b) := fun μ s ok Q E hQ => by
  refine Call_Name rfl (ld_builtin ok hx hd hg hb hn ?_)
  rw [show backTo pos (starEach [e1, e2] env) = [(false, eval e1 env), (false, eval e2 env)] by rw [hs]; rfl]
  refine PyProof.Rows.callWith_type rfl (Calls.evalArgs_plain (Calls.spliced_cons (h1 μ s ok _ _ fun v g t k r => Calls.spliced_cons (h2 μ _ (ok.keeps k) _ _ fun v' g' t' k' r' => Calls.spliced_nil ?_))))
  obtain ⟨u, rfl⟩ := r.int_inv
  obtain ⟨u', rfl⟩ := r'.int_inv
  exact call_range_2 (s := { s with heap := g', toks := t' }) (range_walk (s := s) hh ok.live (k.trans k') hz1 hz2 hQ)
end
end Mine

end PartB8
section PartB9
open PySem PySem.W PyProof.Rows
namespace Mine

/-- an iterator's step: only what is in wr is turned; the base is laid anew -/
theorem StP.turn {c : Cx} {s₀ : Shared} {b : Heap} {env μ₀ wr ρ σ m cm ν s} {h₁ : Heap} {tk : Nat} (S : StP c { s₀ with heap := b } env (wr ++ μ₀) ρ σ m cm ν s)
    (gk : GK c s₀.heap) (kb : Kp s₀.heap b) (out : Live μ₀ s₀.heap) (off : ∀ a ∈ wr, s₀.heap.get? a = none)
    (hk : ∀ a o, a ∉ wr → s.heap.get? a = some o → h₁.get? a = some o) (lw : Live wr h₁) :
    StP c { s₀ with heap := hideAll h₁ (hid env ν []) } env (wr ++ μ₀) ρ σ m cm ν { s with heap := h₁, toks := tk } ∧ Kp s₀.heap (hideAll h₁ (hid env ν [])) ∧
    (∀ a o, a ∉ wr → b.get? a = some o → (hideAll h₁ (hid env ν [])).get? a = some o) ∧ (∀ a ∈ wr, a ∉ hid env ν []) := by
  have lwb : Live wr b := fun a ha => S.out a (List.mem_append_left _ ha)
  have offb : ∀ a, (∃ o, b.get? a = some o) → a ∉ hid env ν [] := fun a ⟨o, e⟩ q => by
    rcases mem_hid.mp q with q | q | q | q
    · exact ne_of_none S.ic.offL e q
    · obtain ⟨p, hp, rfl⟩ := List.mem_map.mp q; exact ne_of_none (S.ic.offC p hp) e rfl
    · obtain ⟨p, hp, rfl⟩ := List.mem_map.mp q; exact ne_of_none (S.new p hp) e rfl
    · cases q
  have wrh : ∀ a ∈ wr, a ∉ hid env ν [] := fun a ha => offb a (lwb a ha)
  have kb1 : ∀ a o, a ∉ wr → b.get? a = some o → (hideAll h₁ (hid env ν [])).get? a = some o := fun a o ha e => hideAll_get _ (hk a o ha (S.ic.keep a o e)) (offb a ⟨o, e⟩)
  have k0 : Kp s₀.heap (hideAll h₁ (hid env ν [])) := fun a o e => kb1 a o (fun q => ne_of_none (off a q) e rfl) (kb a o e)
  have nwL : env.locals ∉ wr := fun q => wrh _ q (mem_hid.mpr (.inl rfl))
  have nwC : ∀ p ∈ env.cells, p.2 ∉ wr := fun p hp q => wrh _ q (mem_hid.mpr (.inr (.inl (List.mem_map.mpr ⟨p, hp, rfl⟩))))
  have nwN : ∀ p ∈ ν, p.2 ∉ wr := fun p hp q => wrh _ q (mem_hid.mpr (.inr (.inr (.inl (List.mem_map.mpr ⟨p, hp, rfl⟩)))))
  have keep : ∀ a o, a ∉ hid env ν (wr ++ μ₀) → s.heap.get? a = some o → a ∉ hid env ν (wr ++ μ₀) ∧ h₁.get? a = some o := fun a o ha e =>
    ⟨ha, hk a o (fun q => ha (mem_hid.mpr (.inr (.inr (.inr (List.mem_append_left _ q)))))) e⟩
  refine ⟨⟨⟨?_, ?_, fun a o e => of_hideAll _ e, fun n a e => ?_, S.ic.apart, hideAll_none _ (mem_hid.mpr (.inl rfl)), fun p hp => hideAll_none _ (mem_hid.mpr (.inr (.inl (List.mem_map.mpr ⟨p, hp, rfl⟩))))⟩, gk.keeps k0, S.fn, S.gl, S.bl, S.cn,
    fun x d e => ?_, fun x d e => ?_, S.nd, fun p hp => hideAll_none _ (mem_hid.mpr (.inr (.inr (.inl (List.mem_map.mpr ⟨p, hp, rfl⟩))))), fun a ha => ?_, fun p hp => ?_⟩, k0, kb1, wrh⟩
  · obtain ⟨h, t, e⟩ := S.ic.same; exact ⟨h₁, tk, by rw [e]⟩
  · exact S.ic.ns.at' fun o e => hk _ o nwL e
  · obtain ⟨o, ho, hd⟩ := S.ic.cell n a e
    exact ⟨o, hk _ _ (nwC _ (mem_of_lookup e)) ho, hd⟩
  · obtain ⟨v, V, r⟩ := S.vars x d e; exact ⟨v, V, r.to keep⟩
  · obtain ⟨a, vs, h1, h2, ⟨n, h3⟩, h4⟩ := S.muts x d e
    exact ⟨a, vs, h1, h2, ⟨n, hk _ _ (nwN _ (lookup_mem h1)) h3⟩, h4.to keep⟩
  · rcases List.mem_append.mp ha with q | q
    · obtain ⟨o, e⟩ := lw a q; exact ⟨o, hideAll_get _ e (wrh a q)⟩
    · obtain ⟨o, e⟩ := out a q; exact ⟨o, k0 _ _ e⟩
  · obtain ⟨vs, n, e⟩ := S.lv p hp
    exact ⟨vs, n, hk _ _ (nwN p hp) e⟩

section
variable {c : Cx} {A : Around} {env : Env} {ρ : Rho} {σ : Sig} {P : Fl → Rho → Sig → Prop}

theorem Ex.for {t iter body pos ds rest} (hi : EvI c A env ρ σ iter ds) (hs : ∀ x, foldedSetIterable iter env x = pure x) (ht : ∀ it v, letOwnedTupleGo t it v = pure ())
    (I : Nat → Rho → Sig → Prop) (J : Rho → Sig → Prop) (R : PyData → Prop) (h0 : I 0 ρ σ)
    (step : ∀ i d ρ' σ', ds[i]? = some d → I i ρ' σ' → ∃ ρ'', Asg c A env t d ρ' σ' ρ'' ∧ Ex c A env ρ'' σ' body (fun f a b => match f with | .next => I (i + 1) a b | .cont => I (i + 1) a b | .brk => J a b | .ret r => R r))
    (hend : ∀ ρ' σ', I ds.length ρ' σ' → J ρ' σ') (hn : ∀ ρ' σ', J ρ' σ' → Ex c A env ρ' σ' rest P) (hr : ∀ r, R r → P (.ret r) [] []) : Ex c A env ρ σ (.For t iter body [] pos :: rest) P := by
  refine Ex.cons (fun f a b => match f with | .next => J a b | .ret r => R r | _ => False) ?_ hn (fun _ _ h => h.elim) (fun _ _ h => h.elim) hr
  intro s₀ μ₀ s S E
  obtain ⟨m, cm, ν, S⟩ := S
  refine wpAny_For (hi _ s S.env _ _ fun It fp wr Pw W h' tk w0 w1 wl woff wfp lfp hP k => ?_) hs
  have off0 : ∀ a ∈ wr, s₀.heap.get? a = none := fun a ha => none_back S.ic.keep (woff a ha)
  -- the first base
  let b0 := hideAll h' (hid env ν [])
  have wrh : ∀ a ∈ wr, a ∉ hid env ν [] := fun a ha q => wfp a (w0.sub a ha) (by
    rcases mem_hid.mp q with q | q | q | q
    · exact mem_hid.mpr (.inl q)
    · exact mem_hid.mpr (.inr (.inl q))
    · exact mem_hid.mpr (.inr (.inr (.inl q)))
    · cases q)
  have S1 := S.grow (tk := tk) k
  have kb0 : Kp s₀.heap b0 := kp_base S1
  have sub0 : ∀ a, a ∈ hid env ν [] → a ∈ hid env ν μ₀ := fun a q => by
    rcases mem_hid.mp q with q | q | q | q
    · exact mem_hid.mpr (.inl q)
    · exact mem_hid.mpr (.inr (.inl q))
    · exact mem_hid.mpr (.inr (.inr (.inl q)))
    · cases q
  have fresh : ∀ a o, a ∉ hid env ν μ₀ → s.heap.get? a = some o → a ∉ hid env ν (wr ++ μ₀) ∧ h'.get? a = some o := fun a o ha e => ⟨fun q => by
    rcases mem_hid.mp q with q | q | q | q
    · exact ha (mem_hid.mpr (.inl q))
    · exact ha (mem_hid.mpr (.inr (.inl q)))
    · exact ha (mem_hid.mpr (.inr (.inr (.inl q))))
    · rcases List.mem_append.mp q with q | q
      · exact ne_of_none (woff a q) e rfl
      · exact ha (mem_hid.mpr (.inr (.inr (.inr q)))), k _ _ e⟩
  have S2 : StP c { s₀ with heap := b0 } env (wr ++ μ₀) ρ σ m cm ν { s with heap := h', toks := tk } := by
    have R1 := S1.rebase
    refine ⟨⟨?_, R1.ic.ns, R1.ic.keep, R1.ic.cell, R1.ic.apart, R1.ic.offL, R1.ic.offC⟩, R1.gk, R1.fn, R1.gl, R1.bl, R1.cn, fun x d e => ?_, fun x d e => ?_, R1.nd, R1.new, fun a ha => ?_, R1.lv⟩
    · obtain ⟨h, t, e⟩ := S.ic.same; exact ⟨h', tk, by rw [e]⟩
    · obtain ⟨v, V, r⟩ := S.vars x d e; exact ⟨v, V, r.to fresh⟩
    · obtain ⟨a, vs, h1, h2, ⟨n, h3⟩, h4⟩ := S.muts x d e
      exact ⟨a, vs, h1, h2, ⟨n, k _ _ h3⟩, h4.to fresh⟩
    · rcases List.mem_append.mp ha with q | q
      · obtain ⟨o, e⟩ := lfp a (w0.sub a q); exact ⟨o, hideAll_get _ e (wrh a q)⟩
      · obtain ⟨o, e⟩ := S.out a q; exact ⟨o, kb0 _ _ e⟩
  refine codeAny_forLoop (fun n s' => ∃ i b m cm ν ρ' σ', n = ds.length + 1 - i ∧ i ≤ ds.length ∧ I i ρ' σ' ∧ StP c { s₀ with heap := b } env (wr ++ μ₀) ρ' σ' m cm ν s' ∧ Kp s₀.heap b ∧ W i s'.heap ∧ Live fp b ∧
      (∀ j v, Pw j v → ∃ d, ds[j]? = some d ∧ Rd (wr ++ μ₀) b v d)) ?_ (ds.length + 1) ⟨0, b0, m, cm, ν, ρ, σ, rfl, Nat.zero_le _, h0, S2, kb0, w1, ?_, ?_⟩ (fun v => ht _ v)
  rotate_left
  · intro a ha
    obtain ⟨o, e⟩ := lfp a ha
    exact ⟨o, hideAll_get _ e fun q => wfp a ha (sub0 a q)⟩
  · intro j v hv
    obtain ⟨d, hd, r⟩ := hP j v hv
    refine ⟨d, hd, r.to fun a o ha e => ⟨fun q => ha ?_, hideAll_get _ e fun q => ha (List.mem_append_right _ (sub0 a q))⟩⟩
    rcases List.mem_append.mp q with q | q
    · exact List.mem_append_left _ q
    · exact List.mem_append_right _ (mem_hid.mpr (.inr (.inr (.inr q))))
  rintro n s' ⟨i, b, m, cm, ν, ρ', σ', rfl, hle, hI, S', kb, hW, lf, hPb⟩
  by_cases hlt : i < ds.length
  · refine w0.item i s' _ _ hlt hW fun v h₁ tk₁ hv hW₁ hk₁ => ?_
    obtain ⟨S3, k3, kb3, wr3⟩ := S'.turn (h₁ := h₁) (tk := tk₁) S.gk kb S.out off0 hk₁ (wl _ _ hW₁)
    obtain ⟨d, hd, rb⟩ := hPb i v hv
    obtain ⟨ρ'', hA, hB⟩ := step i d ρ' σ' hd hI
    have offb : ∀ a, (∃ o, b.get? a = some o) → a ∉ hid env ν [] := fun a ⟨o, e⟩ q => by
      rcases mem_hid.mp q with q | q | q | q
      · exact ne_of_none S'.ic.offL e q
      · obtain ⟨p, hp, rfl⟩ := List.mem_map.mp q; exact ne_of_none (S'.ic.offC p hp) e rfl
      · obtain ⟨p, hp, rfl⟩ := List.mem_map.mp q; exact ne_of_none (S'.new p hp) e rfl
      · cases q
    have rv : Rd (hid env ν (wr ++ μ₀)) h₁ v d := rb.to fun a o ha e => ⟨fun q => by
        rcases mem_hid.mp q with q | q | q | q
        · exact offb a ⟨o, e⟩ (mem_hid.mpr (.inl q))
        · exact offb a ⟨o, e⟩ (mem_hid.mpr (.inr (.inl q)))
        · exact offb a ⟨o, e⟩ (mem_hid.mpr (.inr (.inr (.inl q))))
        · exact ha q, hk₁ a o (fun q => ha (List.mem_append_left _ q)) (S'.ic.keep a o e)⟩
    refine hA _ _ m cm ν _ v S3 rv _ _ fun s4 S4 => ?_
    have lf3 : Live fp (hideAll h₁ (hid env ν [])) := fun a ha => by
      by_cases hw : a ∈ wr
      · obtain ⟨o, e⟩ := wl _ _ hW₁ a hw; exact ⟨o, hideAll_get _ e (wr3 a hw)⟩
      · obtain ⟨o, e⟩ := lf a ha; exact ⟨o, kb3 a o hw e⟩
    have fin : ∀ s5, (∃ ρ5 σ5, I (i + 1) ρ5 σ5 ∧ St c { s₀ with heap := hideAll h₁ (hid env ν []) } env (wr ++ μ₀) ρ5 σ5 s5) →
        ∃ n', n' < ds.length + 1 - i ∧ ∃ i b m cm ν ρ' σ', n' = ds.length + 1 - i ∧ i ≤ ds.length ∧ I i ρ' σ' ∧ StP c { s₀ with heap := b } env (wr ++ μ₀) ρ' σ' m cm ν s5 ∧ Kp s₀.heap b ∧ W i s5.heap ∧ Live fp b ∧ (∀ j v, Pw j v → ∃ d, ds[j]? = some d ∧ Rd (wr ++ μ₀) b v d) := by
      rintro s5 ⟨ρ5, σ5, hI5, m5, cm5, ν5, S5⟩
      refine ⟨ds.length + 1 - (i + 1), by omega, i + 1, _, m5, cm5, ν5, ρ5, σ5, rfl, hlt, hI5, S5, k3, ?_, lf3, ?_⟩
      · refine w0.frame _ _ _ hW₁ fun a ha o e => ?_
        obtain ⟨o', e'⟩ := lf3 a ha
        have := of_hideAll _ e'
        rw [e] at this; cases this
        exact S5.ic.keep a o e'
      · intro j v hv
        obtain ⟨d, hd, r⟩ := hPb j v hv
        exact ⟨d, hd, r.to fun a o ha e => ⟨ha, kb3 a o (fun q => ha (List.mem_append_left _ q)) e⟩⟩
    refine wpAny_mono (hB _ _ s4 S4 _) (fun f s5 h5 => ?_) fun _ _ e => e
    cases f with
    | next => exact fin s5 h5
    | cont => exact fin s5 h5
    | brk =>
      obtain ⟨ρ5, σ5, hJ5, m5, cm5, ν5, S5⟩ := h5
      exact ⟨ρ5, σ5, hJ5, m5, cm5, ν5, S5.unbase k3 ⟨_, s₀.toks, rfl⟩ S.gk S.out fun a ha => List.mem_append_right _ ha⟩
    | ret v =>
      obtain ⟨d5, hR5, ⟨h6, t6, e6⟩, k6, r6⟩ := h5
      exact ⟨d5, hR5, ⟨h6, t6, by rw [e6]⟩, k3.trans k6, r6.weaken fun a ha => List.mem_append_right _ ha⟩
  · have hin : i = ds.length := by omega
    subst hin
    refine w0.done s' _ _ hW fun h₁ tk₁ hk₁ => wpAny_execs_nil ?_
    -- what the iterator wrote is not ours
    have lwb : Live wr b := fun a ha => S'.out a (List.mem_append_left _ ha)
    have nw : ∀ a, a ∈ hid env ν [] → a ∉ wr := fun a q hw => by
      obtain ⟨o, e⟩ := lwb a hw
      rcases mem_hid.mp q with q | q | q | q
      · exact ne_of_none S'.ic.offL e q
      · obtain ⟨p, hp, rfl⟩ := List.mem_map.mp q; exact ne_of_none (S'.ic.offC p hp) e rfl
      · obtain ⟨p, hp, rfl⟩ := List.mem_map.mp q; exact ne_of_none (S'.new p hp) e rfl
      · cases q
    have keep : ∀ a o, a ∉ hid env ν (wr ++ μ₀) → s'.heap.get? a = some o → a ∉ hid env ν μ₀ ∧ h₁.get? a = some o := fun a o ha e =>
      ⟨fun q => ha (by
        rcases mem_hid.mp q with q | q | q | q
        · exact mem_hid.mpr (.inl q)
        · exact mem_hid.mpr (.inr (.inl q))
        · exact mem_hid.mpr (.inr (.inr (.inl q)))
        · exact mem_hid.mpr (.inr (.inr (.inr (List.mem_append_right _ q))))), hk₁ a o (fun q => ha (mem_hid.mpr (.inr (.inr (.inr (List.mem_append_left _ q)))))) e⟩
    have U := S'.unbase (μ₀ := μ₀) kb ⟨_, s₀.toks, rfl⟩ S.gk S.out fun a ha => List.mem_append_right _ ha
    refine ⟨ρ', σ', hend _ _ hI, m, cm, ν, ⟨?_, ?_, fun a o e => ?_, fun n a e => ?_, U.ic.apart, U.ic.offL, U.ic.offC⟩, U.gk, U.fn, U.gl, U.bl, U.cn, fun x d e => ?_, fun x d e => ?_, U.nd, U.new, U.out, fun p hp => ?_⟩
    · obtain ⟨h, t, e⟩ := U.ic.same; exact ⟨h₁, tk₁, by rw [e]⟩
    · exact U.ic.ns.at' fun o e => hk₁ _ o (nw _ (mem_hid.mpr (.inl rfl))) e
    · exact hk₁ a o (fun q => ne_of_none (off0 a q) e rfl) (U.ic.keep a o e)
    · obtain ⟨o, ho, hd⟩ := U.ic.cell n a e
      exact ⟨o, hk₁ _ _ (nw _ (mem_hid.mpr (.inr (.inl (List.mem_map.mpr ⟨(n, a), mem_of_lookup e, rfl⟩))))) ho, hd⟩
    · obtain ⟨v, V, r⟩ := S'.vars x d e; exact ⟨v, V, r.to keep⟩
    · obtain ⟨a, vs, h1, h2, ⟨n, h3⟩, h4⟩ := S'.muts x d e
      exact ⟨a, vs, h1, h2, ⟨n, hk₁ _ _ (nw _ (mem_hid.mpr (.inr (.inr (.inl (List.mem_map.mpr ⟨(x, a), lookup_mem h1, rfl⟩)))))) h3⟩, h4.to keep⟩
    · obtain ⟨vs, n, e⟩ := S'.lv p hp
      exact ⟨vs, n, hk₁ _ _ (nw _ (mem_hid.mpr (.inr (.inr (.inl (List.mem_map.mpr ⟨p, hp, rfl⟩)))))) e⟩

theorem Ex.while {t body pos rest} (I : Nat → Rho → Sig → Prop) (J : Rho → Sig → Prop) (R : PyData → Prop) (n : Nat) (h0 : I n ρ σ)
    (turn : ∀ n ρ' σ', I n ρ' σ' → ∃ b, Tst c A env ρ' σ' t b ∧ (b = false → J ρ' σ') ∧ (b = true → Ex c A env ρ' σ' body (fun f a b => match f with | .next => ∃ m, m < n ∧ I m a b | .cont => ∃ m, m < n ∧ I m a b | .brk => J a b | .ret r => R r)))
    (hn : ∀ ρ' σ', J ρ' σ' → Ex c A env ρ' σ' rest P) (hr : ∀ r, R r → P (.ret r) [] []) : Ex c A env ρ σ (.While t body [] pos :: rest) P := by
  refine Ex.cons (fun f a b => match f with | .next => J a b | .ret r => R r | _ => False) ?_ hn (fun _ _ h => h.elim) (fun _ _ h => h.elim) hr
  intro s₀ μ₀ s S E
  refine wpAny_While (codeAny_whileLoop (fun n s' => ∃ ρ' σ', I n ρ' σ' ∧ St c s₀ env μ₀ ρ' σ' s') ?_ n ⟨ρ, σ, h0, S⟩)
  rintro n s' ⟨ρ', σ', hI, m, cm, ν, S'⟩
  obtain ⟨b, hT, hf, ht⟩ := turn n ρ' σ' hI
  refine hT _ s' S'.env _ _ fun g tk k => ?_
  have S1 := S'.grow (tk := tk) k
  cases b with
  | false => simp only [Bool.false_eq_true, if_false]; exact wpAny_execs_nil ⟨ρ', σ', hf rfl, m, cm, ν, S1⟩
  | true =>
    simp only [if_true]
    refine wpAny_mono (ht rfl s₀ μ₀ _ ⟨m, cm, ν, S1⟩ _) (fun f s5 h5 => ?_) fun _ _ e => e
    cases f with
    | next => obtain ⟨a, b, ⟨m', hm, hI'⟩, y⟩ := h5; exact ⟨m', hm, a, b, hI', y⟩
    | cont => obtain ⟨a, b, ⟨m', hm, hI'⟩, y⟩ := h5; exact ⟨m', hm, a, b, hI', y⟩
    | brk => obtain ⟨a, b, x, y⟩ := h5; exact ⟨a, b, x, y⟩
    | ret v => obtain ⟨d, x, y⟩ := h5; exact ⟨d, x, y⟩
end
end Mine

end PartB9
section PartB10
open PySem PySem.W PyProof.Rows
namespace Mine

/-- what is known of a def at an address of the written part -/
structure FnAt (c : Cx) (f : Addr) (fd : FuncData) (body : List Stmt) : Prop where
  obj : ∃ o, c.K.lookup f = some o ∧ o.data = .func fd
  cod : codeIn c.K fd.code fd.qualname = true
  bod : fd.body = .stmts body
  clo : fd.closure = []
  gl : fd.globals = mainGlobals
  bl : fd.builtins = builtinsNs
  co : fd.scope.isCoroutine = false
  gen : fd.scope.isGenerator = false
  kd : fd.scope.kind = .function
  cn : ∀ L, ∀ p ∈ cellsFrom (L + 1) fd.scope.names [], (cellsFrom (L + 1) fd.scope.names []).lookup p.1 = some p.2

section
variable {c : Cx}

theorem enter_body {f n fd body vals binds r} {ρ : Rho} {A : Around} {s : Shared} {μ : List Addr} (F : FnAt c f fd body) (hr : Room A (n + 1)) (gk : GK c s.heap) (lv : Live μ s.heap)
    (hbind : bindArgs fd ⟨vals, []⟩ = pure binds)
    (hkind : ∀ x ∈ binds, fd.scope.names.lookup x.1 = some .local ∨ (fd.scope.names.lookup x.1 = some .cell ∧ ((cellsFrom (s.heap.objs.size + 1) fd.scope.names []).lookup x.1).isSome = true))
    (hvars : ∀ x d, ρ.lookup x = some d → ∃ v, Val (callEnvC fd s.heap.objs.size f) (bindL (callEnvC fd s.heap.objs.size f).kindOf binds fun _ => none) (bindC (callEnvC fd s.heap.objs.size f).kindOf binds fun _ => none) x v ∧ Rd μ s.heap v d)
    (h : ∀ L A', Room A' n → Ex c A' (callEnvC fd L f) ρ [] body (fun fl _ _ => fl = .ret r)) : ∀ R : Result → Shared → Prop, (∀ v h' tk, Kp s.heap h' → Rd μ h' v r → R (.ok (.ret v)) { s with heap := h', toks := tk }) → codeAny (model c.prog c.w) A (.call (.ref f) ⟨vals, []⟩) R s := by
  intro Q hQ
  obtain ⟨o, ho, hd⟩ := F.obj
  refine codeAny_call_cells (by have := hr.2.1; omega) (gk.inK _ _ ho) hd gk.nolimit (codeRec_of gk.inK F.cod) F.bod hbind F.clo hkind (fun s₁ x => ?_) F.co F.gen F.kd
  have S : St c s (callEnvC fd s.heap.objs.size f) μ ρ [] s₁ := by
    refine ⟨_, _, [], IC.of x, gk, F.kd, F.gl, F.bl, F.cn _, fun y d e => ?_, (fun y ds e => by cases e), List.Pairwise.nil, (fun p hp => nomatch hp), lv, (fun p hp => nomatch hp)⟩
    obtain ⟨v, V, r'⟩ := hvars y d e
    refine ⟨v, V, r'.to fun b o' hb e' => ⟨fun q => ?_, x.toInCall.keep b o' e'⟩⟩
    rcases mem_hid.mp q with q | q | q | q
    · exact ne_of_none (IC.of x).offL e' q
    · obtain ⟨p, hp, rfl⟩ := List.mem_map.mp q; exact ne_of_none ((IC.of x).offC p hp) e' rfl
    · cases q
    · exact hb q
  refine wpAny_mono (h _ _ (hr.deeper _) s μ s₁ S (fun _ _ => False)) (fun fl s' h' => ?_) fun _ _ e => e.elim
  cases fl with
  | next => obtain ⟨_, _, q, _⟩ := h'; cases q
  | brk => obtain ⟨_, _, q, _⟩ := h'; cases q
  | cont => obtain ⟨_, _, q, _⟩ := h'; cases q
  | ret v =>
    obtain ⟨d, q, ⟨h6, t6, e6⟩, k6, r6⟩ := h'
    cases q
    subst e6
    exact hQ v h6 t6 k6 r6

theorem slot_of {fd : FuncData} {L f : Addr} {x : Str} (h : (callEnvC fd L f).kindOf x = some .local) : Slotted (callEnvC fd L f) x := .inl h

theorem CallsTo.body1 {f n fd body x d r} (F : FnAt c f fd body) (hbind : ∀ v, bindArgs fd ⟨[v], []⟩ = pure [(x, v)])
    (hkind : ∀ L, fd.scope.names.lookup x = some .local ∨ (fd.scope.names.lookup x = some .cell ∧ ((cellsFrom (L + 1) fd.scope.names []).lookup x).isSome = true))
    (h : ∀ L A, Room A n → Ex c A (callEnvC fd L f) [(x, d)] [] body (fun fl _ _ => fl = .ret r)) : CallsTo c f (n + 1) [d] r := fun A s vals μ hr gk lv ra => by
  obtain ⟨v, vs, rfl, r1, r2⟩ := ra.cons_inv
  rw [r2.nil_inv]
  refine enter_body F hr gk lv (hbind v) (fun y hy => by simp at hy; subst hy; exact hkind _) (fun y d' e => ?_) h
  rw [List.lookup_cons] at e
  by_cases hy : (y == x) = true
  · simp only [hy] at e; cases e
    have := beq_iff_eq.mp hy; subst this
    refine ⟨v, ?_, r1⟩
    rcases hkind s.heap.objs.size with hl | ⟨hl, hc⟩
    · have hl' : (callEnvC fd s.heap.objs.size f).kindOf y = some .local := hl
      exact .inl ⟨hl', by unfold bindL bindL; rw [if_pos hl']; simp⟩
    · have hl' : (callEnvC fd s.heap.objs.size f).kindOf y = some .cell := hl
      exact .inr ⟨hl', Option.isSome_iff_exists.mp hc, by unfold bindC bindC; rw [if_neg (by rw [hl']; decide)]; simp⟩
  · have hy' : (y == x) = false := by simpa using hy
    simp [hy'] at e

theorem CallsTo.body2 {f n fd body x y d1 d2 r} (F : FnAt c f fd body) (hbind : ∀ v w, bindArgs fd ⟨[v, w], []⟩ = pure [(x, v), (y, w)]) (hxy : (x == y) = false)
    (hk1 : ∀ L, fd.scope.names.lookup x = some .local ∨ (fd.scope.names.lookup x = some .cell ∧ ((cellsFrom (L + 1) fd.scope.names []).lookup x).isSome = true))
    (hk2 : ∀ L, fd.scope.names.lookup y = some .local ∨ (fd.scope.names.lookup y = some .cell ∧ ((cellsFrom (L + 1) fd.scope.names []).lookup y).isSome = true))
    (h : ∀ L A, Room A n → Ex c A (callEnvC fd L f) [(x, d1), (y, d2)] [] body (fun fl _ _ => fl = .ret r)) : CallsTo c f (n + 1) [d1, d2] r := fun A s vals μ hr gk lv ra => by
  obtain ⟨v, vs, rfl, r1, r2⟩ := ra.cons_inv
  obtain ⟨w, ws, rfl, r3, r4⟩ := r2.cons_inv
  rw [r4.nil_inv]
  have hne : x ≠ y := by simpa using hxy
  refine enter_body F hr gk lv (hbind v w) (fun z hz => by
    simp at hz
    rcases hz with rfl | rfl
    · exact hk1 _
    · exact hk2 _) (fun z d' e => ?_) h
  rw [List.lookup_cons] at e
  by_cases hz : (z == x) = true
  · simp only [hz] at e; cases e
    have := beq_iff_eq.mp hz; subst this
    refine ⟨v, ?_, r1⟩
    rcases hk1 s.heap.objs.size with hl | ⟨hl, hc⟩
    · have hl' : (callEnvC fd s.heap.objs.size f).kindOf z = some .local := hl
      refine .inl ⟨hl', ?_⟩
      by_cases hk : (callEnvC fd s.heap.objs.size f).kindOf y = some .local
      · simp [bindL, hl', hk, hne]
      · simp [bindL, hl', hk]
    · have hl' : (callEnvC fd s.heap.objs.size f).kindOf z = some .cell := hl
      refine .inr ⟨hl', Option.isSome_iff_exists.mp hc, ?_⟩
      by_cases hk : (callEnvC fd s.heap.objs.size f).kindOf y = some .local
      · simp [bindC, hl', hk]
      · simp [bindC, hl', hk, hne]
  · have hz' : (z == x) = false := by simpa using hz
    simp only [hz'] at e
    rw [List.lookup_cons] at e
    by_cases hw : (z == y) = true
    · simp only [hw] at e; cases e
      have := beq_iff_eq.mp hw; subst this
      refine ⟨w, ?_, r3⟩
      rcases hk2 s.heap.objs.size with hl | ⟨hl, hc⟩
      · have hl' : (callEnvC fd s.heap.objs.size f).kindOf z = some .local := hl
        refine .inl ⟨hl', ?_⟩
        simp [bindL, hl']
      · have hl' : (callEnvC fd s.heap.objs.size f).kindOf z = some .cell := hl
        refine .inr ⟨hl', Option.isSome_iff_exists.mp hc, ?_⟩
        simp [bindC, hl']
    · have hw' : (z == y) = false := by simpa using hw
      simp [hw'] at e
end
end Mine

end PartB10
section PartR1
open PySem PySem.W PyProof.Rows
namespace Mine
open Sre

abbrev C4 : Array Nat := #[14, 8, 1, 2, 4294967295, 1, 1, 46, 0, 16, 46, 24, 9, 1, 4294967295, 13, 4, 8, 0, 0, 1, 6, 5, 1]

abbrev mk4 (T : Array Nat) (pc pos start handed : Nat) (outer : Bool) (frames : List Sre.Frame) (weight : Nat) (answer : Option Bool) (seen : Sre.Seen) (out : Option Sre.Outcome) : M :=
  { code := C4, text := T, lim := T.size, start := start, lastStart := T.size, wholeText := false, mustAdvance := false, pc := pc, pos := pos, handed := handed, outermost := outer, marks := #[], lastmark := -1, lastindex := -1, loops := #[], inner := none, frames := frames, weight := weight, answer := answer, seen := seen, outcome := out }
abbrev ns4 (s : Nat) (o : Bool) : Sre.Frame := { wait := .nextStart, pc := 9, pos := s, outermost := o }
abbrev gb4 (q : Nat) (o : Bool) (n : Int) : Sre.Frame := { wait := .giveBack, pc := 11, pos := q, outermost := o, count := n, kept := { lastmark := -1, lastindex := -1, whole := false, marks := #[] } }

def stN : Nat → M → M
  | 0, m => m
  | n + 1, m => stN n m.step
theorem stN_add (a b : Nat) (m : M) : stN (a + b) m = stN b (stN a m) := by
  induction a generalizing m with
  | zero => simp [stN]
  | succ a ih => rw [Nat.succ_add]; exact ih _

theorem lit_end {T s o seen} (h : T.size ≤ s) : ∃ seen', (mk4 T 9 s s s o [ns4 s o] 1 none seen none).step = mk4 T 9 s s s o [ns4 s o] 1 (some false) seen' none := by
  refine ⟨seen.add 16, ?_⟩
  show M.exec (mk4 T 9 s s s o [ns4 s o] 1 none seen none) = _
  show (if s ≥ T.size then _ else _) = _
  rw [if_pos h]
  rfl
theorem lit_no {T : Array Nat} {s o seen} (h : s < T.size) (hc : T.getD s 0 ≠ 46) : ∃ seen', (mk4 T 9 s s s o [ns4 s o] 1 none seen none).step = mk4 T 9 s s s o [ns4 s o] 1 (some false) seen' none := by
  refine ⟨seen.add 16, ?_⟩
  show (if s ≥ T.size then _ else (match (Except.ok (T.getD s 0 == 46, _) : Except String (Bool × Sre.Seen)) with | .error why => _ | .ok (false, seen) => _ | .ok (true, seen) => _)) = _
  rw [if_neg (by omega)]
  have : (T.getD s 0 == 46) = false := by simpa using hc
  rw [this]
  rfl
theorem lit_yes {T : Array Nat} {s o seen} (h : s < T.size) (hc : T.getD s 0 = 46) : ∃ seen', (mk4 T 9 s s s o [ns4 s o] 1 none seen none).step = mk4 T 11 (s + 1) s s o [ns4 s o] 1 none seen' none := by
  refine ⟨seen.add 16, ?_⟩
  show (if s ≥ T.size then _ else (match (Except.ok (T.getD s 0 == 46, _) : Except String (Bool × Sre.Seen)) with | .error why => _ | .ok (false, seen) => _ | .ok (true, seen) => _)) = _
  rw [if_neg (by omega)]
  have : (T.getD s 0 == 46) = true := by simpa using hc
  rw [this]
  rfl

theorem fail_go {T : Array Nat} {pc pos st hd ou s o seen} (h : s < T.size) : (mk4 T pc pos st hd ou [ns4 s o] 1 (some false) seen none).step = mk4 T 9 (s + 1) (s + 1) (s + 1) false [ns4 (s + 1) false] 1 none seen none := by
  show (if s < T.size then _ else _) = _
  rw [if_pos h]
  rfl
theorem fail_stop {T : Array Nat} {pc pos st hd ou s o seen} (h : T.size ≤ s) : (mk4 T pc pos st hd ou [ns4 s o] 1 (some false) seen none).step = mk4 T 9 s st hd o [] 0 (some false) seen none := by
  show (if s < T.size then _ else _) = _
  rw [if_neg (by omega)]
  rfl
theorem fail_out {T : Array Nat} {pc pos st hd ou seen} : (mk4 T pc pos st hd ou [] 0 (some false) seen none).step = mk4 T pc pos st hd ou [] 0 (some false) seen (some .failed) := rfl
theorem succ_out {T : Array Nat} {pc pos st hd ou seen} : (mk4 T pc pos st hd ou [] 0 (some true) seen none).step = mk4 T pc pos st hd ou [] 0 (some true) seen (some .matched) := rfl
theorem succ_ns {T : Array Nat} {pc pos st hd ou s o seen} : (mk4 T pc pos st hd ou [ns4 s o] 1 (some true) seen none).step = mk4 T 9 s st hd o [] 0 (some true) seen none := rfl
theorem succ_gb {T : Array Nat} {pc pos st hd ou q o n s o' seen} : (mk4 T pc pos st hd ou [gb4 q o n, ns4 s o'] 2 (some true) seen none).step = mk4 T 11 q st hd o [ns4 s o'] 1 (some true) seen none := rfl
theorem at_success {T : Array Nat} {pos st hd ou fs w seen} : ∃ seen', (mk4 T 23 pos st hd ou fs w none seen none).step = mk4 T 23 pos st pos ou fs w (some true) seen' none := by
  refine ⟨seen.add 1, ?_⟩
  cases ou <;> rfl
theorem at_end_yes {T : Array Nat} {pos st hd ou fs w seen} (h : (pos == T.size || (pos + 1 == T.size && T.getD pos 0 == 10)) = true) : ∃ seen', (mk4 T 21 pos st hd ou fs w none seen none).step = mk4 T 23 pos st hd ou fs w none seen' none := by
  refine ⟨(seen.add 6).add 48, ?_⟩
  show (if (pos == T.size || (pos + 1 == T.size && T.getD pos 0 == 10)) = true then _ else _) = _
  rw [if_pos h]
  rfl
theorem at_end_no {T : Array Nat} {pos st hd ou fs w seen} (h : (pos == T.size || (pos + 1 == T.size && T.getD pos 0 == 10)) = false) : ∃ seen', (mk4 T 21 pos st hd ou fs w none seen none).step = mk4 T 21 pos st hd ou fs w (some false) seen' none := by
  refine ⟨(seen.add 6).add 48, ?_⟩
  show (if (pos == T.size || (pos + 1 == T.size && T.getD pos 0 == 10)) = true then _ else _) = _
  rw [if_neg (by rw [h]; exact Bool.false_ne_true)]
  rfl
theorem gb_more {T : Array Nat} {pc pos st hd ou q o s o' seen} {n : Nat} (h : 2 ≤ n) : (mk4 T pc pos st hd ou [gb4 q o n, ns4 s o'] 2 (some false) seen none).step = mk4 T 21 (q - 1) st (q - 1) o [gb4 (q - 1) o ((n - 1 : Nat) : Int), ns4 s o'] 2 none seen none := by
  show (if ((n : Int) - 1 < ((1 : Nat) : Int)) then _ else _) = _
  rw [if_neg (by omega)]
  have : ((n : Int) - 1) = ((n - 1 : Nat) : Int) := by omega
  rw [this]
  rfl
theorem gb_done {T : Array Nat} {pc pos st hd ou q o s o' seen} {n : Nat} (h : n ≤ 1) : (mk4 T pc pos st hd ou [gb4 q o n, ns4 s o'] 2 (some false) seen none).step = mk4 T 11 q st hd o [ns4 s o'] 1 (some false) seen none := by
  show (if ((n : Int) - 1 < ((1 : Nat) : Int)) then _ else _) = _
  rw [if_pos (by omega)]
  rfl

theorem acc_digit (k : Nat) (seen : Sre.Seen) : ∃ seen', accepts C4 15 k seen = .ok (Sre.isDigit k, seen') := by
  show ∃ seen', inSet C4 k 24 17 true seen = _
  show ∃ seen', (do if ← category 0 k then pure (true, (seen.add 8).add 55) else inSet C4 k 23 19 true ((seen.add 8).add 55) : Except String (Bool × Sre.Seen)) = _
  have hc : category 0 k = .ok (Sre.isDigit k) := by
    show (Except.ok (Sre.isDigit k != (0 % 2 == 1))) = _
    cases Sre.isDigit k <;> rfl
  rw [hc]
  cases Sre.isDigit k
  · exact ⟨_, rfl⟩
  · exact ⟨_, rfl⟩

/-- how many digits stand from p on -/
def digs (T : Array Nat) (p : Nat) : Nat := ((T.toList.drop p).takeWhile Sre.isDigit).length
theorem run_digs (T : Array Nat) : ∀ (k p found : Nat) (seen : Sre.Seen), k = T.size - p → ∃ seen', run C4 T 15 k p found seen = .ok (found + digs T p, seen')
  | 0, p, found, seen, h => by
    refine ⟨seen, ?_⟩
    have : T.toList.drop p = [] := by rw [List.drop_eq_nil_iff]; simp; omega
    simp [Sre.run, digs, this]
  | k + 1, p, found, seen, h => by
    have hp : p < T.size := by omega
    have hd : T.toList.drop p = T.getD p 0 :: T.toList.drop (p + 1) := by
      rw [List.drop_eq_getElem_cons (by simpa using hp)]
      congr 1
      simp [Array.getD, hp]
    obtain ⟨seen1, e1⟩ := acc_digit (T.getD p 0) seen
    show ∃ seen', (do let (yes, seen) ← accepts C4 15 (T.getD p 0) seen; if yes then run C4 T 15 k (p + 1) (found + 1) seen else pure (found, seen) : Except String (Nat × Sre.Seen)) = _
    rw [e1]
    cases hdg : Sre.isDigit (T.getD p 0)
    · refine ⟨seen1, ?_⟩
      have : digs T p = 0 := by unfold digs; rw [hd, List.takeWhile_cons, hdg]; rfl
      rw [this]; rfl
    · obtain ⟨seen2, e2⟩ := run_digs T k (p + 1) (found + 1) seen1 (by omega)
      refine ⟨seen2, ?_⟩
      have : digs T p = 1 + digs T (p + 1) := by unfold digs; rw [hd, List.takeWhile_cons, hdg]; simp; omega
      show run C4 T 15 k (p + 1) (found + 1) seen1 = _
      rw [e2, this]; congr 2; omega

theorem rep_small {T : Array Nat} {p st hd ou fs w seen} (hz : T.size < 4294967295) (h : digs T p = 0) : ∃ seen', (mk4 T 11 p st hd ou fs w none seen none).step = mk4 T 11 p st hd ou fs w (some false) seen' none := by
  by_cases hr : ((1 : Nat) : Int) > (T.size : Int) - p
  · refine ⟨seen.add 24, ?_⟩
    show (if ((1 : Nat) : Int) > (T.size : Int) - p then _ else _) = _
    rw [if_pos hr]
    rfl
  · obtain ⟨seen', e⟩ := run_digs T (T.size - p) p 0 ((seen.add 24).add 13) rfl
    refine ⟨seen', ?_⟩
    show (if ((1 : Nat) : Int) > (T.size : Int) - p then _ else (match run C4 T 15 (min 4294967295 ((T.size : Int) - p).toNat) p 0 ((seen.add 24).add 13) with | .error why => _ | .ok (n, seen) => _)) = _
    rw [if_neg hr]
    have : min 4294967295 ((T.size : Int) - p).toNat = T.size - p := by omega
    rw [this, e, h]
    rfl
theorem rep_run {T : Array Nat} {p st hd ou s o seen} (hz : T.size < 4294967295) (h : digs T p ≠ 0) : ∃ seen', (mk4 T 11 p st hd ou [ns4 s o] 1 none seen none).step =
    mk4 T 21 (p + digs T p) st (p + digs T p) ou [gb4 (p + digs T p) ou (digs T p : Nat), ns4 s o] 2 none seen' none := by
  have hp : p < T.size := by
    apply Classical.byContradiction
    intro hn
    apply h
    have : T.toList.drop p = [] := by rw [List.drop_eq_nil_iff]; simp; omega
    simp [digs, this]
  obtain ⟨seen', e⟩ := run_digs T (T.size - p) p 0 ((seen.add 24).add 13) rfl
  refine ⟨seen', ?_⟩
  show (if ((1 : Nat) : Int) > (T.size : Int) - p then _ else (match run C4 T 15 (min 4294967295 ((T.size : Int) - p).toNat) p 0 ((seen.add 24).add 13) with | .error why => _ | .ok (n, seen) => _)) = _
  rw [if_neg (by omega)]
  have : min 4294967295 ((T.size : Int) - p).toNat = T.size - p := by omega
  rw [this, e, Nat.zero_add]
  show (if digs T p < 1 then _ else _) = _
  rw [if_neg (by omega)]
  rfl

def isNum (l : List Nat) : Bool := !((l.takeWhile Sre.isDigit).isEmpty) && (l.dropWhile Sre.isDigit == [] || l.dropWhile Sre.isDigit == [10])
/-- a dot, figures, and the end (one line feed aside) somewhere in the text -/
def ipv4 : List Nat → Bool
  | [] => false
  | k :: l => (k == 46 && isNum l) || ipv4 l

theorem getD_drop {T : Array Nat} {p : Nat} (hp : p < T.size) : T.toList.drop p = T.getD p 0 :: T.toList.drop (p + 1) := by
  rw [List.drop_eq_getElem_cons (by simpa using hp)]
  congr 1
  simp [Array.getD, hp]
theorem digs_le (T : Array Nat) (p : Nat) : digs T p ≤ T.size - p := by
  unfold digs
  have h1 := (List.takeWhile_sublist (p := Sre.isDigit) (l := T.toList.drop p)).length_le
  rw [List.length_drop] at h1
  simpa using h1
theorem drop_digs (T : Array Nat) (p : Nat) : (T.toList.drop p).dropWhile Sre.isDigit = T.toList.drop (p + digs T p) := by
  have h := List.takeWhile_append_dropWhile (p := Sre.isDigit) (l := T.toList.drop p)
  have h2 : T.toList.drop (p + digs T p) = (T.toList.drop p).drop (digs T p) := by rw [List.drop_drop]
  rw [h2]
  conv => rhs; rw [← h]
  unfold digs
  rw [List.drop_left]
theorem end_iff (T : Array Nat) (q : Nat) (hq : q ≤ T.size) : (q == T.size || (q + 1 == T.size && T.getD q 0 == 10)) = (T.toList.drop q == [] || T.toList.drop q == [10]) := by
  by_cases h : q = T.size
  · subst h
    have : T.toList.drop T.size = [] := by rw [List.drop_eq_nil_iff]; simp
    simp [this]
  · have hlt : q < T.size := by omega
    rw [getD_drop hlt]
    have e1 : (q == T.size) = false := by simpa using h
    rw [e1]
    by_cases h2 : q + 1 = T.size
    · have : T.toList.drop (q + 1) = [] := by rw [List.drop_eq_nil_iff]; simp; omega
      rw [this, h2]; simp
    · have e2 : (q + 1 == T.size) = false := by simpa using h2
      rw [e2]
      have : T.toList.drop (q + 1) ≠ [] := by rw [Ne, List.drop_eq_nil_iff]; simp; omega
      simp [this]

/-- the machine comes to an end -/
def Ends (B : Nat) (m : M) (b : Bool) : Prop := ∃ k, k ≤ B ∧ (stN k m).outcome = some (if b then .matched else .failed)
theorem Ends.step {B m b} (h : Ends B m.step b) : Ends (B + 1) m b := by
  obtain ⟨k, hk, e⟩ := h
  exact ⟨k + 1, by omega, e⟩
theorem Ends.mono {B B' m b} (h : Ends B m b) (hb : B ≤ B') : Ends B' m b := by
  obtain ⟨k, hk, e⟩ := h; exact ⟨k, by omega, e⟩

theorem ends_succ {T : Array Nat} {pos st hd ou q o n s o' seen} : Ends 5 (mk4 T 23 pos st hd ou [gb4 q o n, ns4 s o'] 2 none seen none) true := by
  refine Ends.step ?_
  obtain ⟨s1, e1⟩ := at_success (T := T) (pos := pos) (st := st) (hd := hd) (ou := ou) (fs := [gb4 q o n, ns4 s o']) (w := 2) (seen := seen)
  rw [e1]
  refine Ends.step ?_; rw [succ_gb]
  refine Ends.step ?_; rw [succ_ns]
  refine Ends.step ?_; rw [succ_out]
  exact ⟨0, by omega, rfl⟩

/-- giving back is in vain -/
theorem ends_back {T : Array Nat} {s o st p b B} (hB : ∀ hd q ou pc seen, Ends B (mk4 T pc q st hd ou [ns4 s o] 1 (some false) seen none) b) :
    ∀ (n : Nat) (q hd : Nat) (ou : Bool) (pc pos : Nat) seen, (∀ j, j < n → p ≤ q - 1 - j ∧ q - 1 - j < T.size ∧ j + 1 ≤ q ∧ Sre.isDigit (T.getD (q - 1 - j) 0) = true) → 1 ≤ n →
      Ends (B + 2 * n) (mk4 T pc pos st hd ou [gb4 q o n, ns4 s o] 2 (some false) seen none) b
  | 0, _, _, _, _, _, _, _, h => by omega
  | 1, q, hd, ou, pc, pos, seen, hdg, _ => by
    refine Ends.mono (Ends.step ?_) (by omega : B + 1 ≤ _)
    have := gb_done (T := T) (pc := pc) (pos := pos) (st := st) (hd := hd) (ou := ou) (q := q) (o := o) (s := s) (o' := o) (seen := seen) (n := 1) (Nat.le_refl _)
    rw [this]
    exact hB _ _ _ _ _
  | n + 2, q, hd, ou, pc, pos, seen, hdg, _ => by
    refine Ends.mono (Ends.step (Ends.step (B := B + 2 * (n + 1)) ?_)) (by omega)
    have := gb_more (T := T) (pc := pc) (pos := pos) (st := st) (hd := hd) (ou := ou) (q := q) (o := o) (s := s) (o' := o) (seen := seen) (n := n + 2) (by omega)
    rw [this]
    have d0 := hdg 0 (by omega)
    have ne : ((q - 1) == T.size || ((q - 1) + 1 == T.size && T.getD (q - 1) 0 == 10)) = false := by
      have h1 : (q - 1 == T.size) = false := by simp; have := d0.2.1; omega
      have h2 : (T.getD (q - 1) 0 == 10) = false := by
        have := d0.2.2.2
        simp only [Nat.sub_zero] at this
        unfold Sre.isDigit at this
        simp only [Bool.and_eq_true, decide_eq_true_eq] at this
        simp only [beq_eq_false_iff_ne]; omega
      rw [h1, h2]; simp
    obtain ⟨s1, e1⟩ := at_end_no (T := T) (pos := q - 1) (st := st) (hd := q - 1) (ou := o) (fs := [gb4 (q - 1) o ((n + 2 - 1 : Nat) : Int), ns4 s o]) (w := 2) (seen := seen) ne
    rw [e1]
    exact ends_back hB (n + 1) (q - 1) _ _ _ _ _ (fun j hj => by
      have := hdg (j + 1) (by omega)
      have e : q - 1 - (j + 1) = q - 1 - 1 - j := by omega
      rw [e] at this
      exact ⟨this.1, this.2.1, by omega, this.2.2.2⟩) (by omega)

theorem mem_takeWhile_true {p : Nat → Bool} : ∀ {l : List Nat} {x : Nat}, x ∈ l.takeWhile p → p x = true
  | [], x, h => by simp at h
  | y :: l, x, h => by
    rw [List.takeWhile_cons] at h
    cases hy : p y with
    | false => simp [hy] at h
    | true =>
      simp only [hy, if_true, List.mem_cons] at h
      rcases h with rfl | h
      · exact hy
      · exact mem_takeWhile_true h
theorem digs_all (T : Array Nat) (p j : Nat) (h : j < digs T p) : Sre.isDigit (T.getD (p + j) 0) = true := by
  unfold digs at h
  obtain ⟨r, hr⟩ := List.takeWhile_prefix (p := Sre.isDigit) (l := T.toList.drop p)
  generalize ht : (T.toList.drop p).takeWhile Sre.isDigit = t at h hr
  have hm : Sre.isDigit t[j] = true := mem_takeWhile_true (l := T.toList.drop p) (by rw [ht]; exact List.getElem_mem h)
  have : (T.toList.drop p)[j]? = some t[j] := by
    rw [← hr, List.getElem?_append_left h]; exact List.getElem?_eq_getElem h
  rw [List.getElem?_drop, Array.getElem?_toList] at this
  obtain ⟨hlt, e⟩ := Array.getElem?_eq_some_iff.mp this
  have e' : T.getD (p + j) 0 = t[j] := by simp [Array.getD, hlt, e]
  rw [e']; exact hm
theorem isNum_eq (T : Array Nat) (p : Nat) : isNum (T.toList.drop p) = (!(digs T p == 0) && (T.toList.drop (p + digs T p) == [] || T.toList.drop (p + digs T p) == [10])) := by
  unfold isNum
  rw [drop_digs]
  congr 1
  unfold digs
  cases (T.toList.drop p).takeWhile Sre.isDigit <;> rfl

theorem ends_at {T : Array Nat} (hz : T.size < 4294967295) : ∀ (r s : Nat) (o : Bool) seen, r = T.size - s → s ≤ T.size → Ends ((r + 1) * (2 * T.size + 20)) (mk4 T 9 s s s o [ns4 s o] 1 none seen none) (ipv4 (T.toList.drop s))
  | 0, s, o, seen, hr, hs => by
    have hs' : T.size ≤ s := by omega
    have : T.toList.drop s = [] := by rw [List.drop_eq_nil_iff]; simpa using hs'
    rw [this]
    refine Ends.mono (Ends.step (Ends.step (Ends.step (B := 0) ?_))) (by omega)
    obtain ⟨s1, e1⟩ := lit_end (T := T) (s := s) (o := o) (seen := seen) hs'
    rw [e1, fail_stop hs', fail_out]
    exact ⟨0, Nat.le_refl _, rfl⟩
  | r + 1, s, o, seen, hr, hs => by
    have hlt : s < T.size := by omega
    have next : ∀ hd q ou pc st seen, Ends ((r + 1) * (2 * T.size + 20) + 1) (mk4 T pc q st hd ou [ns4 s o] 1 (some false) seen none) (ipv4 (T.toList.drop (s + 1))) := fun hd q ou pc st seen => by
      refine Ends.step ?_
      rw [fail_go hlt]
      exact ends_at hz r (s + 1) false seen (by omega) (by omega)
    have hd := getD_drop hlt
    have hmul : (r + 1 + 1) * (2 * T.size + 20) = (r + 1) * (2 * T.size + 20) + (2 * T.size + 20) := Nat.succ_mul _ _
    by_cases hc : T.getD s 0 = 46
    · obtain ⟨s1, e1⟩ := lit_yes (o := o) (seen := seen) hlt hc
      by_cases h0 : digs T (s + 1) = 0
      · have hv : ipv4 (T.toList.drop s) = ipv4 (T.toList.drop (s + 1)) := by
          rw [hd]; show (_ && isNum _ || _) = _
          rw [isNum_eq, h0]; simp
        rw [hv]
        refine Ends.mono (Ends.step (Ends.step (B := (r + 1) * (2 * T.size + 20) + 1) ?_)) (by omega)
        obtain ⟨s2, e2⟩ := rep_small (T := T) (p := s + 1) (st := s) (hd := s) (ou := o) (fs := [ns4 s o]) (w := 1) (seen := s1) hz h0
        rw [e1, e2]
        exact next _ _ _ _ _ _
      · obtain ⟨s2, e2⟩ := rep_run (T := T) (p := s + 1) (st := s) (hd := s) (ou := o) (s := s) (o := o) (seen := s1) hz h0
        have hle := digs_le T (s + 1)
        cases he : (s + 1 + digs T (s + 1) == T.size || (s + 1 + digs T (s + 1) + 1 == T.size && T.getD (s + 1 + digs T (s + 1)) 0 == 10)) with
        | true =>
          have hv : ipv4 (T.toList.drop s) = true := by
            rw [hd]; show (_ && isNum _ || _) = _
            rw [isNum_eq, ← end_iff _ _ (by omega), he, hc]; simp [h0]
          rw [hv]
          refine Ends.mono (Ends.step (Ends.step (Ends.step (B := 5) ?_))) (by omega)
          rw [e1, e2]
          obtain ⟨s3, e3⟩ := at_end_yes (T := T) (pos := s + 1 + digs T (s + 1)) (st := s) (hd := s + 1 + digs T (s + 1)) (ou := o) (fs := [gb4 (s + 1 + digs T (s + 1)) o (digs T (s + 1) : Nat), ns4 s o]) (w := 2) (seen := s2) he
          rw [e3]
          exact ends_succ
        | false =>
          have hv : ipv4 (T.toList.drop s) = ipv4 (T.toList.drop (s + 1)) := by
            rw [hd]; show (_ && isNum _ || _) = _
            rw [isNum_eq, ← end_iff _ _ (by omega), he]; simp
          rw [hv]
          refine Ends.mono (Ends.step (Ends.step (Ends.step (B := (r + 1) * (2 * T.size + 20) + 1 + 2 * digs T (s + 1)) ?_))) (by omega)
          rw [e1, e2]
          obtain ⟨s3, e3⟩ := at_end_no (T := T) (pos := s + 1 + digs T (s + 1)) (st := s) (hd := s + 1 + digs T (s + 1)) (ou := o) (fs := [gb4 (s + 1 + digs T (s + 1)) o (digs T (s + 1) : Nat), ns4 s o]) (w := 2) (seen := s2) he
          rw [e3]
          refine ends_back (p := s + 1) (fun hd q ou pc seen => next hd q ou pc s seen) (digs T (s + 1)) _ _ _ _ _ _ (fun j hj => ?_) (by omega)
          have e : s + 1 + digs T (s + 1) - 1 - j = s + 1 + (digs T (s + 1) - 1 - j) := by omega
          rw [e]
          exact ⟨by omega, by omega, by omega, digs_all T (s + 1) _ (by omega)⟩
    · have hv : ipv4 (T.toList.drop s) = ipv4 (T.toList.drop (s + 1)) := by
        rw [hd]; show (_ && isNum _ || _) = _
        have : (T.getD s 0 == 46) = false := by simpa using hc
        rw [this]; simp
      rw [hv]
      obtain ⟨s1, e1⟩ := lit_no (o := o) (seen := seen) hlt hc
      refine Ends.mono (Ends.step (B := (r + 1) * (2 * T.size + 20) + 1) ?_) (by omega)
      rw [e1]
      exact next _ _ _ _ _ _
end Mine

end PartR1
section PartR2
open PySem PySem.W PyProof.Rows
namespace Mine
open Sre Builtin Builtin.Re

theorem step_of_some {m : M} (h : m.outcome.isSome = true) : m.step = m := by
  unfold M.step; rw [if_pos h]
theorem stN_of_some : ∀ (n : Nat) {m : M}, m.outcome.isSome = true → stN n m = m
  | 0, _, _ => rfl
  | n + 1, m, h => by show stN n m.step = m; rw [step_of_some h]; exact stN_of_some n h
theorem runFor_eq : ∀ (n : Nat) (m : M), M.runFor n m = stN n m
  | 0, _ => rfl
  | n + 1, m => by
    show (if m.outcome.isSome then m else M.runFor n m.step) = stN n m.step
    by_cases h : m.outcome.isSome = true
    · rw [if_pos h, step_of_some h, stN_of_some n h]
    · rw [if_neg h]; exact runFor_eq n _

section
variable {c : Cx} {A : Around} {E : Value → Shared → Prop} {s : Shared}
theorem wpAny_reDrive {o : Sre.Outcome} {Q : M → Shared → Prop} (hQ : ∀ m', m'.outcome = some o → Q m' s) : ∀ (t k : Nat) (m : M), k ≤ 4 * (t + 1) → (stN k m).outcome = some o → wpAny (model c.prog c.w) A (reDrive (t + 1) m) Q E s := by
  intro t
  induction t with
  | zero =>
    intro k m hk ho
    have e4 : (stN 4 m).outcome = some o := by
      have : stN 4 m = stN k m := by
        have h : 4 = k + (4 - k) := by omega
        rw [h, stN_add, stN_of_some _ (by rw [ho]; rfl)]
      rw [this, ho]
    unfold reDrive
    simp only [reTurnSteps, runFor_eq]
    rw [if_pos (by rw [e4]; rfl)]
    exact wpAny_pure (hQ _ e4)
  | succ t ih =>
    intro k m hk ho
    unfold reDrive
    simp only [reTurnSteps, runFor_eq]
    by_cases h4 : (stN 4 m).outcome.isSome = true
    · rw [if_pos h4]
      have : (stN 4 m).outcome = some o := by
        by_cases hk4 : k ≤ 4
        · have h : 4 = k + (4 - k) := by omega
          rw [h, stN_add, stN_of_some _ (by rw [ho]; rfl), ho]
        · have h : k = 4 + (k - 4) := by omega
          rw [h, stN_add, stN_of_some _ h4] at ho; exact ho
      exact wpAny_pure (hQ _ this)
    · rw [if_neg h4]
      have hk4 : 4 < k := by
        apply Classical.byContradiction
        intro hn
        apply h4
        have h : 4 = k + (4 - k) := by omega
        rw [h, stN_add, stN_of_some _ (by rw [ho]; rfl), ho]; rfl
      refine wpAny_bind (wpAny_rule (ih (k - 4) _ (by omega) ?_))
      have h : k = 4 + (k - 4) := by omega
      rw [h, stN_add] at ho
      exact ho
theorem wpAny_reRun {B : Nat} {b : Bool} {m : M} {Q : Option M → Shared → Prop} (hE : Ends B m b) (hB : B ≤ 2 ^ 60) (h1 : b = true → ∀ m', Q (some m') s) (h2 : b = false → Q none s) : wpAny (model c.prog c.w) A (reRunToEnd m) Q E s := by
  obtain ⟨k, hk, ho⟩ := hE
  unfold reRunToEnd
  obtain ⟨t, ht⟩ : ∃ t, (2 ^ 64 : Nat) = t + 1 := ⟨2 ^ 64 - 1, by omega⟩
  rw [ht]
  refine wpAny_bind (wpAny_reDrive (o := if b then .matched else .failed) (fun m' hm' => ?_) t k m (by omega) ho)
  refine wpAny_bind (wpAny_forIn_list _ (fun _ _ s' => s' = s) _ ?_ ?_ _ _ rfl)
  · rintro x rest u s' rfl
    by_cases hh : m'.seen.has x = true
    · simp only [hh, if_true]
      exact wpAny_bind (wpAny_rule (wpAny_pure rfl))
    · have hh' : m'.seen.has x = false := by simpa using hh
      simp only [hh', Bool.false_eq_true, if_false]
      exact wpAny_pure rfl
  · rintro u s' rfl
    rw [hm']
    cases b with
    | true => exact wpAny_pure (h1 rfl m')
    | false => exact wpAny_pure (h2 rfl)
end

theorem named_one (v : Value) : reNamed "re.Pattern.search" "search" ["string", "pos", "endpos"] 1 [v] [] = pure [some v, none, none] := by rfl

theorem plainAttrs_pat : PlainAttrs "re.Pattern" :=
  ⟨⟨"object.__getattribute__", by rw [typeLookup_type, builtinLookup_eq_fast]; kernel_rfl, by decide +kernel⟩, by rw [typeLookup_type, builtinLookup_eq_fast]; kernel_rfl⟩
theorem slot_pat_search : Slot "re.Pattern" "search" "re.Pattern.search" :=
  .of (owner := "re.Pattern") (n := "search") (by rw [typeLookup_type, builtinLookup_eq_fast]; kernel_rfl) (by decide +kernel) (by decide +kernel) (by decide +kernel)
    (by first | exact .inl (by decide +kernel) | exact .inr (by decide +kernel)) (by rw [isSubtype_type]; kernel_rfl)
theorem type_pat_search : typeOf (.builtin "re.Pattern.search") = pure (.type "method_descriptor") := by show builtinType _ = _; rw [builtinType_eq_fast]; kernel_rfl
theorem entry_pat_search : entryFor table "re.Pattern.search" = some Builtin.«re.Pattern.search» := entryFor_of_tree (by kernel_rfl)
theorem args_pat_search (a b : Value) : argsOk "re.Pattern.search" ⟨[a, b], []⟩ := by
  unfold argsOk
  rfl

/-- the pattern's two objects -/
structure PatAt (h : Heap) (p pt : Addr) : Prop where
  pat : ∃ a b ta tb d sl, h.get? p = some ⟨.type "re.Pattern", none, .fields #[a, b, .int 0 ta, .none, d, .ref pt, .int 0 tb], sl⟩
  tup : ∃ o vs n, h.get? pt = some o ∧ o.data = .seq vs n ∧ (vs.map reRawOf).map (·.toNat) = C4

theorem wp_search {c : Cx} {A : Around} {E : Value → Shared → Prop} {s : Shared} {p pt : Addr} {x : Str} {t : Tok} {Q : Fin → Shared → Prop} (H : PatAt s.heap p pt) (hx : x.length ≤ 2 ^ 24)
    (h1 : ipv4 x.cps.toList = false → Q (.done (.ret .none)) s)
    (h2 : ipv4 x.cps.toList = true → ∀ h', Kp s.heap h' → (∃ fs, h'.get? (s.heap.objs.size + 1) = some { cls := .type "re.Match", data := .fields fs }) → Q (.done (.ret (.ref (s.heap.objs.size + 1)))) { s with heap := h' }) :
    wpAny (model c.prog c.w) A («re.Pattern.search» ⟨[.ref p, .str x t], []⟩) Q E s := by
  obtain ⟨a, b, ta, tb, d, sl, hp⟩ := H.pat
  obtain ⟨o, vs, n, ho, hd, hc⟩ := H.tup
  unfold «re.Pattern.search»
  refine wpAny_bind ?_
  unfold reTarget
  show wpAny _ A (reNamed _ _ _ _ _ _ >>= _) _ _ _
  rw [named_one]
  refine wpAny_bind (wpAny_pure ?_)
  refine wpAny_bind (wpAny_pure (wpAny_bind (wpAny_pure ?_)))
  refine wpAny_bind (wpAny_fieldsOf hp rfl ?_)
  refine wpAny_bind ?_
  unfold reTextOf
  refine wpAny_bind (wpAny_pure ?_)
  refine wpAny_pure ?_
  show wpAny _ A (reNoCollectionInside _ _ >>= _) _ _ _
  refine wpAny_bind (wpAny_pure ?_)
  refine wpAny_bind ?_
  unfold reRawItems
  refine wpAny_bind ?_
  unfold seqItems?
  refine wpAny_bind (wpAny_load ho ?_)
  rw [hd]
  refine wpAny_pure (wpAny_pure (wpAny_pure ?_))
  have hN : ∀ q : Nat, min q x.cps.size ≤ x.cps.size := fun q => Nat.min_le_right _ _
  have e0 : min ((0 : Int).toNat) x.cps.size = 0 := by simp
  have hx' : x.cps.size ≤ 2 ^ 24 := hx
  have eL : min ((2 ^ 63 - 1 : Int).toNat) x.cps.size = x.cps.size := by omega
  dsimp only [Option.getD]
  rw [hc]
  show wpAny _ A (reAnswer _ (Sre.forSearch C4 x.cps 0 (min ((0 : Int).toNat) x.cps.size) (min ((2 ^ 63 - 1 : Int).toNat) x.cps.size) false)) _ _ _
  rw [e0, eL]
  have hE : Ends ((x.cps.size + 1) * (2 * x.cps.size + 20)) (Sre.forSearch C4 x.cps 0 0 x.cps.size false) (ipv4 x.cps.toList) := by
    by_cases hs : x.cps.size < 2
    · have hv : ipv4 x.cps.toList = false := by
        rcases x with ⟨⟨l⟩⟩
        match l, hs with
        | [], _ => rfl
        | [k], _ => simp [ipv4, isNum]
        | _ :: _ :: _, hs => simp at hs; omega
      rw [hv]
      refine ⟨1, ?_, ?_⟩
      · have : 1 * 20 ≤ (x.cps.size + 1) * (2 * x.cps.size + 20) := Nat.mul_le_mul (by omega) (by omega)
        omega
      · unfold Sre.forSearch
        have : (decide (0 > x.cps.size) || decide (x.cps.size - 0 < (Sre.header C4).1)) = true := by
          show (decide (0 > x.cps.size) || decide (x.cps.size - 0 < 2)) = true
          simp; omega
        dsimp only
        rw [if_pos (by simpa using this)]
        rfl
    · have e : Sre.forSearch C4 x.cps 0 0 x.cps.size false = mk4 x.cps 9 0 0 0 true [ns4 0 true] 1 none (({} : Sre.Seen).add 14) none := by
        unfold Sre.forSearch
        have : ¬ (0 > x.cps.size ∨ x.cps.size - 0 < (Sre.header C4).1) := by
          show ¬ (0 > x.cps.size ∨ x.cps.size - 0 < 2)
          omega
        dsimp only
        rw [if_neg (by simpa using this)]
        rfl
      rw [e]
      have := ends_at (T := x.cps) (by omega) x.cps.size 0 true (({} : Sre.Seen).add 14) (by omega) (by omega)
      simpa using this
  have hB : (x.cps.size + 1) * (2 * x.cps.size + 20) ≤ 2 ^ 60 := by
    have : (x.cps.size + 1) * (2 * x.cps.size + 20) ≤ (2 ^ 24 + 1) * (2 * 2 ^ 24 + 20) := Nat.mul_le_mul (by omega) (by omega)
    omega
  unfold reAnswer
  refine wpAny_bind (wpAny_reRun hE hB (fun hb m' => ?_) fun hb => wpAny_pure (h1 hb))
  refine wpAny_bind ?_
  show wpAny _ A (newTuple [rawInt m'.start, rawInt m'.handed] >>= fun tp => newFields "re.Match" [.str x t, .ref p, rawInt _, rawInt _, rawInt m'.lastindex, tp]) _ _ _
  refine wpAny_bind (wpAny_newObj_type (wpAny_newObj_type (wpAny_pure ?_)))
  have e : (s.heap.push { cls := .type "tuple", data := .seq [rawInt m'.start, rawInt m'.handed].toArray }).objs.size = s.heap.objs.size + 1 := Heap.size_push ..
  dsimp only
  rw [e]
  exact h2 hb _ ((Kp.push _).trans (Kp.push _)) ⟨_, by rw [← e]; exact Heap.get?_push_size _ rfl⟩

theorem no_bool_match : typeLookup (.type "re.Match") "__bool__" = pure none := by rw [typeLookup_type, builtinLookup_eq_fast]; kernel_rfl
theorem no_len_match : typeLookup (.type "re.Match") "__len__" = pure none := by rw [typeLookup_type, builtinLookup_eq_fast]; kernel_rfl
theorem truthy_match {M : Model} {A : Around} {E : Value → Shared → Prop} {s : Shared} {a : Addr} {fs} {Q : Bool → Shared → Prop} (ho : s.heap.get? a = some { cls := .type "re.Match", data := .fields fs }) (h : Q true s) : wpAny M A (truthy (.ref a)) Q E s := by
  have hT : s.TypeIs (.ref a) "re.Match" := ⟨_, ho, rfl⟩
  unfold truthy
  refine wpAny_bind (wpAny_callSpecial?_none hT no_bool_match ?_)
  refine wpAny_bind (wpAny_specialOf hT no_len_match ?_)
  exact wpAny_pure h

theorem PatAt.keeps {h h' : Heap} {p pt} (k : Kp h h') (H : PatAt h p pt) : PatAt h' p pt := by
  obtain ⟨⟨a, b, ta, tb, d, sl, hp⟩, ⟨o, vs, n, ho, r⟩⟩ := H
  exact ⟨⟨a, b, ta, tb, d, sl, k _ _ hp⟩, ⟨o, vs, n, k _ _ ho, r⟩⟩

section
variable {c : Cx} {A : Around} {env : Env} {ρ : Rho} {σ : Sig}
theorem Tst.search {x np apos e pos y p pt} (hx : env.kindOf x = some .globalImplicit) (hd : (x == ("__debug__" : Str)) = false) (hg : nsIn c.K mainGlobals x = some (some (.ref p))) (H : ∀ h, c.K.In h → PatAt h p pt)
    (h : Ev c A env ρ σ e (.str y)) (hy : y.length ≤ 2 ^ 24) (hs : starEach [e] env = [(false, eval e env)]) (hline : (apos.endLine == pos.line) = true) :
    Tst c A env ρ σ (.Call (.Attribute (.Name x np) "search" apos) [e] [] pos) (ipv4 y.cps.toList) := fun μ s ok Q E hQ => by
  refine isTrue_plain ?_ rfl
  refine Call_method1 rfl hs hline (ld_global ok hx hd hg ?_)
  have H1 := H _ ok.gk.inK
  obtain ⟨a, b, ta, tb, d, sl, hp⟩ := id H1.pat
  refine ⟨"re.Pattern", _, plainAttrs_pat, slot_pat_search, type_pat_search, ⟨_, hp, rfl⟩, (fun q e => by cases e; exact ⟨_, hp, rfl⟩),
    method1_meets slot_pat_search entry_pat_search (h μ s ok _ _ fun v g tk k r => ?_)⟩
  obtain ⟨u, rfl⟩ := r.str_inv
  have H2 := H1.keeps k
  obtain ⟨a, b, ta, tb, d, sl, hp⟩ := id H2.pat
  refine ⟨⟨_, hp, rfl⟩, args_pat_search _ _, fun A' R s' => s' = { s with heap := g, toks := tk } ∧ (ipv4 y.cps.toList = false → R (.ok (.ret .none)) s') ∧
    (ipv4 y.cps.toList = true → ∀ h', Kp s'.heap h' → (∃ fs, h'.get? (s'.heap.objs.size + 1) = some { cls := .type "re.Match", data := .fields fs }) → R (.ok (.ret (.ref (s'.heap.objs.size + 1)))) { s' with heap := h' }), ?_, rfl, ?_, ?_⟩
  · intro prog w A' R s' hS
    obtain ⟨rfl, q1, q2⟩ := hS
    exact wp_search (c := { c with prog := prog, w := w }) H2 hy q1 q2
  · intro hb
    show wpAny _ _ (truthy .none) _ _ _
    exact truthy_none (hb ▸ hQ g tk k)
  · rintro hb h' k' ⟨fs, hf⟩
    exact truthy_match hf (hb ▸ hQ h' tk (k.trans k'))
end

theorem law_good {l : OpenLaw} {cl mean args s₁ h' tk} (k : Kp s₁.heap h') (hg : s₁.gens = #[]) : GoodW l.row.claim cl mean args s₁ (.ok (.ret (.bool true))) { s₁ with heap := h', toks := tk } :=
  ⟨.inl ⟨.bool true, .bool true, [], rfl, fun _ => rfl, .bool true, postW_of (r := l.row.toRowW) rfl (w_eq_bool (w_res rfl) w_lit) rfl, fun _ => ⟨List.nodup_nil, fun _ h => nomatch h⟩⟩, k, rfl, hg⟩

theorem gk_of {prog w K p loose mean mg mb h} (X : Frag.In K h) (T : Top p loose mean mg mb h) : GK ⟨prog, w, K, mg, mb⟩ h := ⟨X, T.g, T.b, T.nolimit, T.builtins⟩
end Mine

end PartR2
section PartB11
open PySem PySem.W PyProof.Rows
namespace Mine

theorem RdAll.keepBut {μ : List Addr} {h h' : Heap} {C : Addr} {vs ds} (r : RdAll μ h vs ds) (hC : C ∈ μ) (hs : Heap.SameBut C h h') : RdAll μ h' vs ds :=
  r.to fun b o hb e => ⟨hb, hs.extBut b o (fun q => hb (q ▸ hC)) e⟩
theorem Rd.keepBut {μ : List Addr} {h h' : Heap} {C : Addr} {vs ds} (r : Rd μ h vs ds) (hC : C ∈ μ) (hs : Heap.SameBut C h h') : Rd μ h' vs ds :=
  r.to fun b o hb e => ⟨hb, hs.extBut b o (fun q => hb (q ▸ hC)) e⟩

/-- the tests of a comprehension -/
def TstAll (c : Cx) (A : Around) (env : Env) (ρ : Rho) (ifs : List Expr) (b : Bool) : Prop :=
  ∀ μ s, EnvOK c env μ ρ [] s.heap → Yb c A (forIn ifs true fun c r => if r = true then do let ok ← PySem.isTrue c env (eval c env); pure (ForInStep.yield ok) else pure (ForInStep.yield r)) b s
section
variable {c : Cx} {A : Around} {env : Env} {ρ : Rho} {σ : Sig} {P : Fl → Rho → Sig → Prop}
theorem TstAll.nil : TstAll c A env ρ [] true := fun μ s ok Q E hQ => by rw [List.forIn_nil]; exact wpAny_pure (hQ s.heap s.toks Kp.rfl)
theorem TstAll.one {t b} (h : Tst c A env ρ [] t b) : TstAll c A env ρ [t] b := fun μ s ok Q E hQ => by
  rw [List.forIn_cons]
  simp only [if_true]
  refine wpAny_bind (wpAny_bind (h μ s ok _ _ fun g tk k => wpAny_pure ?_))
  simp only [List.forIn_nil]
  exact wpAny_pure (hQ g tk k)

/-- a name that a comprehension takes from around it -/
def FreeOK (env cenv : Env) (ρ ρf : Rho) (x : Str) : Prop := ∀ y d, ρf.lookup y = some d → ρ.lookup y = some d ∧ y ≠ x ∧ env.kindOf y = some .cell ∧ cenv.kindOf y = some .cell ∧ (∃ a, env.cells.lookup y = some a ∧ cenv.cells.lookup y = some a)

theorem FreeOK.nil {env cenv ρ x} : FreeOK env cenv ρ [] x := fun y d e => by cases e
theorem FreeOK.cons {env cenv ρ ρf x y d} (h : FreeOK env cenv ρ ρf x) (h1 : ρ.lookup y = some d) (h2 : (y == x) = false) (h3 : env.kindOf y = some .cell) (h4 : cenv.kindOf y = some .cell) (h5 : ∃ a, env.cells.lookup y = some a ∧ cenv.cells.lookup y = some a) :
    FreeOK env cenv ρ ((y, d) :: ρf) x := fun z d' e => by
  rw [List.lookup_cons] at e
  by_cases hz : (z == y) = true
  · simp only [hz] at e; cases e
    have := beq_iff_eq.mp hz; subst this
    exact ⟨h1, by simpa using h2, h3, h4, h5⟩
  · have hz' : (z == y) = false := by simpa using hz
    simp only [hz'] at e
    exact h z d' e

theorem comp_core {elt iter : Expr} {x : Str} {px : Pos} {ifs : List Expr} {scope : Scope} {cl : List (Str × Addr)} {pos fp' : Pos} {ds : List PyData} {use : Option (Value → Sem Unit)} {ρf : Rho} {μ : List Addr} {s : Shared}
    (p : PyData → Bool) (f : PyData → PyData)
    (hi : EvI c A env ρ σ iter ds) (hs : ∀ x, foldedSetIterable iter env x = pure x) (hclos : closureFor scope env = pure cl) (hcell : ∀ y ∈ scope.names, y.2 ≠ .cell) (hkind : scope.kind = .function)
    (hnames : ∀ y ∈ scope.names, y.2 = .local → scope.names.lookup y.1 = some .local) (hx : scope.names.lookup x = some .local)
    (hfree : ∀ C, FreeOK env (compEnvC scope cl C env) ρ ρf x)
    (ht : ∀ d, d ∈ ds → ∀ C, TstAll c A (compEnvC scope cl C env) ((x, d) :: ρf) ifs (p d))
    (he : ∀ d, d ∈ ds → p d = true → ∀ C, Ev c A (compEnvC scope cl C env) ((x, d) :: ρf) [] elt (f d)) (hz : ds.length ≤ sizeLine)
    (ok : EnvOK c env μ ρ σ s.heap) {Q : Value → Shared → Prop} {E : Value → Shared → Prop}
    (hQ : ∀ D C h' tk m' ys, s.heap.get? D = none → s.heap.get? C = none → D ≠ C → D ∉ μ → h'.Ns C m' → h'.PlainList D ys → RdAll (C :: D :: μ) h' ys.toList ((ds.filter p).map f) → Kp s.heap h' →
      compPost (model c.prog c.w) A E use Q (.ref D) C (.ok .next) { s with heap := h', toks := tk }) :
    wpAny (model c.prog c.w) A (comprehension (.ListComp elt [⟨.Name x px, iter, ifs, 0⟩] scope pos) scope env fp' (newList []) false (eval iter env) use) Q E s := by
  refine wpAny_comprehension_free rfl hs hclos hkind hnames (hi μ s ok _ _ fun It fp wr Pw W h2 tk2 w0 w1 wl woff wfp lfp hP k2 => ?_)
  refine wpAny_newObj_type (wpAny_newFunctionEnv hcell (by intro y hy; simp at hy) (fun h₁ hns₁ hsb₁ => ?_) hkind)
  dsimp only at hns₁ hsb₁ ⊢
  generalize hH2 : h2.push { cls := .type "list", dict := none, data := .seq ([] : List Value).toArray } = H2 at hns₁ hsb₁ ⊢
  have hC : H2.objs.size = h2.objs.size + 1 := by rw [← hH2, Heap.size_push]
  -- the two new places
  generalize hD' : h2.objs.size = D at hC
  generalize hC' : H2.objs.size = C at hC hns₁ hsb₁
  have dD : s.heap.get? D = none := none_back k2 (by rw [← hD']; exact none_size h2)
  have dC : s.heap.get? C = none := none_back k2 (none_of_size (by rw [hC, hD']; exact Nat.le_succ _))
  have hDC : D ≠ C := by rw [hC]; exact Nat.ne_of_lt (Nat.lt_succ_self _)
  have apart : ∀ b o, h2.get? b = some o → b ≠ D ∧ b ≠ C := fun b o e => by
    have hlt : b < D := by rw [← hD']; exact Heap.lt_size e
    exact ⟨Nat.ne_of_lt hlt, by rw [hC]; exact Nat.ne_of_lt (Nat.lt_succ_of_lt hlt)⟩
  have lv := ok.live
  have hDμ : D ∉ μ := by rw [← hD']; exact (lv.keeps k2).fresh
  have hCμ : C ∉ μ := fun q => by obtain ⟨o, e⟩ := lv C q; rw [dC] at e; cases e
  have old : ∀ b o, h2.get? b = some o → h₁.get? b = some o := fun b o e => by
    refine hsb₁.extBut b o (apart b o e).2 (Heap.get?_push_of_some _ ?_)
    rw [← hH2]; exact Heap.get?_push_of_some _ e
  have hacc : h₁.PlainList D #[] := ⟨0, hsb₁.extBut _ _ hDC (Heap.get?_push_of_some _ (by rw [← hH2, ← hD']; exact Heap.get?_push_size _ rfl))⟩
  have hfp : ∀ b ∈ fp, b ≠ D ∧ b ≠ C := fun b hb => by
    obtain ⟨o, e⟩ := lfp b hb
    exact apart b o e
  have hst₁ : W 0 h₁ := w0.frame _ _ _ w1 fun b _ o e => old b o e
  let cenv := compEnvC scope cl C env
  let μ' := C :: D :: (wr ++ μ)
  have loop : codeAny (model c.prog c.w) A (.compLoop (.ListComp elt [⟨.Name x px, iter, ifs, 0⟩] scope pos) 0 (.ref It) (.ref D) cenv) (compPost (model c.prog c.w) A E use Q (.ref D) C) { s with heap := h₁, toks := tk2 + ([] : List (Str × Value)).length } := by
    refine codeAny_compLoop_tests
      (fun n s' => ∃ i H tk m' ys, s' = { s with heap := H, toks := tk } ∧ n = ds.length + 1 - i ∧ i ≤ ds.length ∧ W i H ∧ H.PlainList D ys ∧ H.Ns C m' ∧ RdAll μ' H ys.toList (((ds.take i).filter p).map f) ∧
        (∀ b o, b ≠ C → b ∉ wr → b ≠ D → h₁.get? b = some o → H.get? b = some o)) ?_ (ds.length + 1)
      ⟨0, h₁, _, _, #[], rfl, rfl, Nat.zero_le _, hst₁, hacc, hns₁, by simpa using RdAll.nil, fun _ _ _ _ _ e => e⟩ (by intro v; rfl)
    rintro n s' ⟨i, H, tk, m', ys, rfl, rfl, hle, hW, hl, hn, hr, hk⟩
    have nwC : C ∉ wr := fun q => (hfp C (w0.sub C q)).2 rfl
    have nwD : D ∉ wr := fun q => (hfp D (w0.sub D q)).1 rfl
    have kS : ∀ {H' : Heap}, (∀ b o, b ≠ C → b ∉ wr → b ≠ D → h₁.get? b = some o → H'.get? b = some o) → Kp s.heap H' := fun hk' b o e =>
      hk' b o (fun q => by rw [q, dC] at e; cases e) (fun q => by rw [woff b q] at e; cases e) (fun q => by rw [q, dD] at e; cases e) (old b o (k2 b o e))
    by_cases hlt : i < ds.length
    · refine w0.item i _ _ _ hlt hW fun v h3 tk3 hv hW3 hk3 => ?_
      obtain ⟨d, hd, rv⟩ := hP i v hv
      have hmem : d ∈ ds := List.mem_of_getElem? hd
      have hkx : cenv.kindOf x = some .local := lookup_relabel_local hx
      refine wpAny_assign_Name (wpAny_storeName_local hkx (hn.at' fun o e => hk3 _ o nwC e) (fun h4 hn4 hs4 => ?_) (by show (scope.kind == .class || (scope.kind == .module && _)) = false; rw [hkind]; rfl))
      have up4 : ∀ b o, b ≠ C → b ∉ wr → b ≠ D → h₁.get? b = some o → h4.get? b = some o := fun b o b1 b2 b3 e => hs4.extBut b o b1 (hk3 b o b2 (hk b o b1 b2 b3 e))
      have hl4 : h4.PlainList D ys := by obtain ⟨n, e⟩ := hl; exact ⟨n, hs4.extBut _ _ hDC (hk3 _ _ nwD e)⟩
      have hW4 : W (i + 1) h4 := w0.frame _ _ _ hW3 fun b hb o e => hs4.extBut b o (hfp b hb).2 e
      have hr4 : RdAll μ' h4 ys.toList (((ds.take i).filter p).map f) := (hr.to (μ' := μ') (h' := h3) fun b o hb e => ⟨hb, hk3 b o (fun q => hb (by simp [μ', q])) e⟩).keepBut (C := C) List.mem_cons_self hs4
      have rv4 : Rd μ' h4 v d := rv.to fun b o hb e => by
        have hbw : b ∉ wr := fun q => hb (List.mem_append_left _ q)
        have b1 : b ≠ C := (apart b o e).2
        have b2 : b ≠ D := (apart b o e).1
        refine ⟨fun q => ?_, up4 b o b1 hbw b2 (old b o e)⟩
        simp only [μ', List.mem_cons] at q
        rcases q with q | q | q
        · exact b1 q
        · exact b2 q
        · exact hb q
      have k4 : Kp s.heap h4 := kS up4
      have ok4 : EnvOK c cenv μ' ((x, d) :: ρf) [] h4 := by
        refine ⟨ok.gk.keeps k4, hkind, ok.gl, ok.bl, fun y d' e => ?_, (fun y ds' e => by cases e), fun a ha => ?_⟩
        · rw [List.lookup_cons] at e
          by_cases hy : (y == x) = true
          · simp only [hy] at e; cases e
            have := beq_iff_eq.mp hy; subst this
            exact ⟨v, .loc hkx hn4 (by simp), rv4⟩
          · have hy' : (y == x) = false := by simpa using hy
            simp only [hy'] at e
            obtain ⟨e1, _, e3, e4, a, e5, e6⟩ := hfree C y d' e
            obtain ⟨w', V, r⟩ := ok.vars y d' e1
            cases V with
            | loc q _ _ => rw [e3] at q; cases q
            | free q _ _ _ => rw [e3] at q; cases q
            | cell q q2 q3 =>
              rw [e5] at q2; cases q2
              refine ⟨w', .cell e4 e6 (q3.keeps k4), r.to fun b o hb e => ⟨fun q => ?_, k4 _ _ e⟩⟩
              simp only [μ', List.mem_cons, List.mem_append] at q
              rcases q with q | q | q | q
              · rw [q, dC] at e; cases e
              · rw [q, dD] at e; cases e
              · rw [woff b q] at e; cases e
              · exact hb q
        · simp only [μ', List.mem_cons, List.mem_append] at ha
          rcases ha with rfl | rfl | q | q
          · obtain ⟨o, _, _, ho, _⟩ := hn4; exact ⟨o, ho⟩
          · obtain ⟨n, e⟩ := hl4; exact ⟨_, e⟩
          · exact wl _ _ hW4 a q
          · obtain ⟨o, e⟩ := lv a q; exact ⟨o, k4 _ _ e⟩
      refine ht d hmem C μ' _ ok4 _ _ fun h5 tk5 k5 => ?_
      have htake : (ds.take (i + 1)) = ds.take i ++ [d] := by
        rw [List.take_succ, hd]; rfl
      cases hp : p d with
      | false =>
        simp only [Bool.false_eq_true, if_false]
        refine ⟨ds.length + 1 - (i + 1), by omega, i + 1, h5, tk5, _, ys, rfl, rfl, hlt, w0.frame _ _ _ hW4 fun b _ o e => k5 b o e, (let ⟨n, e⟩ := hl4; ⟨n, k5 _ _ e⟩), hn4.keeps k5, ?_, fun b o b1 b2 b3 e => k5 b o (up4 b o b1 b2 b3 e)⟩
        rw [htake, List.filter_append]
        simpa [hp] using hr4.keeps k5
      | true =>
        simp only [if_true]
        refine he d hmem hp C μ' _ (ok4.keeps k5) _ _ fun y h6 tk6 k6 ry => ?_
        have hys : ys.size ≤ sizeLine := by
          have e1 : ys.size = (((ds.take i).filter p).map f).length := by simpa using hr.length
          have e2 : ((ds.take i).filter p).length ≤ (ds.take i).length := List.length_filter_le _ _
          have e3 : (ds.take i).length ≤ ds.length := by simp; omega
          rw [List.length_map] at e1
          omega
        have hl6 : h6.PlainList D ys := by obtain ⟨n, e⟩ := hl4; exact ⟨n, k6 _ _ (k5 _ _ e)⟩
        refine wpAny_list_append_plain (hsz := hys) hl6 fun h7 hl7 hs7 => ?_
        refine ⟨ds.length + 1 - (i + 1), by omega, i + 1, h7, tk6, _, ys.push y, rfl, rfl, hlt, ?_, hl7, ((hn4.keeps k5).keeps k6).sameBut hs7 (Ne.symm hDC), ?_, fun b o b1 b2 b3 e => hs7.extBut b o b3 (k6 b o (k5 b o (up4 b o b1 b2 b3 e)))⟩
        · exact w0.frame _ _ _ hW4 fun b hb o e => hs7.extBut b o (hfp b hb).1 (k6 b o (k5 b o e))
        · rw [htake, List.filter_append]
          have := (((hr4.keeps k5).keeps k6).append (.cons ry .nil)).keepBut (C := D) (h' := h7) (by simp [μ']) hs7
          simpa [hp] using this
    · have hin : i = ds.length := by omega
      subst hin
      refine w0.done _ _ _ hW fun h3 tk3 hk3 => ?_
      have hfin := hQ D C h3 tk3 m' ys dD dC hDC hDμ (hn.at' fun o e => hk3 _ o nwC e) (let ⟨n, e⟩ := hl; ⟨n, hk3 _ _ nwD e⟩) ?_ (kS fun b o b1 b2 b3 e => hk3 b o b2 (hk b o b1 b2 b3 e))
      · exact hfin
      · have := hr.to (μ' := C :: D :: μ) (h' := h3) fun b o hb e => ⟨fun q => hb (by
          simp only [μ', List.mem_cons, List.mem_append] at q ⊢
          rcases q with q | q | q
          · exact .inl q
          · exact .inr (.inl q)
          · exact .inr (.inr (.inr q))), hk3 b o (fun q => hb (by simp [μ', q])) e⟩
        simpa using this
  have hself : ∀ {Q' : Value → Shared → Prop} {E'}, Q' (.ref It) { s with heap := h₁, toks := tk2 + ([] : List (Str × Value)).length } → wpAny (model c.prog c.w) A (pyIter (.ref It)) Q' E' { s with heap := h₁, toks := tk2 + ([] : List (Str × Value)).length } := fun q => w0.self 0 _ _ _ hst₁ q
  have := codeAny_compStart_list loop (hself loop)
  subst hC' hD'
  exact this

theorem Ev.comp {elt iter : Expr} {x : Str} {px : Pos} {ifs : List Expr} {scope : Scope} {cl : List (Str × Addr)} {pos : Pos} {ds : List PyData} (ρf : Rho)
    (p : PyData → Bool) (f : PyData → PyData)
    (hi : EvI c A env ρ σ iter ds) (hs : ∀ x, foldedSetIterable iter env x = pure x) (hclos : closureFor scope env = pure cl) (hcell : ∀ y ∈ scope.names, y.2 ≠ .cell) (hkind : scope.kind = .function)
    (hnames : ∀ y ∈ scope.names, y.2 = .local → scope.names.lookup y.1 = some .local) (hx : scope.names.lookup x = some .local)
    (hfree : ∀ C, FreeOK env (compEnvC scope cl C env) ρ ρf x)
    (ht : ∀ d, d ∈ ds → ∀ C, TstAll c A (compEnvC scope cl C env) ((x, d) :: ρf) ifs (p d))
    (he : ∀ d, d ∈ ds → p d = true → ∀ C, Ev c A (compEnvC scope cl C env) ((x, d) :: ρf) [] elt (f d)) (hz : ds.length ≤ sizeLine) :
    Ev c A env ρ σ (.ListComp elt [⟨.Name x px, iter, ifs, 0⟩] scope pos) (.list ((ds.filter p).map f)) := fun μ s ok Q E hQ => by
  rw [eval_ListComp]
  refine comp_core (use := none) p f hi hs hclos hcell hkind hnames hx hfree ht he hz ok fun D C h' tk m' ys dD dC hDC hDμ hn hl hr k => ⟨m', hn, fun h'' hs'' => ?_⟩
  obtain ⟨n, el⟩ := hl
  refine hQ _ h'' tk (fun b o e => hs''.extBut b o (fun q => by rw [q, dC] at e; cases e) (k b o e)) (LsAt.rd' ⟨D, ys, rfl, ⟨_, hs''.extBut _ _ hDC el, rfl, n, rfl⟩, ?_⟩ (fun a e => by cases e; exact hDμ))
  exact (hr.keepBut (by simp) hs'').to fun b o hb e => ⟨fun q => hb (by simp [q]), e⟩

theorem StP.hideNew {s₀ μ₀ m cm ν s} {wr : List Addr} {h' : Heap} {tk : Nat} (S : StP c s₀ env μ₀ ρ σ m cm ν s) (k : Kp s.heap h') (woff : ∀ a ∈ wr, s.heap.get? a = none) (lw : Live wr h') :
    StP c { s₀ with heap := hideAll h' (hid env ν []) } env (wr ++ μ₀) ρ σ m cm ν { s with heap := h', toks := tk } ∧ Kp s₀.heap (hideAll h' (hid env ν [])) := by
  have lvh := S.live
  have wrh : ∀ a ∈ wr, a ∉ hid env ν [] := fun a ha q => by
    have : a ∈ hid env ν μ₀ := by
      rcases mem_hid.mp q with q | q | q | q
      · exact mem_hid.mpr (.inl q)
      · exact mem_hid.mpr (.inr (.inl q))
      · exact mem_hid.mpr (.inr (.inr (.inl q)))
      · cases q
    obtain ⟨o, e⟩ := lvh a this
    rw [woff a ha] at e; cases e
  have S1 := S.grow (tk := tk) k
  have kb0 := kp_base S1
  have fresh : ∀ a o, a ∉ hid env ν μ₀ → s.heap.get? a = some o → a ∉ hid env ν (wr ++ μ₀) ∧ h'.get? a = some o := fun a o ha e => ⟨fun q => by
    rcases mem_hid.mp q with q | q | q | q
    · exact ha (mem_hid.mpr (.inl q))
    · exact ha (mem_hid.mpr (.inr (.inl q)))
    · exact ha (mem_hid.mpr (.inr (.inr (.inl q))))
    · rcases List.mem_append.mp q with q | q
      · exact ne_of_none (woff a q) e rfl
      · exact ha (mem_hid.mpr (.inr (.inr (.inr q)))), k _ _ e⟩
  have R1 := S1.rebase
  refine ⟨⟨⟨?_, R1.ic.ns, R1.ic.keep, R1.ic.cell, R1.ic.apart, R1.ic.offL, R1.ic.offC⟩, R1.gk, R1.fn, R1.gl, R1.bl, R1.cn, fun x d e => ?_, fun x d e => ?_, R1.nd, R1.new, fun a ha => ?_, R1.lv⟩, kb0⟩
  · obtain ⟨h, t, e⟩ := S.ic.same; exact ⟨h', tk, by rw [e]⟩
  · obtain ⟨v, V, r⟩ := S.vars x d e; exact ⟨v, V, r.to fresh⟩
  · obtain ⟨a, vs, h1, h2, ⟨n, h3⟩, h4⟩ := S.muts x d e
    exact ⟨a, vs, h1, h2, ⟨n, k _ _ h3⟩, h4.to fresh⟩
  · rcases List.mem_append.mp ha with q | q
    · obtain ⟨o, e⟩ := lw a q; exact ⟨o, hideAll_get _ e (wrh a q)⟩
    · obtain ⟨o, e⟩ := S.out a q; exact ⟨o, kb0 _ _ e⟩

theorem StP.leave {s₀ : Shared} {b : Heap} {μ₀ wr m cm ν s} {h₁ : Heap} {tk : Nat} (S' : StP c { s₀ with heap := b } env (wr ++ μ₀) ρ σ m cm ν s)
    (gk : GK c s₀.heap) (kb : Kp s₀.heap b) (out : Live μ₀ s₀.heap) (off0 : ∀ a ∈ wr, s₀.heap.get? a = none)
    (hk₁ : ∀ a o, a ∉ wr → s.heap.get? a = some o → h₁.get? a = some o) : StP c s₀ env μ₀ ρ σ m cm ν { s with heap := h₁, toks := tk } := by
  have lwb : Live wr b := fun a ha => S'.out a (List.mem_append_left _ ha)
  have nw : ∀ a, a ∈ hid env ν [] → a ∉ wr := fun a q hw => by
    obtain ⟨o, e⟩ := lwb a hw
    rcases mem_hid.mp q with q | q | q | q
    · exact ne_of_none S'.ic.offL e q
    · obtain ⟨p, hp, rfl⟩ := List.mem_map.mp q; exact ne_of_none (S'.ic.offC p hp) e rfl
    · obtain ⟨p, hp, rfl⟩ := List.mem_map.mp q; exact ne_of_none (S'.new p hp) e rfl
    · cases q
  have keep : ∀ a o, a ∉ hid env ν (wr ++ μ₀) → s.heap.get? a = some o → a ∉ hid env ν μ₀ ∧ h₁.get? a = some o := fun a o ha e =>
    ⟨fun q => ha (by
      rcases mem_hid.mp q with q | q | q | q
      · exact mem_hid.mpr (.inl q)
      · exact mem_hid.mpr (.inr (.inl q))
      · exact mem_hid.mpr (.inr (.inr (.inl q)))
      · exact mem_hid.mpr (.inr (.inr (.inr (List.mem_append_right _ q))))), hk₁ a o (fun q => ha (mem_hid.mpr (.inr (.inr (.inr (List.mem_append_left _ q)))))) e⟩
  have U := S'.unbase (μ₀ := μ₀) kb ⟨_, s₀.toks, rfl⟩ gk out fun a ha => List.mem_append_right _ ha
  refine ⟨⟨?_, ?_, fun a o e => ?_, fun n a e => ?_, U.ic.apart, U.ic.offL, U.ic.offC⟩, U.gk, U.fn, U.gl, U.bl, U.cn, fun x d e => ?_, fun x d e => ?_, U.nd, U.new, U.out, fun p hp => ?_⟩
  · obtain ⟨h, t, e⟩ := U.ic.same; exact ⟨h₁, tk, by rw [e]⟩
  · exact U.ic.ns.at' fun o e => hk₁ _ o (nw _ (mem_hid.mpr (.inl rfl))) e
  · exact hk₁ a o (fun q => ne_of_none (off0 a q) e rfl) (U.ic.keep a o e)
  · obtain ⟨o, ho, hd⟩ := U.ic.cell n a e
    exact ⟨o, hk₁ _ _ (nw _ (mem_hid.mpr (.inr (.inl (List.mem_map.mpr ⟨(n, a), mem_of_lookup e, rfl⟩))))) ho, hd⟩
  · obtain ⟨v, V, r⟩ := S'.vars x d e; exact ⟨v, V, r.to keep⟩
  · obtain ⟨a, vs, h1, h2, ⟨n, h3⟩, h4⟩ := S'.muts x d e
    exact ⟨a, vs, h1, h2, ⟨n, hk₁ _ _ (nw _ (mem_hid.mpr (.inr (.inr (.inl (List.mem_map.mpr ⟨(x, a), lookup_mem h1, rfl⟩)))))) h3⟩, h4.to keep⟩
  · obtain ⟨vs, n, e⟩ := S'.lv p hp
    exact ⟨vs, n, hk₁ _ _ (nw _ (mem_hid.mpr (.inr (.inr (.inl (List.mem_map.mpr ⟨p, hp, rfl⟩)))))) e⟩

/-- a comprehension stored into a plain local name of the same row -/
theorem Ex.assignC {elt iter : Expr} {x y : Str} {px py : Pos} {ifs : List Expr} {scope : Scope} {cl : List (Str × Addr)} {cpos pos : Pos} {ds : List PyData} {rest : List Stmt} (ρf : Rho)
    (p : PyData → Bool) (f : PyData → PyData)
    (hi : EvI c A env ρ σ iter ds) (hs : ∀ x, foldedSetIterable iter env x = pure x) (hclos : closureFor scope env = pure cl) (hcell : ∀ y ∈ scope.names, y.2 ≠ .cell) (hkind : scope.kind = .function)
    (hnames : ∀ y ∈ scope.names, y.2 = .local → scope.names.lookup y.1 = some .local) (hx : scope.names.lookup x = some .local)
    (hfree : ∀ C, FreeOK env (compEnvC scope cl C env) ρ ρf x)
    (ht : ∀ d, d ∈ ds → ∀ C, TstAll c A (compEnvC scope cl C env) ((x, d) :: ρf) ifs (p d))
    (he : ∀ d, d ∈ ds → p d = true → ∀ C, Ev c A (compEnvC scope cl C env) ((x, d) :: ρf) [] elt (f d)) (hz : ds.length ≤ sizeLine)
    (hk : Slotted env y) (hy : σ.lookup y = none) (hsw : swapsWith (.ListComp elt [⟨.Name x px, iter, ifs, 0⟩] scope cpos) (some (.Name y py)) pos.line env = pure true)
    (hn : Ex c A env (upd ρ y (.list ((ds.filter p).map f))) σ rest P) :
    Ex c A env ρ σ (.Assign [.Name y py] (.ListComp elt [⟨.Name x px, iter, ifs, 0⟩] scope cpos) pos :: rest) P := by
  refine Ex.step ?_ hn
  intro s₀ μ₀ s S E
  obtain ⟨m, cm, ν, S⟩ := S
  rw [exec_Assign_Name_used _ _ _ _ hsw]
  refine wpAny_bind (wpAny_standAt (wpAny_bind ?_))
  show wpAny _ A (comprehension _ _ _ _ _ _ _ (some (PySem.assign (.Name y py) env)) >>= fun _ => pure ()) _ _ _
  refine wpAny_bind (comp_core (use := some (PySem.assign (.Name y py) env)) p f hi hs hclos hcell hkind hnames hx hfree ht he hz S.env fun D C h' tk m' ys dD dC hDC hDμ hnC hl hr k => ?_)
  obtain ⟨oC, _, _, hoC, _⟩ := id hnC
  obtain ⟨n, el⟩ := hl
  obtain ⟨S1, kb⟩ := S.hideNew (wr := [C]) (tk := tk) k (fun a ha => by simp at ha; subst ha; exact dC) (fun a ha => by simp at ha; subst ha; exact ⟨_, hoC⟩)
  have hCh : C ∉ hid env ν [] := fun q => by
    have : C ∈ hid env ν μ₀ := by
      rcases mem_hid.mp q with q | q | q | q
      · exact mem_hid.mpr (.inl q)
      · exact mem_hid.mpr (.inr (.inl q))
      · exact mem_hid.mpr (.inr (.inr (.inl q)))
      · cases q
    obtain ⟨o, e⟩ := S.live C this
    rw [dC] at e; cases e
  refine wpAny_assign_Name (S1.store hk hy (d := .list ((ds.filter p).map f)) ?_ fun s' S' => ?_)
  · refine LsAt.rd' ⟨D, ys, rfl, ⟨_, el, rfl, n, rfl⟩, hr.to fun b o hb e => ⟨fun q => hb ?_, e⟩⟩ fun a e q => ?_
    · rcases mem_hid.mp q with q | q | q | q
      · exact List.mem_cons_of_mem _ (List.mem_cons_of_mem _ (mem_hid.mpr (.inl q)))
      · exact List.mem_cons_of_mem _ (List.mem_cons_of_mem _ (mem_hid.mpr (.inr (.inl q))))
      · exact List.mem_cons_of_mem _ (List.mem_cons_of_mem _ (mem_hid.mpr (.inr (.inr (.inl q)))))
      · rcases List.mem_append.mp q with q | q
        · simp at q; rw [q]; exact List.mem_cons_self
        · exact List.mem_cons_of_mem _ (List.mem_cons_of_mem _ (mem_hid.mpr (.inr (.inr (.inr q)))))
    · cases e
      rcases mem_hid.mp q with q | q | q | q
      · exact hDμ (mem_hid.mpr (.inl q))
      · exact hDμ (mem_hid.mpr (.inr (.inl q)))
      · exact hDμ (mem_hid.mpr (.inr (.inr (.inl q))))
      · rcases List.mem_append.mp q with q | q
        · simp at q; exact hDC q
        · exact hDμ (mem_hid.mpr (.inr (.inr (.inr q))))
  · obtain ⟨m2, cm2, ν2, S2⟩ := S'
    refine ⟨m', hnC.at' fun o e => S2.ic.keep C o (hideAll_get _ e hCh), fun h'' hs'' => wpAny_pure (wpAny_pure ⟨_, _, ⟨rfl, rfl, rfl⟩, m2, cm2, ν2, ?_⟩)⟩
    have := S2.leave (wr := [C]) (h₁ := h'') (tk := s'.toks) S.gk kb S.out (fun a ha => by simp at ha; subst ha; exact none_back S.ic.keep dC) fun a o ha e => hs''.extBut a o (fun q => ha (by simp [q])) e
    exact this
end
end Mine

end PartB11
section PartS1
open PySem PySem.W PyProof.Rows
namespace Mine
abbrev mkS (l : List Nat) : Str := ⟨l.toArray⟩
theorem mkS_lst (x : Str) : mkS x.cps.toList = x := by rcases x with ⟨⟨x⟩⟩; rfl
theorem mkS_len (l : List Nat) : (mkS l).length = l.length := by simp [mkS, Str.length]
theorem mkS_inj {a b : List Nat} : (mkS a == mkS b) = (a == b) := by
  have : (mkS a = mkS b) ↔ a = b := ⟨fun e => by injection e with e; simpa using e, fun e => by rw [e]⟩
  by_cases h : a = b
  · subst h; simp
  · have h' : mkS a ≠ mkS b := fun e => h (this.mp e)
    have e1 : (mkS a == mkS b) = false := by simpa using h'
    have e2 : (a == b) = false := by simpa using h
    rw [e1, e2]
theorem mkS_append (a b : List Nat) : mkS a ++ mkS b = mkS (a ++ b) := by
  show Str.mk (a.toArray ++ b.toArray) = _
  simp [mkS]

/-- a bound of a slice within n -/
def clp (v : Option Int) (dflt n : Nat) : Nat := match v with
  | none => dflt
  | some i => (max 0 (min (if i < 0 then i + n else i) n)).toNat
theorem clp_le (v : Option Int) (d n : Nat) (h : d ≤ n) : clp v d n ≤ n := by
  unfold clp; split
  · exact h
  · omega
theorem picks' {α : Type} (l : List α) (a b : Nat) (hb : b ≤ l.length) : ((List.range (b - a)).map (fun k => a + k)).filterMap (l[·]?) = (l.take b).drop a := by
  by_cases hab : a ≤ b
  · rw [StrLaws.picks l (b - a) a (by omega), List.drop_take]
  · have : b - a = 0 := by omega
    rw [this]
    simp
    omega
theorem range_clp (a b : Nat) : sliceRange (a : Int) (b : Int) 1 = (List.range (b - a)).map (fun k => a + k) := by
  unfold sliceRange
  simp only [show (1 : Int) > 0 by omega, if_true]
  by_cases h : a < b
  · have : ((b : Int) - a + 1 - 1) / 1 = ((b - a : Nat) : Int) := by omega
    rw [if_pos (by omega), this]
    simp only [Int.toNat_natCast]
    apply List.map_congr_left
    intro k _
    omega
  · rw [if_neg (by omega)]
    have : b - a = 0 := by omega
    rw [this]; rfl
theorem slice_lst (x : Str) (lo hi : Option Int) : Txt.slice x lo hi = mkS ((x.cps.toList.take (clp hi x.length x.length)).drop (clp lo 0 x.length)) := by
  have hb := clp_le hi x.length x.length (Nat.le_refl _)
  have ha := clp_le lo 0 x.length (Nat.zero_le _)
  have e : Builtin.Str.strSliceIndices lo hi 1 x.length = (List.range (clp hi x.length x.length - clp lo 0 x.length)).map (fun k => clp lo 0 x.length + k) := by
    rw [← range_clp]
    unfold Builtin.Str.strSliceIndices
    simp only [show (1 : Int) > 0 by omega, if_true]
    congr 1
    · unfold clp; cases lo with
      | none => rfl
      | some i => simp only; split <;> omega
    · unfold clp; cases hi with
      | none => rfl
      | some i => simp only; split <;> omega
  unfold Txt.slice
  rw [e]
  split
  · rename_i h
    simp at h
    have h1 : clp lo 0 x.length = 0 ∧ clp hi x.length x.length = x.length ∨ x.length = 0 := by omega
    rcases h1 with ⟨h1, h2⟩ | h1
    · rw [h1, h2]
      have : x.cps.toList.take x.length = x.cps.toList := by apply List.take_of_length_le; simp [Str.length]
      rw [this]; exact (mkS_lst x).symm
    · have : x.cps.toList = [] := by
        apply List.eq_nil_of_length_eq_zero; simpa [Str.length] using h1
      rw [this]; simp
      rcases x with ⟨⟨x⟩⟩
      simp at this; subst this; rfl
  · have := picks' x.cps.toList (clp lo 0 x.length) (clp hi x.length x.length) (by simpa [Str.length] using hb)
    rw [← this]
    simp
theorem pickD_eq (ds : List PyData) (lo hi : Option Int) : pickD ds lo hi none = (ds.take (clp hi ds.length ds.length)).drop (clp lo 0 ds.length) := by
  have hb := clp_le hi ds.length ds.length (Nat.le_refl _)
  unfold pickD
  have e : sliceRange (sliceBounds lo hi none ds.length).1 (sliceBounds lo hi none ds.length).2.1 (sliceBounds lo hi none ds.length).2.2 = (List.range (clp hi ds.length ds.length - clp lo 0 ds.length)).map (fun k => clp lo 0 ds.length + k) := by
    rw [← range_clp]
    unfold sliceBounds
    simp only [Option.getD_none, show (1 : Int) > 0 by omega, if_true]
    congr 1
    · unfold clp; cases lo with
      | none => rfl
      | some i => simp only; split <;> omega
    · unfold clp; cases hi with
      | none => rfl
      | some i => simp only; split <;> omega
  rw [e]
  exact picks' ds _ _ hb

theorem seqIdx_pos {i : Int} {n : Nat} (h0 : 0 ≤ i) (h1 : i < n) : seqIndex? i n = some i.toNat := by
  unfold seqIndex?
  have : ¬ i < 0 := by omega
  simp [this, h0, h1]
theorem seqIdx_neg {i : Int} {n : Nat} (h0 : i < 0) (h1 : -(n : Int) ≤ i) : seqIndex? i n = some (i + n).toNat := by
  unfold seqIndex?
  have a : 0 ≤ i + n := by omega
  have b : i + n < n := by omega
  simp [h0, a, b]
theorem item_lst (x : Str) (i : Int) (k : Nat) (h : pyIdx x.cps.toList i = some k) : Txt.item x i = mkS [k] ∧ (Txt.charAt x i).isSome = true := by
  have e : Txt.charAt x i = some k := by
    unfold Txt.charAt
    unfold pyIdx at h
    have hl : x.cps.toList.length = x.length := by simp [Str.length]
    rw [hl] at h
    by_cases h0 : 0 ≤ i
    · rw [if_pos h0] at h
      have hlt := (List.getElem?_eq_some_iff.mp h).1
      rw [hl] at hlt
      rw [seqIdx_pos h0 (by omega)]
      simpa using h
    · rw [if_neg h0] at h
      split at h
      · rename_i h1
        rw [seqIdx_neg (by omega) h1]
        simpa using h
      · cases h
  refine ⟨?_, by rw [e]; rfl⟩
  unfold Txt.item; rw [e]; rfl

/-- the place of the first k, or -1 -/
theorem find_lst (x : Str) (k : Nat) : Txt.find x (mkS [k]) = (match x.cps.toList.findIdx? (· == k) with | some i => (i : Int) | none => -1) := by
  unfold Txt.find
  have at_iff : ∀ i, StrLaws.At x (mkS [k]) x.length i ↔ x.cps.toList[i]? = some k := fun i => StrLaws.subAt_one x k i
  rcases StrLaws.occ_head x (mkS [k]) 1 (Nat.le_refl _) with ⟨e, h⟩ | ⟨i, r, e, h1, h2⟩
  · rw [e]
    have : x.cps.toList.findIdx? (· == k) = none := by
      rw [List.findIdx?_eq_none_iff]
      intro y hy
      obtain ⟨j, hj⟩ := List.getElem?_of_mem hy
      simp only [beq_eq_false_iff_ne, ne_eq]
      rintro rfl
      exact h j ((at_iff j).mpr hj)
    rw [this]
  · rw [e]
    have hi := (at_iff i).mp h1
    have : x.cps.toList.findIdx? (· == k) = some i := by
      rw [List.findIdx?_eq_some_iff_getElem]
      obtain ⟨hlt, e'⟩ := List.getElem?_eq_some_iff.mp hi
      refine ⟨hlt, by simp [e'], fun j hj => ?_⟩
      have := h2 j hj
      rw [at_iff] at this
      intro q
      apply this
      rw [List.getElem?_eq_getElem (by omega)]
      simpa using q
    rw [this]
theorem contains_lst (x : Str) (k : Nat) : Txt.contains x (mkS [k]) = decide (k ∈ x.cps.toList) := StrLaws.found_one x k

/-- pieces between dots -/
def splitD : List Nat → List (List Nat)
  | [] => [[]]
  | k :: l => if k = 46 then [] :: splitD l else match splitD l with
    | p :: r => (k :: p) :: r
    | [] => [[k]]
def dots : List (List Nat) → List Nat
  | [] => []
  | [p] => p
  | p :: q :: r => p ++ 46 :: dots (q :: r)
theorem splitD_cons (k : Nat) (l : List Nat) : splitD (k :: l) = if k = 46 then [] :: splitD l else match splitD l with | p :: r => (k :: p) :: r | [] => [[k]] := rfl
theorem splitD_ne : ∀ l, splitD l ≠ []
  | [] => by simp [splitD]
  | k :: l => by
    unfold splitD
    split
    · simp
    · split <;> simp
theorem dots_cons (p : List Nat) (ps : List (List Nat)) (h : ps ≠ []) : dots (p :: ps) = p ++ 46 :: dots ps := by
  cases ps with
  | nil => exact absurd rfl h
  | cons q r => rfl
theorem dots_split : ∀ l, dots (splitD l) = l
  | [] => rfl
  | k :: l => by
    have ih := dots_split l
    unfold splitD
    split
    · rename_i h; rw [dots_cons _ _ (splitD_ne l), ih, h]; rfl
    · cases hs : splitD l with
      | nil => exact absurd hs (splitD_ne l)
      | cons p r =>
        rw [hs] at ih
        simp only
        cases r with
        | nil => simp only [dots] at ih ⊢; rw [ih]
        | cons q r => rw [dots_cons _ _ (by simp)] at ih ⊢; rw [List.cons_append, ih]
theorem split_free : ∀ l, ∀ p ∈ splitD l, 46 ∉ p
  | [], p, h => by simp [splitD] at h; subst h; simp
  | k :: l, p, h => by
    have ih := split_free l
    unfold splitD at h
    split at h
    · rcases List.mem_cons.mp h with rfl | h
      · simp
      · exact ih p h
    · rename_i hk
      cases hs : splitD l with
      | nil => exact absurd hs (splitD_ne l)
      | cons q r =>
        rw [hs] at h ih
        simp only at h
        rcases List.mem_cons.mp h with rfl | h
        · simp only [List.mem_cons, not_or]; exact ⟨fun e => hk e.symm, ih q List.mem_cons_self⟩
        · exact ih p (List.mem_cons_of_mem _ h)
theorem split_free_one : ∀ p, 46 ∉ p → splitD p = [p]
  | [], _ => rfl
  | k :: l, h => by
    simp only [List.mem_cons, not_or] at h
    unfold splitD
    rw [if_neg (fun e => h.1 e.symm), split_free_one l h.2]
theorem split_app : ∀ (p l : List Nat), 46 ∉ p → splitD (p ++ 46 :: l) = p :: splitD l
  | [], l, _ => by simp [splitD]
  | k :: p, l, h => by
    simp only [List.mem_cons, not_or] at h
    rw [List.cons_append, splitD_cons, if_neg (fun e => h.1 e.symm), split_app p l h.2]
theorem split_dots : ∀ ps, ps ≠ [] → (∀ p ∈ ps, 46 ∉ p) → splitD (dots ps) = ps
  | [], h, _ => absurd rfl h
  | [p], _, hf => split_free_one p (hf p List.mem_cons_self)
  | p :: q :: r, _, hf => by
    rw [dots_cons _ _ (by simp), split_app p _ (hf p List.mem_cons_self), split_dots (q :: r) (by simp) fun x hx => hf x (List.mem_cons_of_mem _ hx)]

theorem join_lst : ∀ (ps : List (List Nat)), (Str.join (mkS [46]) (ps.map mkS)) = mkS (dots ps)
  | [] => rfl
  | [p] => rfl
  | p :: q :: r => by
    have ih := join_lst (q :: r)
    show mkS p ++ mkS [46] ++ Str.join (mkS [46]) (mkS q :: r.map mkS) = _
    have : mkS q :: r.map mkS = (q :: r).map mkS := rfl
    rw [this, ih, mkS_append, mkS_append, dots_cons p (q :: r) (List.cons_ne_nil _ _)]
    congr 1
    simp
theorem txt_join (ps : List (List Nat)) : Txt.join (mkS [46]) (ps.map mkS) = mkS (dots ps) := by
  show Builtin.Str.glued _ _ = _
  rw [StrLaws.glued_eq_join]; exact join_lst ps
theorem map_mkS (ts : List Str) : (ts.map (·.cps.toList)).map mkS = ts := by
  rw [List.map_map]
  have : (mkS ∘ fun x : Str => x.cps.toList) = id := by funext x; exact mkS_lst x
  rw [this]; simp
theorem count_dots : ∀ (ps : List (List Nat)), ps ≠ [] → (dots ps).count 46 = (ps.map (·.count 46)).sum + (ps.length - 1)
  | [], h => absurd rfl h
  | [p], _ => by simp [dots]
  | p :: q :: r, _ => by
    have ih := count_dots (q :: r) (by simp)
    rw [dots_cons _ _ (by simp), List.count_append, List.count_cons, ih]
    simp
    omega
theorem cnt_eq : ∀ l : List Nat, cnt 46 l = ((l.count 46 : Nat) : Int)
  | [] => rfl
  | k :: l => by
    rw [cnt_cons, cnt_eq l, List.count_cons]
    by_cases h : k = 46
    · subst h; simp; omega
    · have : (k == 46) = false := by simpa using h
      simp [h, this]
theorem le_sum : ∀ {l : List Nat} {n : Nat}, n ∈ l → n ≤ l.sum
  | k :: l, n, h => by
    rcases List.mem_cons.mp h with rfl | h
    · simp
    · have := le_sum h; simp; omega
theorem occ_count (x : Str) : (Builtin.Str.occurrences x (mkS [46]) 0 x.length (x.length + 1)).length = x.cps.toList.count 46 := by
  have h := count_cnt x 46
  rw [cnt_eq] at h
  unfold Txt.count at h
  exact Int.ofNat.inj h
theorem parts_len (x : Str) (cuts : List Nat) (n : Nat) : (Builtin.Str.partsBetween x cuts n).length = cuts.length + 1 := by
  simp [Builtin.Str.partsBetween]
theorem txt_split (x : Str) : Txt.split x (mkS [46]) = (splitD x.cps.toList).map mkS := by
  have hj := StrLaws.join_split x (mkS [46])
  have hlen : (Txt.split x (mkS [46])).length = x.cps.toList.count 46 + 1 := by
    have hk : Builtin.Str.strKind (mkS [46]) = 1 := by decide +kernel
    have hk1 : 1 ≤ Builtin.Str.strKind x := by unfold Builtin.Str.strKind; split <;> (try split) <;> omega
    unfold Txt.split
    have hocc := occ_count x
    split
    · rename_i h
      have : x.length < 1 := by
        rw [hk] at h
        simp only [Bool.or_eq_true, decide_eq_true_eq] at h
        rcases h with h | h
        · exact h
        · omega
      have : x.cps.toList = [] := by apply List.eq_nil_of_length_eq_zero; simp [Str.length] at this ⊢; omega
      rw [this]; rfl
    · split
      · rename_i h
        have : Builtin.Str.occurrences x (mkS [46]) 0 x.length (x.length + 1) = [] := by simpa using h
        rw [this] at hocc
        simp at hocc
        simp [← hocc]
      · rw [parts_len, hocc]
  generalize hps : Txt.split x (mkS [46]) = ts at hj hlen
  have e : ts = (ts.map (·.cps.toList)).map mkS := (map_mkS ts).symm
  generalize hqs : ts.map (·.cps.toList) = qs at e
  have hne : qs ≠ [] := by
    intro h; rw [h] at e; rw [e] at hlen; simp at hlen
  rw [e, join_lst] at hj
  have hx : x.cps.toList = dots qs := by rw [← hj]
  have hq : qs.length = ts.length := by rw [← hqs]; simp
  have hc := count_dots qs hne
  rw [← hx] at hc
  have h0 : (qs.map (·.count 46)).sum = 0 := by omega
  have hfree : ∀ p ∈ qs, 46 ∉ p := by
    intro p hp hm
    have h1 : 0 < p.count 46 := List.count_pos_iff.mpr hm
    have h2 : p.count 46 ≤ (qs.map (·.count 46)).sum := le_sum (List.mem_map.mpr ⟨p, hp, rfl⟩)
    omega
  rw [e, hx, split_dots qs hne hfree]
theorem split_fits (x : Str) (hx : x.length ≤ sizeLine - 1) : (Builtin.Str.partsBetween x (Builtin.Str.occurrences x (mkS [46]) 0 x.length (x.length + 1)) (mkS [46]).length).length ≤ sizeLine := by
  rw [parts_len, occ_count]
  have : x.cps.toList.count 46 ≤ x.length := by
    have := List.count_le_length (a := 46) (l := x.cps.toList)
    simpa [Str.length] using this
  rw [sizeLine_eq] at *
  omega

/-- the number test, over the pieces -/
theorem isNum_free {l : List Nat} (h : isNum l = true) : 46 ∉ l := by
  intro hm
  unfold isNum at h
  simp only [Bool.and_eq_true, Bool.or_eq_true, beq_iff_eq] at h
  rw [← List.takeWhile_append_dropWhile (p := Sre.isDigit) (l := l)] at hm
  rcases List.mem_append.mp hm with hm | hm
  · have := mem_takeWhile_true hm
    revert this; decide
  · rcases h.2 with h | h
    · rw [h] at hm; cases hm
    · rw [h] at hm; revert hm; decide
theorem ipv4_free : ∀ {p : List Nat}, 46 ∉ p → ipv4 p = false
  | [], _ => rfl
  | k :: p, h => by
    simp only [List.mem_cons, not_or] at h
    have : (k == 46) = false := by simp only [beq_eq_false_iff_ne]; exact fun e => h.1 e.symm
    show (k == 46 && _ || ipv4 p) = false
    rw [this, ipv4_free h.2]; rfl
theorem ipv4_app : ∀ {p l : List Nat}, 46 ∉ p → ipv4 (p ++ 46 :: l) = (isNum l || ipv4 l)
  | [], l, _ => by simp [ipv4]
  | k :: p, l, h => by
    simp only [List.mem_cons, not_or] at h
    have : (k == 46) = false := by simp only [beq_eq_false_iff_ne]; exact fun e => h.1 e.symm
    show (k == 46 && _ || ipv4 (p ++ 46 :: l)) = _
    rw [this, ipv4_app h.2]; rfl
theorem ipv4_dots : ∀ (ps : List (List Nat)), (∀ p ∈ ps, 46 ∉ p) → ipv4 (dots ps) = (decide (2 ≤ ps.length) && isNum (ps.getLastD []))
  | [], _ => rfl
  | [p], h => by rw [show dots [p] = p from rfl, ipv4_free (h p List.mem_cons_self)]; rfl
  | p :: q :: r, h => by
    have ih := ipv4_dots (q :: r) fun x hx => h x (List.mem_cons_of_mem _ hx)
    rw [dots_cons _ _ (List.cons_ne_nil _ _), ipv4_app (h p List.mem_cons_self), ih]
    cases r with
    | nil => simp [dots]
    | cons s r =>
      have : isNum (dots (q :: s :: r)) = false := by
        cases hn : isNum (dots (q :: s :: r)) with
        | false => rfl
        | true => exact absurd (by rw [dots_cons _ _ (List.cons_ne_nil _ _)]; simp) (isNum_free hn)
      rw [this]; simp [List.getLastD]

theorem lit_dot : Str.ofString "." = mkS [46] := rfl
theorem find_free {l : List Nat} (h : 46 ∉ l) : Txt.find (mkS l) (mkS [46]) = -1 := by
  rw [find_lst]
  have : (mkS l).cps.toList.findIdx? (· == 46) = none := by
    rw [List.findIdx?_eq_none_iff]
    intro x hx
    simp only [beq_eq_false_iff_ne]
    rintro rfl
    exact h (by simpa using hx)
  rw [this]
theorem findIdx_app : ∀ {p b : List Nat}, 46 ∉ p → (p ++ 46 :: b).findIdx? (· == 46) = some p.length
  | [], b, _ => by simp [List.findIdx?_cons]
  | k :: p, b, h => by
    simp only [List.mem_cons, not_or] at h
    have : (k == 46) = false := by simp only [beq_eq_false_iff_ne]; exact fun e => h.1 e.symm
    rw [List.cons_append, List.findIdx?_cons, this, findIdx_app h.2]
    rfl
theorem find_app {p b : List Nat} (h : 46 ∉ p) : Txt.find (mkS (p ++ 46 :: b)) (mkS [46]) = p.length := by
  rw [find_lst]
  have : (mkS (p ++ 46 :: b)).cps.toList.findIdx? (· == 46) = some p.length := by
    simpa using findIdx_app (b := b) h
  rw [this]
theorem slice_from (l : List Nat) (i : Nat) : Txt.slice (mkS l) (some (i : Int)) none = mkS (l.drop i) := by
  rw [slice_lst]
  have hn : (mkS l).length = l.length := mkS_len l
  have e : clp (some (i : Int)) 0 (mkS l).length = min i l.length := by
    unfold clp; rw [hn]; simp only; rw [if_neg (by omega)]; omega
  have e2 : clp none (mkS l).length (mkS l).length = l.length := by unfold clp; exact hn
  rw [e, e2]
  show mkS ((List.take l.length l).drop _) = _
  congr 1
  rw [List.take_length]
  by_cases h : i ≤ l.length
  · rw [Nat.min_eq_left h]
  · rw [Nat.min_eq_right (by omega), List.drop_eq_nil_of_le (Nat.le_refl _), List.drop_eq_nil_of_le (by omega)]
theorem slice_to (l : List Nat) (i : Nat) : Txt.slice (mkS l) none (some (i : Int)) = mkS (l.take i) := by
  rw [slice_lst]
  have hn : (mkS l).length = l.length := mkS_len l
  have e : clp (some (i : Int)) (mkS l).length (mkS l).length = min i l.length := by
    unfold clp; rw [hn]; simp only; rw [if_neg (by omega)]; omega
  have e2 : clp none 0 (mkS l).length = 0 := rfl
  rw [e, e2]
  congr 2
  show (l.take _).drop 0 = _
  rw [List.drop_zero]
  by_cases h : i ≤ l.length
  · rw [Nat.min_eq_left h]
  · rw [Nat.min_eq_right (by omega), List.take_length, List.take_of_length_le (by omega)]
theorem slice_fromto (l : List Nat) (i j : Nat) : Txt.slice (mkS l) (some (i : Int)) (some (j : Int)) = mkS ((l.take j).drop i) := by
  rw [slice_lst]
  have hn : (mkS l).length = l.length := mkS_len l
  have e : clp (some (i : Int)) 0 (mkS l).length = min i l.length := by
    unfold clp; rw [hn]; simp only; rw [if_neg (by omega)]; omega
  have e2 : clp (some (j : Int)) (mkS l).length (mkS l).length = min j l.length := by
    unfold clp; rw [hn]; simp only; rw [if_neg (by omega)]; omega
  rw [e, e2]
  show mkS ((l.take _).drop _) = mkS _
  have t : l.take (min j l.length) = l.take j := by
    by_cases h : j ≤ l.length
    · rw [Nat.min_eq_left h]
    · rw [Nat.min_eq_right (by omega), List.take_length, List.take_of_length_le (by omega)]
  rw [t]
  by_cases h : i ≤ l.length
  · rw [Nat.min_eq_left h]
  · rw [Nat.min_eq_right (by omega), List.drop_eq_nil_of_le (by simp <;> omega), List.drop_eq_nil_of_le (by simp; omega)]
/-- all but the last sign, and the last sign -/
theorem slice_init (l : List Nat) : Txt.slice (mkS l) none (some (-1)) = mkS l.dropLast := by
  rw [slice_lst]
  have hn : (mkS l).length = l.length := mkS_len l
  have e : clp (some (-1)) (mkS l).length (mkS l).length = l.length - 1 := by
    unfold clp; rw [hn]; simp only; rw [if_pos (by omega)]; omega
  have e2 : clp none 0 (mkS l).length = 0 := rfl
  rw [e, e2, List.dropLast_eq_take]
  rfl
theorem slice_tail (l : List Nat) : Txt.slice (mkS l) (some (-1)) none = mkS (l.getLast?.toList) := by
  rw [slice_lst]
  have hn : (mkS l).length = l.length := mkS_len l
  have e : clp (some (-1)) 0 (mkS l).length = l.length - 1 := by
    unfold clp; rw [hn]; simp only; rw [if_pos (by omega)]; omega
  have e2 : clp none (mkS l).length (mkS l).length = l.length := by unfold clp; exact hn
  rw [e, e2]
  congr 2
  show (l.take l.length).drop _ = _
  rw [List.take_length]
  cases hl : l.getLast? with
  | none => simp at hl; simp [hl]
  | some k =>
    have hne : l ≠ [] := by intro h; simp [h] at hl
    rw [List.getLast?_eq_some_getLast hne] at hl
    cases hl
    have hlen : 0 < l.length := List.length_pos_iff.mpr hne
    rw [List.drop_eq_getElem_cons (by omega), List.drop_eq_nil_of_le (by omega), List.getLast_eq_getElem]
    rfl
/-- the strings that a host's parts make -/
theorem fits_of {l : List Nat} {n : Nat} (h : l.length ≤ n) (hn : n ≤ 2 ^ 24) : (mkS l).length ≤ sizeLine := by
  rw [mkS_len, sizeLine_eq]; omega
end Mine

end PartS1
section PartB12
open PySem PySem.W PyProof.Rows
namespace Mine
theorem pyIdx_last {α : Type} (l : List α) : pyIdx l (-1) = l.getLast? := by
  unfold pyIdx
  rw [if_neg (by omega)]
  cases l with
  | nil => simp
  | cons k l =>
    rw [if_pos (by simp only [List.length_cons]; omega), List.getLast?_eq_getElem?]
    congr 1
    simp only [List.length_cons]; omega
theorem pyIdx_nat {α : Type} (l : List α) (n : Nat) : pyIdx l (n : Int) = l[n]? := by
  unfold pyIdx; rw [if_pos (by omega)]; simp
theorem pyIdx_zero {α : Type} (l : List α) : pyIdx l 0 = l.head? := by
  unfold pyIdx; rw [if_pos (by omega)]; cases l <;> rfl
theorem fits_small {i : Int} (h : -(2 ^ 62) ≤ i ∧ i < 2 ^ 62) : fitsSsize i = true := by
  unfold fitsSsize; simp; omega
def isHDN (l : List Nat) : Bool := !ipv4 l && !(l == []) && !(l.head? == some 46 || l.getLast? == some 46)
def local5 : List Nat := [108, 111, 99, 97, 108]
/-- what reach gives -/
def reachL (l : List Nat) : List Nat := match splitD l with
  | _ :: q :: r => if isHDN l && (!(r == []) || q == local5) then 46 :: dots (q :: r) else l
  | _ => l
section
variable {c : Cx} {A : Around} {env : Env} {ρ : Rho} {σ : Sig} {P : Fl → Rho → Sig → Prop}
theorem Ev.neg {x pos i} (h : Ev c A env ρ σ x (.int i)) : Ev c A env ρ σ (.UnaryOp .USub x pos) (.int (-i)) := fun μ s ok Q E hQ =>
  UnaryOp_ (h μ s ok _ _ fun v g tk k r => by obtain ⟨t, rfl⟩ := r.int_inv; exact P.neg_int (hQ _ g _ k rd_int))
theorem BltTo.len_list {ds : List PyData} (hz : ds.length ≤ sizeLine) : BltTo c A "len" [.list ds] (.int ds.length) := fun s vals μ gk lv r Q E hQ => by
  obtain ⟨v, vs, rfl, h1, h2⟩ := r.cons_inv
  rw [h2.nil_inv]
  obtain ⟨a, its, rfl, hl, ra⟩ := h1.ls
  have e : its.size = ds.length := by simpa using ra.length
  rw [sizeLine_eq] at hz
  exact Calls.call_len_list hl (by rw [e]; omega) (by rw [e]; exact hQ _ s.heap _ Kp.rfl rd_int)
theorem TruOK.list {ds : List PyData} (hz : ds.length ≤ sizeLine) : TruOK c A (.list ds) (!ds.isEmpty) := fun μ s v r Q E hQ => by
  obtain ⟨a, its, rfl, hl, ra⟩ := r.ls
  have e : its.size = ds.length := by simpa using ra.length
  rw [sizeLine_eq] at hz
  refine wpAny_truthy_list hl (by rw [e]; omega) ?_
  have e2 : its.isEmpty = ds.isEmpty := by
    cases ds with
    | nil => simp at e; simp [Array.isEmpty, e]
    | cons d ds => simp at e; simp [Array.isEmpty, e]
  rw [e2]
  exact hQ s.heap _ Kp.rfl
theorem BltTo.chr {i : Int} (h0 : 0 ≤ i) (h1 : i ≤ 1114111) : BltTo c A "chr" [.int i] (.str (mkS [i.toNat])) := fun s vals μ gk lv r Q E hQ => by
  obtain ⟨v, vs, rfl, h1, h2⟩ := r.cons_inv
  rw [h2.nil_inv]
  obtain ⟨t, rfl⟩ := h1.int_inv
  exact P.chr_of_int (by simp; omega) (hQ _ s.heap _ Kp.rfl rd_str)
end
end Mine

end PartB12
section PartB13
open PySem PySem.W PyProof.Rows
namespace Mine
open Classical in
noncomputable def back {α β : Type} [Inhabited α] (g : α → β) (d : β) : α := if h : ∃ x, g x = d then Classical.choose h else default
theorem back_eq {α β : Type} [Inhabited α] {g : α → β} (hg : ∀ x y, g x = g y → x = y) (x : α) : back g (g x) = x := by
  have h : ∃ y, g y = g x := ⟨x, rfl⟩
  unfold back
  rw [dif_pos h]
  exact hg _ _ (Classical.choose_spec h)
theorem filter_back {α β γ : Type} [Inhabited α] {g : α → β} (hg : ∀ x y, g x = g y → x = y) (p : α → Bool) (f : α → γ) : ∀ xs : List α, ((xs.map g).filter (fun d => p (back g d))).map (fun d => f (back g d)) = (xs.filter p).map f
  | [] => rfl
  | x :: xs => by
    rw [List.map_cons, List.filter_cons, List.filter_cons, back_eq hg]
    split
    · rw [List.map_cons, List.map_cons, back_eq hg, filter_back hg p f xs]
    · exact filter_back hg p f xs
section
variable {c : Cx} {A : Around} {env : Env} {ρ : Rho} {σ : Sig} {P : Fl → Rho → Sig → Prop}
theorem Ev.compT {α : Type} [Inhabited α] {elt iter : Expr} {x : Str} {px : Pos} {ifs : List Expr} {scope : Scope} {cl : List (Str × Addr)} {pos : Pos} {xs : List α} {g : α → PyData} (ρf : Rho)
    (p : α → Bool) (f : α → PyData) (hg : ∀ x y, g x = g y → x = y)
    (hi : EvI c A env ρ σ iter (xs.map g)) (hs : ∀ x, foldedSetIterable iter env x = pure x) (hclos : closureFor scope env = pure cl) (hcell : ∀ y ∈ scope.names, y.2 ≠ .cell) (hkind : scope.kind = .function)
    (hnames : ∀ y ∈ scope.names, y.2 = .local → scope.names.lookup y.1 = some .local) (hx : scope.names.lookup x = some .local)
    (hfree : ∀ C, FreeOK env (compEnvC scope cl C env) ρ ρf x)
    (ht : ∀ a, a ∈ xs → ∀ C, TstAll c A (compEnvC scope cl C env) ((x, g a) :: ρf) ifs (p a))
    (he : ∀ a, a ∈ xs → p a = true → ∀ C, Ev c A (compEnvC scope cl C env) ((x, g a) :: ρf) [] elt (f a)) (hz : xs.length ≤ sizeLine) :
    Ev c A env ρ σ (.ListComp elt [⟨.Name x px, iter, ifs, 0⟩] scope pos) (.list ((xs.filter p).map f)) := by
  rw [← filter_back hg p f xs]
  refine Ev.comp ρf (fun d => p (back g d)) (fun d => f (back g d)) hi hs hclos hcell hkind hnames hx hfree ?_ ?_ (by simpa using hz)
  · intro d hd C
    obtain ⟨a, ha, rfl⟩ := List.mem_map.mp hd
    rw [back_eq hg]; exact ht a ha C
  · intro d hd hp C
    obtain ⟨a, ha, rfl⟩ := List.mem_map.mp hd
    rw [back_eq hg] at hp ⊢; exact he a ha hp C
theorem Ex.assignCT {α : Type} [Inhabited α] {elt iter : Expr} {x y : Str} {px py : Pos} {ifs : List Expr} {scope : Scope} {cl : List (Str × Addr)} {cpos pos : Pos} {xs : List α} {g : α → PyData} {rest : List Stmt} (ρf : Rho)
    (p : α → Bool) (f : α → PyData) (hg : ∀ x y, g x = g y → x = y)
    (hi : EvI c A env ρ σ iter (xs.map g)) (hs : ∀ x, foldedSetIterable iter env x = pure x) (hclos : closureFor scope env = pure cl) (hcell : ∀ y ∈ scope.names, y.2 ≠ .cell) (hkind : scope.kind = .function)
    (hnames : ∀ y ∈ scope.names, y.2 = .local → scope.names.lookup y.1 = some .local) (hx : scope.names.lookup x = some .local)
    (hfree : ∀ C, FreeOK env (compEnvC scope cl C env) ρ ρf x)
    (ht : ∀ a, a ∈ xs → ∀ C, TstAll c A (compEnvC scope cl C env) ((x, g a) :: ρf) ifs (p a))
    (he : ∀ a, a ∈ xs → p a = true → ∀ C, Ev c A (compEnvC scope cl C env) ((x, g a) :: ρf) [] elt (f a)) (hz : xs.length ≤ sizeLine)
    (hk : Slotted env y) (hy : σ.lookup y = none) (hsw : swapsWith (.ListComp elt [⟨.Name x px, iter, ifs, 0⟩] scope cpos) (some (.Name y py)) pos.line env = pure true)
    (hn : Ex c A env (upd ρ y (.list ((xs.filter p).map f))) σ rest P) :
    Ex c A env ρ σ (.Assign [.Name y py] (.ListComp elt [⟨.Name x px, iter, ifs, 0⟩] scope cpos) pos :: rest) P := by
  rw [← filter_back hg p f xs] at hn
  refine Ex.assignC ρf (fun d => p (back g d)) (fun d => f (back g d)) hi hs hclos hcell hkind hnames hx hfree ?_ ?_ (by simpa using hz) hk hy hsw hn
  · intro d hd C
    obtain ⟨a, ha, rfl⟩ := List.mem_map.mp hd
    rw [back_eq hg]; exact ht a ha C
  · intro d hd hp C
    obtain ⟨a, ha, rfl⟩ := List.mem_map.mp hd
    rw [back_eq hg] at hp ⊢; exact he a ha hp C
end
theorem inj_int : ∀ x y : Int, PyData.int x = .int y → x = y := fun x y h => by injection h
theorem inj_str : ∀ x y : List Nat, PyData.str (mkS x) = .str (mkS y) → x = y := fun x y h => by
  injection h with h; injection h with h; simpa using h
theorem inj_sign : ∀ x y : Nat, PyData.str ⟨#[x]⟩ = .str ⟨#[y]⟩ → x = y := fun x y h => by
  injection h with h; injection h with h; simpa using h
theorem inj_range {a : Int} : ∀ x y : Nat, PyData.int (a + (x : Int)) = .int (a + (y : Int)) → x = y := fun x y h => by
  injection h with h; omega
theorem filter_true {α : Type} (l : List α) : l.filter (fun _ => true) = l := by simp

abbrev strD (l : List Nat) : PyData := .str (mkS l)
/-- comparing two lists of texts -/
theorem eqv_strs : ∀ (a b : List (List Nat)), PyData.eqvAll (a.map strD) (b.map strD) = (a == b)
  | [], [] => rfl
  | [], _ :: _ => rfl
  | _ :: _, [] => rfl
  | x :: a, y :: b => by
    show ((mkS x == mkS y) && PyData.eqvAll (a.map strD) (b.map strD)) = _
    rw [eqv_strs a b, mkS_inj]
    rfl
def okL (l : List Nat) : Prop := ∀ k ∈ l, k < 1114112
theorem strOk_of {l : List Nat} (h : okL l) : (PyData.str (mkS l)).canLay0 = true := by
  show (mkS l).cps.all (· < 0x110000) = true
  have h : ∀ k ∈ l, k < 1114112 := h
  simpa [Array.all_eq_true] using h
theorem canLay_strs : ∀ {a : List (List Nat)}, (∀ l ∈ a, okL l) → PyData.canLayAll0 (a.map strD) = true
  | [], _ => rfl
  | x :: a, h => by
    show (PyData.canLay0 (strD x) && PyData.canLayAll0 (a.map strD)) = true
    rw [strOk_of (h x List.mem_cons_self), canLay_strs fun l hl => h l (List.mem_cons_of_mem _ hl)]
    rfl
theorem depth_strs : ∀ (a : List (List Nat)), PyData.depthAll (a.map strD) ≤ 1
  | [] => by simp [PyData.depthAll]
  | x :: a => by
    have := depth_strs a
    simp [PyData.depthAll, PyData.depth] at this ⊢
    omega
section
variable {c : Cx} {A : Around}
theorem CmpOK.eq_strs {a b : List (List Nat)} (ha : ∀ l ∈ a, okL l) (hb : ∀ l ∈ b, okL l) (hr : A.units + 100 < cLine) : CmpOK c A .Eq (.list (a.map strD)) (.list (b.map strD)) (a == b) := by
  rw [← eqv_strs a b]
  refine CmpOK.eq (canLay_strs ha) (canLay_strs hb) ?_
  have := depth_strs a
  have h2 : PyData.depth (.list (a.map strD)) ≤ 2 := by simp [PyData.depth]; omega
  omega
end
section
variable {c : Cx} {A : Around} {env : Env} {ρ : Rho} {σ : Sig} {P : Fl → Rho → Sig → Prop}
/-- an if whose ways meet -/
theorem Ex.iteJ {t body orelse pos b rest} (ρ' : Rho) (σ' : Sig) (h : Tst c A env ρ σ t b) (h1 : b = true → Ex c A env ρ σ body (fun f a b => f = .next ∧ a = ρ' ∧ b = σ')) (h2 : b = false → Ex c A env ρ σ orelse (fun f a b => f = .next ∧ a = ρ' ∧ b = σ'))
    (hn : Ex c A env ρ' σ' rest P) : Ex c A env ρ σ (.If t body orelse pos :: rest) P := by
  refine Ex.step ?_ hn
  intro s₀ μ₀ s S E
  obtain ⟨m, cm, ν, S⟩ := S
  refine wpAny_If (h _ s S.env _ _ fun g tk k => ?_)
  cases b with
  | true => simp only [if_true]; exact h1 rfl s₀ μ₀ _ ⟨m, cm, ν, S.grow k⟩ E
  | false => simp only [Bool.false_eq_true, if_false]; exact h2 rfl s₀ μ₀ _ ⟨m, cm, ν, S.grow k⟩ E
theorem CmpOK.eq_nil {xs : List PyData} (h : PyData.canLayAll0 xs = true) (hr : A.units + 100 < cLine) : CmpOK c A .Eq (.list xs) (.list []) xs.isEmpty := by
  have : xs.isEmpty = PyData.eqv (.list xs) (.list []) := by cases xs <;> rfl
  rw [this]
  refine CmpOK.eq h rfl ?_
  have : PyData.depth (.list []) = 1 := rfl
  omega
end
def strip1 (p : List Nat) : List Nat := if p.getLast? == some 10 then p.dropLast else p
theorem all_takeWhile {p : Nat → Bool} : ∀ {l : List Nat}, l.all p = true → l.takeWhile p = l ∧ l.dropWhile p = []
  | [], _ => ⟨rfl, rfl⟩
  | k :: l, h => by
    simp only [List.all_cons, Bool.and_eq_true] at h
    have := all_takeWhile h.2
    simp [h.1, this.1, this.2]
theorem isNum_strip (p : List Nat) : isNum p = (!(strip1 p == []) && (strip1 p).all Sre.isDigit) := by
  have hsplit := List.takeWhile_append_dropWhile (p := Sre.isDigit) (l := p)
  cases hR : (!(strip1 p == []) && (strip1 p).all Sre.isDigit) with
  | true =>
    simp only [Bool.and_eq_true, Bool.not_eq_true', beq_eq_false_iff_ne] at hR
    unfold strip1 at hR
    split at hR
    · rename_i hl
      have hl : p.getLast? = some 10 := by simpa using hl
      obtain ⟨ys, rfl⟩ := List.getLast?_eq_some_iff.mp hl
      rw [List.dropLast_concat] at hR
      have ⟨h1, h2⟩ := all_takeWhile hR.2
      have e1 : (ys ++ [10]).takeWhile Sre.isDigit = ys := by
        rw [List.takeWhile_append_of_pos (by simpa using hR.2)]
        simp [Sre.isDigit]
      have e2 : (ys ++ [10]).dropWhile Sre.isDigit = [10] := by
        rw [List.dropWhile_append_of_pos (by simpa using hR.2)]
        simp [Sre.isDigit]
      unfold isNum; rw [e1, e2]
      cases ys with
      | nil => exact absurd rfl hR.1
      | cons => rfl
    · have ⟨h1, h2⟩ := all_takeWhile hR.2
      unfold isNum; rw [h1, h2]
      cases p with
      | nil => exact absurd rfl hR.1
      | cons => rfl
  | false =>
    cases hN : isNum p with
    | false => rfl
    | true =>
      exfalso
      unfold isNum at hN
      simp only [Bool.and_eq_true, Bool.or_eq_true, beq_iff_eq, Bool.not_eq_true'] at hN
      have hne : p.takeWhile Sre.isDigit ≠ [] := by intro h; rw [h] at hN; simp at hN
      have hall : (p.takeWhile Sre.isDigit).all Sre.isDigit = true := by
        rw [List.all_eq_true]; intro x hx; exact mem_takeWhile_true hx
      rcases hN.2 with h | h
      · rw [h, List.append_nil] at hsplit
        rw [hsplit] at hne hall
        have : strip1 p = p := by
          unfold strip1
          rw [if_neg]
          intro hl
          have hl : p.getLast? = some 10 := by simpa using hl
          have := List.mem_of_getLast? hl
          rw [List.all_eq_true] at hall
          have := hall 10 this
          revert this; decide
        rw [this] at hR
        rw [hall] at hR
        have : (p == []) = false := by simpa using hne
        rw [this] at hR; cases hR
      · rw [h] at hsplit
        have : strip1 p = p.takeWhile Sre.isDigit := by
          unfold strip1
          rw [← hsplit]
          rw [if_pos (by simp), List.dropLast_concat]
          rw [hsplit]
        rw [this, hall] at hR
        have : (p.takeWhile Sre.isDigit == []) = false := by simpa using hne
        rw [this] at hR; cases hR
theorem splitD_length : ∀ l, (splitD l).length = l.count 46 + 1
  | [] => rfl
  | k :: l => by
    have ih := splitD_length l
    rw [splitD_cons, List.count_cons]
    by_cases h : k = 46
    · subst h; simp [ih]
    · have : (k == 46) = false := by simpa using h
      rw [if_neg h, this]
      cases hs : splitD l with
      | nil => exact absurd hs (splitD_ne l)
      | cons p r => rw [hs] at ih; simpa using ih
theorem splitD_le (l : List Nat) : (splitD l).length ≤ l.length + 1 := by
  rw [splitD_length]; have := List.count_le_length (a := 46) (l := l); omega
theorem mem_dots {p : List Nat} : ∀ {ps : List (List Nat)}, p ∈ ps → (∀ k ∈ p, k ∈ dots ps) ∧ p.length ≤ (dots ps).length
  | [q], h => by simp at h; subst h; exact ⟨fun k hk => hk, Nat.le_refl _⟩
  | q :: t :: r, h => by
    rw [dots_cons _ _ (List.cons_ne_nil _ _)]
    rcases List.mem_cons.mp h with rfl | h
    · exact ⟨fun k hk => List.mem_append_left _ hk, by simp⟩
    · have := mem_dots h
      exact ⟨fun k hk => List.mem_append_right _ (List.mem_cons_of_mem _ (this.1 k hk)), by simp; omega⟩
theorem digit_mem (k : Nat) : decide (k ∈ (Str.ofString "0123456789").cps.toList) = Sre.isDigit k := by
  have : (Str.ofString "0123456789").cps.toList = [48, 49, 50, 51, 52, 53, 54, 55, 56, 57] := rfl
  rw [this]
  unfold Sre.isDigit
  by_cases h : 48 ≤ k ∧ k ≤ 57
  · have : k ∈ [48, 49, 50, 51, 52, 53, 54, 55, 56, 57] := by simp; omega
    simp [this]; omega
  · have : k ∉ [48, 49, 50, 51, 52, 53, 54, 55, 56, 57] := by simp; omega
    simp only [this, decide_false]
    simp; omega
theorem head_dots : ∀ (ps : List (List Nat)), ps ≠ [] → (∀ p ∈ ps, 46 ∉ p) → dots ps ≠ [] → ((dots ps).head? == some 46) = (ps.head? == some [])
  | [], h, _, _ => absurd rfl h
  | [p], _, hf, hn => by
    show (p.head? == some 46) = (some p == some [])
    cases p with
    | nil => exact absurd rfl hn
    | cons k p =>
      have : 46 ≠ k := fun e => hf (k :: p) List.mem_cons_self (by rw [← e]; exact List.mem_cons_self)
      simp; exact fun e => this e.symm
  | p :: q :: r, _, hf, _ => by
    rw [dots_cons _ _ (List.cons_ne_nil _ _)]
    cases p with
    | nil => simp
    | cons k p =>
      have : 46 ≠ k := fun e => hf (k :: p) List.mem_cons_self (by rw [← e]; exact List.mem_cons_self)
      simp; exact fun e => this e.symm
theorem last_dots : ∀ (ps : List (List Nat)), ps ≠ [] → (∀ p ∈ ps, 46 ∉ p) → dots ps ≠ [] → ((dots ps).getLast? == some 46) = (ps.getLast? == some [])
  | [], h, _, _ => absurd rfl h
  | [p], _, hf, hn => by
    show (p.getLast? == some 46) = (some p == some [])
    cases hp : p.getLast? with
    | none => simp at hp; exact absurd hp (by simpa [dots] using hn)
    | some k =>
      have hk : 46 ≠ k := fun e => hf p List.mem_cons_self (by rw [e]; exact List.mem_of_getLast? hp)
      have hpn : p ≠ [] := by intro h; simp [h] at hp
      have : (some p == some ([] : List Nat)) = false := by simpa using hpn
      rw [this]; simp; exact fun e => hk e.symm
  | p :: q :: r, _, hf, _ => by
    rw [dots_cons _ _ (List.cons_ne_nil _ _)]
    have e : (p ++ 46 :: dots (q :: r)).getLast? = if dots (q :: r) = [] then some 46 else (dots (q :: r)).getLast? := by
      rw [List.getLast?_append, List.getLast?_cons]
      by_cases h : dots (q :: r) = []
      · rw [if_pos h, h]; rfl
      · rw [if_neg h, List.getLast?_eq_some_getLast h]; simp
    have e2 : (p :: q :: r).getLast? = (q :: r).getLast? := by simp [List.getLast?_cons]
    rw [e, e2]
    by_cases h : dots (q :: r) = []
    · rw [if_pos h]
      cases r with
      | nil => simp [dots] at h; subst h; rfl
      | cons t r => rw [dots_cons _ _ (List.cons_ne_nil _ _)] at h; simp at h
    · rw [if_neg h]
      exact last_dots (q :: r) (List.cons_ne_nil _ _) (fun x hx => hf x (List.mem_cons_of_mem _ hx)) h
/-- is_HDN over the pieces, where there are two or more -/
theorem isHDN_dots {ps : List (List Nat)} (h2 : 2 ≤ ps.length) (hf : ∀ p ∈ ps, 46 ∉ p) : isHDN (dots ps) = (!isNum (ps.getLastD []) && !(ps.head? == some []) && !(ps.getLast? == some [])) := by
  match ps, h2 with
  | p :: q :: r, _ =>
    have hn : dots (p :: q :: r) ≠ [] := by rw [dots_cons _ _ (List.cons_ne_nil _ _)]; simp
    unfold isHDN
    rw [ipv4_dots _ hf, head_dots _ (List.cons_ne_nil _ _) hf hn, last_dots _ (List.cons_ne_nil _ _) hf hn]
    have : (dots (p :: q :: r) == []) = false := by simpa using hn
    rw [this]
    simp [Bool.and_assoc]
theorem Tst.to {c A env ρ σ e b b'} (h : Tst c A env ρ σ e b) (e' : b = b') : Tst c A env ρ σ e b' := e' ▸ h
theorem Ev.to {c A env ρ σ e d d'} (h : Ev c A env ρ σ e d) (e' : d = d') : Ev c A env ρ σ e d' := e' ▸ h
theorem Ev.toB {c A env ρ σ e b b'} (h : Ev c A env ρ σ e (.bool b)) (e' : b = b') : Ev c A env ρ σ e (.bool b') := e' ▸ h
theorem EvL.to {c A env ρ σ e d d'} (h : EvL c A env ρ σ e d) (e' : d = d') : EvL c A env ρ σ e d' := e' ▸ h
theorem EvI.to {c A env ρ σ e d d'} (h : EvI c A env ρ σ e d) (e' : d = d') : EvI c A env ρ σ e d' := e' ▸ h
theorem contains_digit (k : Nat) : Txt.contains (Str.ofString "0123456789") ⟨#[k]⟩ = Sre.isDigit k := by
  rw [← digit_mem]; exact contains_lst _ k
theorem mem_init {l : List (List Nat)} {P : List Nat → Prop} (h : ∀ p ∈ l, P p) : ∀ p ∈ l.drop 1, P p := fun p hp => h p (List.mem_of_mem_drop hp)
def cat (ps : List (List Nat)) : List Nat := ps.flatten
theorem join_empty : ∀ (ps : List (List Nat)), Txt.join (mkS []) (ps.map mkS) = mkS ps.flatten := by
  intro ps
  show Builtin.Str.glued _ _ = _
  rw [StrLaws.glued_eq_join]
  induction ps with
  | nil => rfl
  | cons p r ih =>
    rw [List.map_cons, show (mkS [] : Str) = ⟨#[]⟩ from rfl] at *
    rw [PyProof.Rows.join_nil_cons, ih, mkS_append, List.flatten_cons]
abbrev sgn (k : Nat) : PyData := .str ⟨#[k]⟩
theorem EvI.strL {c A env ρ σ e} {l : List Nat} (hh : A.handled = none) (h : Ev c A env ρ σ e (.str (mkS l))) : EvI c A env ρ σ e (l.map sgn) := EvI.str hh h
theorem split_data (l : List Nat) : PyData.list ((Txt.split (mkS l) (Str.ofString ".")).map .str) = .list ((splitD l).map strD) := by
  have : Txt.split (mkS l) (Str.ofString ".") = (splitD l).map mkS := txt_split (mkS l)
  rw [this, List.map_map]; rfl
theorem flat_dots : ∀ (q : List Nat) (r : List (List Nat)), ((q :: r).map (46 :: ·)).flatten = 46 :: dots (q :: r)
  | q, [] => by simp [dots]
  | q, t :: r => by
    rw [List.map_cons, List.flatten_cons, flat_dots t r, dots_cons _ _ (List.cons_ne_nil _ _)]
    simp
theorem joinOk_of {sep : Str} {ts : List Str} {B n : Nat} (hB : ∀ y ∈ ts, y.length ≤ B) (hn : ts.length ≤ n) (hs : sep.length ≤ 1) (h : n * B + n ≤ 16777216) : JoinOk sep ts = true := by
  unfold JoinOk Builtin.Str.tooLong
  rw [StrLaws.joinTotal]
  have h1 := StrLaws.sumLen_le ts hB
  have h2 : ts.length * B ≤ n * B := Nat.mul_le_mul_right _ hn
  have h3 : ts.length * sep.length ≤ n * 1 := Nat.mul_le_mul hn hs
  simp only [Bool.not_eq_true', decide_eq_false_iff_not, sizeLine_eq]
  omega
/-- the size of a join, by the text's own size -/
theorem joinOk_sum {sep : Str} {ts : List Str} (hs : sep.length ≤ 1) (h : (ts.map (·.length)).sum + ts.length ≤ 16777216) : JoinOk sep ts = true := by
  unfold JoinOk Builtin.Str.tooLong
  rw [StrLaws.joinTotal]
  have h3 : ts.length * sep.length ≤ ts.length * 1 := Nat.mul_le_mul_left _ hs
  simp only [Bool.not_eq_true', decide_eq_false_iff_not, sizeLine_eq]
  omega
theorem dots_len : ∀ (ps : List (List Nat)), ps ≠ [] → (dots ps).length + 1 = (ps.map (·.length)).sum + ps.length
  | [], h => absurd rfl h
  | [p], _ => by simp [dots]
  | p :: q :: r, _ => by
    have := dots_len (q :: r) (List.cons_ne_nil _ _)
    rw [dots_cons _ _ (List.cons_ne_nil _ _)]
    simp at this ⊢
    omega
theorem clp_nat (i d n : Nat) : clp (some (i : Int)) d n = min i n := by
  unfold clp; simp only; rw [if_neg (by omega)]; omega
theorem take_min {α : Type} (l : List α) (i : Nat) : l.take (min i l.length) = l.take i := by
  by_cases h : i ≤ l.length
  · rw [Nat.min_eq_left h]
  · rw [Nat.min_eq_right (by omega), List.take_length, List.take_of_length_le (by omega)]
theorem drop_min {α : Type} (l : List α) (i n : Nat) (h : l.length ≤ n) : l.drop (min i n) = l.drop i := by
  by_cases h' : i ≤ n
  · rw [Nat.min_eq_left h']
  · rw [Nat.min_eq_right (by omega), List.drop_eq_nil_of_le (by omega), List.drop_eq_nil_of_le (by omega)]
theorem pick_from (ds : List PyData) (i : Nat) : pickD ds (some (i : Int)) none none = ds.drop i := by
  rw [pickD_eq, clp_nat]
  show (ds.take ds.length).drop _ = _
  rw [List.take_length, drop_min _ _ _ (Nat.le_refl _)]
theorem pick_to (ds : List PyData) (i : Nat) : pickD ds none (some (i : Int)) none = ds.take i := by
  rw [pickD_eq, clp_nat, take_min]; rfl
theorem pick_fromto (ds : List PyData) (i j : Nat) : pickD ds (some (i : Int)) (some (j : Int)) none = (ds.take j).drop i := by
  rw [pickD_eq, clp_nat, clp_nat, take_min, drop_min _ _ _ (by simp <;> omega)]
section
variable {c : Cx} {A : Around} {env : Env} {ρ : Rho} {σ : Sig} {P : Fl → Rho → Sig → Prop}
theorem Ev.mapT {α : Type} [Inhabited α] {elt iter : Expr} {x : Str} {px : Pos} {scope : Scope} {cl : List (Str × Addr)} {pos : Pos} {xs : List α} {g : α → PyData} (ρf : Rho)
    (f : α → PyData) (hg : ∀ x y, g x = g y → x = y)
    (hi : EvI c A env ρ σ iter (xs.map g)) (hs : ∀ x, foldedSetIterable iter env x = pure x) (hclos : closureFor scope env = pure cl) (hcell : ∀ y ∈ scope.names, y.2 ≠ .cell) (hkind : scope.kind = .function)
    (hnames : ∀ y ∈ scope.names, y.2 = .local → scope.names.lookup y.1 = some .local) (hx : scope.names.lookup x = some .local)
    (hfree : ∀ C, FreeOK env (compEnvC scope cl C env) ρ ρf x)
    (he : ∀ a, a ∈ xs → ∀ C, Ev c A (compEnvC scope cl C env) ((x, g a) :: ρf) [] elt (f a)) (hz : xs.length ≤ sizeLine) :
    Ev c A env ρ σ (.ListComp elt [⟨.Name x px, iter, [], 0⟩] scope pos) (.list (xs.map f)) := by
  have := Ev.compT (pos := pos) (px := px) ρf (fun _ => true) f hg hi hs hclos hcell hkind hnames hx hfree (fun a _ C => TstAll.nil) (fun a ha _ C => he a ha C) hz
  rwa [filter_true] at this
theorem Ex.assignMT {α : Type} [Inhabited α] {elt iter : Expr} {x y : Str} {px py : Pos} {scope : Scope} {cl : List (Str × Addr)} {cpos pos : Pos} {xs : List α} {g : α → PyData} {rest : List Stmt} (ρf : Rho)
    (f : α → PyData) (hg : ∀ x y, g x = g y → x = y)
    (hi : EvI c A env ρ σ iter (xs.map g)) (hs : ∀ x, foldedSetIterable iter env x = pure x) (hclos : closureFor scope env = pure cl) (hcell : ∀ y ∈ scope.names, y.2 ≠ .cell) (hkind : scope.kind = .function)
    (hnames : ∀ y ∈ scope.names, y.2 = .local → scope.names.lookup y.1 = some .local) (hx : scope.names.lookup x = some .local)
    (hfree : ∀ C, FreeOK env (compEnvC scope cl C env) ρ ρf x)
    (he : ∀ a, a ∈ xs → ∀ C, Ev c A (compEnvC scope cl C env) ((x, g a) :: ρf) [] elt (f a)) (hz : xs.length ≤ sizeLine)
    (hk : Slotted env y) (hy : σ.lookup y = none) (hsw : swapsWith (.ListComp elt [⟨.Name x px, iter, [], 0⟩] scope cpos) (some (.Name y py)) pos.line env = pure true)
    (hn : Ex c A env (upd ρ y (.list (xs.map f))) σ rest P) :
    Ex c A env ρ σ (.Assign [.Name y py] (.ListComp elt [⟨.Name x px, iter, [], 0⟩] scope cpos) pos :: rest) P := by
  refine Ex.assignCT ρf (fun _ => true) f hg hi hs hclos hcell hkind hnames hx hfree (fun a _ C => TstAll.nil) (fun a ha _ C => he a ha C) hz hk hy hsw ?_
  rwa [filter_true]
theorem map_strs (ps : List (List Nat)) : ps.map strD = (ps.map mkS).map .str := by rw [List.map_map]; rfl
theorem sum_map_len (ps : List (List Nat)) : ((ps.map mkS).map (·.length)).sum = (ps.map (·.length)).sum := by
  rw [List.map_map]; congr 1
theorem Meth1OK.join_dot {ps : List (List Nat)} (h : (ps.map (·.length)).sum + ps.length ≤ 16777216) : Meth1OK c A "join" (.str (Str.ofString ".")) (.list (ps.map strD)) (strD (dots ps)) := by
  have := Meth1OK.join (c := c) (A := A) (x := mkS [46]) (ts := ps.map mkS) (joinOk_sum (Nat.le_refl _) (by rw [sum_map_len]; simpa using h))
  rw [txt_join, ← map_strs] at this
  exact this
theorem Meth1OK.join_nil {ps : List (List Nat)} (h : (ps.map (·.length)).sum + ps.length ≤ 16777216) : Meth1OK c A "join" (.str (Str.ofString "")) (.list (ps.map strD)) (strD ps.flatten) := by
  have := Meth1OK.join (c := c) (A := A) (x := mkS []) (ts := ps.map mkS) (joinOk_sum (Nat.zero_le _) (by rw [sum_map_len]; simpa using h))
  rw [join_empty, ← map_strs] at this
  exact this
end
abbrev natD (i : Nat) : PyData := .int (i : Int)
theorem inj_nat : ∀ x y : Nat, natD x = natD y → x = y := fun x y h => by injection h with h; omega
theorem rangeD_nat (n : Nat) : rangeD 0 (n : Int) = (List.range n).map natD := by
  unfold rangeD
  rw [show ((n : Int) - 0).toNat = n by omega]
  apply List.map_congr_left
  intro i _
  simp [natD]
theorem EvI.rangeN {c A env ρ σ x np pos e} {n : Nat} (hh : A.handled = none) (hx : env.kindOf x = some .globalImplicit) (hd : (x == ("__debug__" : Str)) = false) (hg : nsIn c.K mainGlobals x = some none) (hb : bootBuiltins x = some (.type "range")) (hn : x ≠ ("__name__" : Str))
    (h : Ev c A env ρ σ e (.int n)) (hs : starEach [e] env = [(false, eval e env)]) (hz : n ≤ 2 ^ 24) : EvI c A env ρ σ (.Call (.Name x np) [e] [] pos) ((List.range n).map natD) := by
  rw [← rangeD_nat]; exact EvI.range1 hh hx hd hg hb hn h hs (by omega)
theorem flatten_bounds {ps : List (List Nat)} {B : Nat} (h : ∀ p ∈ ps, p.length ≤ B) : ps.flatten.length ≤ ps.length * B := by
  induction ps with
  | nil => simp
  | cons p r ih =>
    have h1 := h p List.mem_cons_self
    have h2 := ih fun x hx => h x (List.mem_cons_of_mem _ hx)
    simp only [List.flatten_cons, List.length_append, List.length_cons, Nat.succ_mul]
    omega
theorem sum_bounds {ps : List (List Nat)} {B : Nat} (h : ∀ p ∈ ps, p.length ≤ B) : (ps.map (·.length)).sum ≤ ps.length * B := by
  induction ps with
  | nil => simp
  | cons p r ih =>
    have h1 := h p List.mem_cons_self
    have h2 := ih fun x hx => h x (List.mem_cons_of_mem _ hx)
    simp only [List.map_cons, List.sum_cons, List.length_cons, Nat.succ_mul]
    omega
theorem okL_flatten {ps : List (List Nat)} (h : ∀ p ∈ ps, okL p) : okL ps.flatten := fun k hk => by
  obtain ⟨p, hp, hk⟩ := List.mem_flatten.mp hk; exact h p hp k hk
theorem okL_reach {l : List Nat} (h : okL l) : okL (reachL l) := by
  unfold reachL
  split
  · rename_i p q r hs
    split
    · intro k hk
      rcases List.mem_cons.mp hk with rfl | hk
      · omega
      · apply h
        rw [← dots_split l, hs, dots_cons _ _ (List.cons_ne_nil _ _)]
        exact List.mem_append_right _ (List.mem_cons_of_mem _ hk)
    · exact h
  · exact h
end Mine

end PartB13
section PartB14
open PySem PySem.W PyProof.Rows
namespace Mine
section
variable {c : Cx} {A : Around} {env : Env} {ρ : Rho} {σ : Sig} {P : Fl → Rho → Sig → Prop}
theorem Ev.isiBool {x np pos e y yp b} (hx : env.kindOf x = some .globalImplicit) (hd : (x == ("__debug__" : Str)) = false) (hg : nsIn c.K mainGlobals x = some none) (hb : bootBuiltins x = some (.builtin "isinstance")) (hn : x ≠ ("__name__" : Str))
    (hx' : env.kindOf y = some .globalImplicit) (hd' : (y == ("__debug__" : Str)) = false) (hg' : nsIn c.K mainGlobals y = some none) (hb' : bootBuiltins y = some (.type "bool")) (hn' : y ≠ ("__name__" : Str))
    (h : Ev c A env ρ σ e (.bool b)) (hs : starEach [e, .Name y yp] env = [(false, eval e env), (false, eval (.Name y yp) env)]) : Ev c A env ρ σ (.Call (.Name x np) [e, .Name y yp] [] pos) (.bool true) := fun μ s ok Q E hQ => by
  refine Call_Name rfl (ld_builtin ok hx hd hg hb hn ?_)
  rw [show backTo pos (starEach [e, .Name y yp] env) = [(false, eval e env), (false, eval (.Name y yp) env)] by rw [hs]; rfl]
  refine Calls.callWith_builtin rfl (Calls.evalArgs_plain (Calls.spliced_cons (h μ s ok _ _ fun v g t k r => Calls.spliced_cons (ld_builtin (ok.keeps k) hx' hd' hg' hb' hn' (Calls.spliced_nil ?_)))))
  rw [r.bool_inv]
  exact IsiPair.bool_bool (hQ _ g t k rd_bool)

theorem RdAll.set {μ h v d} (rv : Rd μ h v d) : ∀ {vs ds} (i : Nat), RdAll μ h vs ds → RdAll μ h (vs.set i v) (ds.set i d)
  | vs, [], i, r => by rw [r.nil_inv]; exact .nil
  | vs, e :: ds, 0, r => by obtain ⟨w, ws, rfl, h1, h2⟩ := r.cons_inv; exact .cons rv h2
  | vs, e :: ds, i + 1, r => by obtain ⟨w, ws, rfl, h1, h2⟩ := r.cons_inv; exact .cons h1 (RdAll.set rv i h2)
/-- an item of a list in hand, augmented -/
theorem Ex.augItem {x np y yp spos op e pos ds i d1 d2 d rest} (hx : σ.lookup x = some ds) (hy : ρ.lookup y = some (.int i)) (hi : pyIdx ds i = some d1) (h0 : 0 ≤ i) (h2 : Ev c A env ρ σ e d2) (h : InpOK c A op d1 d2 d)
    (hd : (x == ("__debug__" : Str)) = false) (hd' : (y == ("__debug__" : Str)) = false) (hz : ds.length ≤ sizeLine)
    (hn : Ex c A env ρ (upd σ x (ds.set i.toNat d)) rest P) : Ex c A env ρ σ (.AugAssign (.Subscript (.Name x np) (.Name y yp) spos) op e pos :: rest) P := by
  refine Ex.step ?_ hn
  intro s₀ μ₀ s S E
  obtain ⟨m, cm, ν, S⟩ := S
  obtain ⟨a, vs, ha, hv, hp, r⟩ := S.muts x ds hx
  have V : VarAt env s.heap x (.ref a) := by
    rcases hv with ⟨k, hm⟩ | ⟨k, ⟨b, hb⟩, hm⟩
    · exact .loc k S.ic.ns hm
    · exact .cell k hb (hm ▸ S.ic.cell x b hb)
  obtain ⟨vi, Vi, ri⟩ := S.env.vars y _ hy
  obtain ⟨ti, rfl⟩ := ri.int_inv
  unfold pyIdx at hi
  rw [if_pos h0] at hi
  obtain ⟨v1, hv1, r1⟩ := r.get _ hi
  have hlt : i.toNat < ds.length := (List.getElem?_eq_some_iff.mp hi).1
  have en : vs.size = ds.length := by simpa using r.length
  rw [sizeLine_eq] at hz
  obtain ⟨n, hpl⟩ := id hp
  have hl : s.heap.IsList a vs := ⟨_, hpl, rfl, n, rfl⟩
  refine wpAny_AugAssign_Subscript (wpAny_Name (V.load S.fn (wpAny_Name (Vi.load S.fn (wpAny_getItem_list hl h0 (by omega) (by simpa using hv1) ?_)) hd')) hd)
  refine h2 _ s S.env _ _ fun v2 g t k r2 => h _ _ v1 v2 (S.env.live.keeps k) (r1.keeps k) r2 _ _ fun v g' t' k' rv => ?_
  have S1 := S.grow (tk := t') (k.trans k')
  have hl' : g'.IsList a vs := ⟨_, (k.trans k') _ _ hpl, rfl, n, rfl⟩
  have hpl' : g'.get? a = some { cls := .type "list", data := .seq vs n } := (k.trans k') _ _ hpl
  refine ki_setAt (s := { s with heap := g', toks := t' }) hpl' h0 (by omega) (by omega) ?_
  refine ⟨ρ, upd σ x (ds.set i.toNat d), ⟨rfl, rfl, rfl⟩, m, cm, ν, S1.chg (tk := t') (vs' := vs.setIfInBounds i.toNat v) (ds' := ds.set i.toNat d) ha hv ⟨n, hpl'⟩ ⟨n, ?_⟩ (Heap.SameBut.update ..) ?_⟩
  · have := Heap.get?_update_self (h := g') (a := a) (f := Obj.mapSeq (·.setIfInBounds i.toNat v)) hpl' rfl
    rw [this]
    simp [Obj.mapSeq]
  · have : (vs.setIfInBounds i.toNat v).toList = vs.toList.set i.toNat v := by simp
    rw [this]
    exact RdAll.set rv _ ((r.keeps k).keeps k')
end
theorem canLay_ints : ∀ ns : List Int, PyData.canLayAll0 (ns.map .int) = true
  | [] => rfl
  | n :: ns => canLay_ints ns
theorem depth_ints : ∀ ns : List Int, PyData.depthAll (ns.map .int) = 0
  | [] => rfl
  | n :: ns => by show max 0 (PyData.depthAll (ns.map .int)) = 0; rw [depth_ints ns]; rfl
theorem eqv_ints : ∀ ns : List Int, PyData.eqvAll (ns.map .int) (ns.map .int) = true
  | [] => rfl
  | n :: ns => by show ((n == n) && PyData.eqvAll (ns.map .int) (ns.map .int)) = true; rw [eqv_ints ns]; simp
theorem CmpOK.eq_ints_same {c : Cx} {A : Around} {ns : List Int} (hr : A.units + 100 < cLine) : CmpOK c A .Eq (.list (ns.map .int)) (.list (ns.map .int)) true := by
  have h : PyData.eqv (.list (ns.map .int)) (.list (ns.map .int)) = true := eqv_ints ns
  rw [← h]
  refine CmpOK.eq (canLay_ints ns) (canLay_ints ns) ?_
  have : PyData.depth (.list (ns.map .int)) = PyData.depthAll (ns.map .int) + 1 := rfl
  rw [depth_ints] at this
  omega
end Mine

end PartB14
section PartB15
open PySem PySem.W PyProof.Rows
namespace Mine
section
variable {c : Cx} {A : Around} {env : Env} {ρ : Rho} {σ : Sig} {P : Fl → Rho → Sig → Prop}
theorem compTurn_in (elt t1 i1 t2 i2 : Expr) (scope : Scope) (pos : Pos) (it acc : Value) (env : Env) :
    compTurn (.ListComp elt [⟨t1, i1, [], 0⟩, ⟨t2, i2, [], 0⟩] scope pos) 1 it acc env = (standAt i2.pos >>= fun _ => pyNext it >>= fun r => match r with
      | none => pure (.done .next)
      | some v => letOwnedTupleGo t2 it v >>= fun _ => PySem.assign t2 env v >>= fun _ =>
        (eval elt env >>= fun x => call (.builtin "list.append") [acc, x] >>= fun _ => pure ()) >>= fun _ =>
          again (.compLoop (.ListComp elt [⟨t1, i1, [], 0⟩, ⟨t2, i2, [], 0⟩] scope pos) 1 it acc env)) := by rfl
def compInner (e i2 : Expr) (acc : Value) (env : Env) (K : Sem Fin) : Sem Fin :=
  eval i2 env >>= fun x => standAt i2.pos >>= fun _ => foldedSetIterable i2 env x >>= fun x => holding [x] (pyIter x) >>= fun it => runOwn (.compStart e 1 it acc env) env >>= fun _ => K
theorem compTurn_out (elt t1 i1 t2 i2 : Expr) (scope : Scope) (pos : Pos) (it acc : Value) (env : Env) :
    compTurn (.ListComp elt [⟨t1, i1, [], 0⟩, ⟨t2, i2, [], 0⟩] scope pos) 0 it acc env = (standAt i1.pos >>= fun _ => pyNext it >>= fun r => match r with
      | none => pure (.done .next)
      | some v => letOwnedTupleGo t1 it v >>= fun _ => PySem.assign t1 env v >>= fun _ =>
        compInner (.ListComp elt [⟨t1, i1, [], 0⟩, ⟨t2, i2, [], 0⟩] scope pos) i2 acc env (again (.compLoop (.ListComp elt [⟨t1, i1, [], 0⟩, ⟨t2, i2, [], 0⟩] scope pos) 0 it acc env))) := by rfl
theorem loop_in {prog : Program} {w : World} {R : Result → Shared → Prop} {s : Shared} {elt t1 i1 t2 i2 : Expr} {scope : Scope} {pos : Pos} {it acc : Value} {env : Env} (I : Nat → Shared → Prop)
    (turn : ∀ n s, I n s → wpAny (model prog w) A (pyNext it) (fun r s₁ => match r with
      | none => R (.ok .next) s₁
      | some v => wpAny (model prog w) A (PySem.assign t2 env v) (fun _ s₂ => wpAny (model prog w) A (eval elt env) (fun x s₃ =>
          wpAny (model prog w) A (call (.builtin "list.append") [acc, x]) (fun _ s₄ => ∃ m, m < n ∧ I m s₄) (notedBy (model prog w) A env fun e s' => R (.error e) s') s₃)
          (notedBy (model prog w) A env fun e s' => R (.error e) s') s₂) (notedBy (model prog w) A env fun e s' => R (.error e) s') s₁) (notedBy (model prog w) A env fun e s' => R (.error e) s') s)
    (n : Nat) (h : I n s) (ht : ∀ v, letOwnedTupleGo t2 it v = pure () := by intro _; rfl) :
    codeAny (model prog w) A (.compLoop (.ListComp elt [⟨t1, i1, [], 0⟩, ⟨t2, i2, [], 0⟩] scope pos) 1 it acc env) R s := by
  refine codeAny_loop rfl I (fun n s hI => ?_) n h
  show wpAny _ _ ((compTurn (.ListComp elt [⟨t1, i1, [], 0⟩, ⟨t2, i2, [], 0⟩] scope pos) 1 it acc env).onRaise (fun x => do noteFrame x env; theTreesLotGoes x)) _ _ s
  refine wpAny_noted ?_
  rw [compTurn_in]
  refine wpAny_bind (wpAny_standAt (wpAny_bind (wpAny_mono (turn n s hI) (fun r s₁ h₁ => ?_) fun _ _ h' => h')))
  cases r with
  | none => exact wpAny_pure h₁
  | some v =>
    refine wpAny_bind (wpAny_of_eq (ht v) ?_)
    exact wpAny_bind (wpAny_mono h₁ (fun _ s₂ h₂ => wpAny_bind (wpAny_bind (wpAny_mono h₂ (fun x s₃ h₃ => wpAny_bind (wpAny_mono h₃
      (fun _ s₄ h₄ => wpAny_pure (wpAny_pure ⟨rfl, h₄⟩)) fun _ _ h' => h')) fun _ _ h' => h'))) fun _ _ h' => h')
theorem loop_out {prog : Program} {w : World} {R : Result → Shared → Prop} {s : Shared} {elt t1 i1 t2 i2 : Expr} {scope : Scope} {pos : Pos} {it acc : Value} {env : Env} (I : Nat → Shared → Prop)
    (hs : ∀ x, foldedSetIterable i2 env x = pure x)
    (turn : ∀ n s, I n s → wpAny (model prog w) A (pyNext it) (fun r s₁ => match r with
      | none => R (.ok .next) s₁
      | some v => wpAny (model prog w) A (PySem.assign t1 env v) (fun _ s₂ =>
          wpAny (model prog w) A (eval i2 env) (fun x s₃ => wpAny (model prog w) A (pyIter x) (fun it' s₄ =>
            codeAny (model prog w) A (.compStart (.ListComp elt [⟨t1, i1, [], 0⟩, ⟨t2, i2, [], 0⟩] scope pos) 1 it' acc env) (fun r s₅ => match r with | .ok _ => ∃ m, m < n ∧ I m s₅ | .error e => cameBackBy (model prog w) A env (notedBy (model prog w) A env fun e s' => R (.error e) s') e s₅) s₄) (notedBy (model prog w) A env fun e s' => R (.error e) s') s₃) (notedBy (model prog w) A env fun e s' => R (.error e) s') s₂)
          (notedBy (model prog w) A env fun e s' => R (.error e) s') s₁) (notedBy (model prog w) A env fun e s' => R (.error e) s') s)
    (n : Nat) (h : I n s) (ht : ∀ v, letOwnedTupleGo t1 it v = pure () := by intro _; rfl) :
    codeAny (model prog w) A (.compLoop (.ListComp elt [⟨t1, i1, [], 0⟩, ⟨t2, i2, [], 0⟩] scope pos) 0 it acc env) R s := by
  refine codeAny_loop rfl I (fun n s hI => ?_) n h
  show wpAny _ _ ((compTurn (.ListComp elt [⟨t1, i1, [], 0⟩, ⟨t2, i2, [], 0⟩] scope pos) 0 it acc env).onRaise (fun x => do noteFrame x env; theTreesLotGoes x)) _ _ s
  refine wpAny_noted ?_
  rw [compTurn_out]
  refine wpAny_bind (wpAny_standAt (wpAny_bind (wpAny_mono (turn n s hI) (fun r s₁ h₁ => ?_) fun _ _ h' => h')))
  cases r with
  | none => exact wpAny_pure h₁
  | some v =>
    refine wpAny_bind (wpAny_of_eq (ht v) ?_)
    refine wpAny_bind (wpAny_mono h₁ (fun _ s₂ h₂ => ?_) fun _ _ h' => h')
    unfold compInner
    refine wpAny_bind (wpAny_mono h₂ (fun x s₃ h₃ => wpAny_bind (wpAny_standAt (wpAny_bind (wpAny_of_eq (hs x) (wpAny_bind (wpAny_holding (wpAny_mono h₃ (fun it' s₄ h₄ => ?_) fun _ _ h' => h'))))))) fun _ _ h' => h')
    refine wpAny_bind (wpAny_mono (wpAny_runOwn (h := none) (Q := fun _ s' => ∃ m, m < n ∧ I m s') (codeAny_mono h₄ fun r s₅ h₅ => ?_)) (fun _ _ h => wpAny_pure ⟨rfl, h⟩) fun _ _ h' => h')
    cases r <;> exact h₅
theorem start_in {prog : Program} {w : World} {R : Result → Shared → Prop} {s : Shared} {elt t1 i1 t2 i2 : Expr} {scope : Scope} {pos : Pos} {it acc : Value} {env : Env}
    (h0 : codeAny (model prog w) A (.compLoop (.ListComp elt [⟨t1, i1, [], 0⟩, ⟨t2, i2, [], 0⟩] scope pos) 1 it acc env) R s)
    (h : wpAny (model prog w) A (pyIter it) (fun it' s' => codeAny (model prog w) A (.compLoop (.ListComp elt [⟨t1, i1, [], 0⟩, ⟨t2, i2, [], 0⟩] scope pos) 1 it' acc env) R s')
      (notedBy (model prog w) A env fun x s' => R (.error x) s') s) :
    codeAny (model prog w) A (.compStart (.ListComp elt [⟨t1, i1, [], 0⟩, ⟨t2, i2, [], 0⟩] scope pos) 1 it acc env) R s := by
  refine codeAny_of_tree ?_
  show wpAny _ _ ((compStart (.ListComp elt [⟨t1, i1, [], 0⟩, ⟨t2, i2, [], 0⟩] scope pos) 1 it acc env).onRaise (fun x => do noteFrame x env; standAt theWindowsPlace)) _ _ s
  refine wpAny_notedAt ?_
  unfold compStart
  show wpAny _ _ (ask >>= _) _ _ s
  refine wpAny_bind (wpAny_askSetting (wpAny_ite ?_))
  split
  · first
      | exact wpAny_bind (wpAny_pure (wpAny_pure (And.intro rfl h0)))
      | exact wpAny_pure (And.intro rfl h0)
  · first
      | exact wpAny_bind (wpAny_rule (wpAny_bind (wpAny_standAt (wpAny_bind (wpAny_mono h (fun it' s' h' => wpAny_pure (And.intro rfl h')) fun _ _ x => x)))))
      | (refine wpAny_bind (wpAny_rule ?_); show wpAny _ _ (standAt i2.pos >>= _) _ _ s; exact wpAny_bind (wpAny_standAt (wpAny_bind (wpAny_mono h (fun it' s' h' => wpAny_pure (And.intro rfl h')) fun _ _ x => x))))

theorem EnvOK.more {cenv : Env} {μ : List Addr} {ρ : Rho} {h : Heap} {y : Str} {v : Value} {d : PyData} {m : Str → Option Value} (ok : EnvOK c cenv μ ρ [] h) (hk : cenv.kindOf y = some .local) (hn : h.Ns cenv.locals m) (hm : m y = some v) (r : Rd μ h v d) :
    EnvOK c cenv μ ((y, d) :: ρ) [] h := by
  refine ⟨ok.gk, ok.fn, ok.gl, ok.bl, fun z d' e => ?_, (fun z ds' e => by cases e), ok.live⟩
  rw [List.lookup_cons] at e
  by_cases hz : (z == y) = true
  · simp only [hz] at e; cases e
    have := beq_iff_eq.mp hz; subst this
    exact ⟨v, .loc hk hn hm, r⟩
  · have hz' : (z == y) = false := by simpa using hz
    simp only [hz'] at e
    exact ok.vars z d' e

theorem inner2 {elt t1 i1 i2 : Expr} {y : Str} {py : Pos} {scope : Scope} {pos : Pos} {cenv : Env} {C D : Addr} {μ : List Addr} {ρ1 : Rho} {s : Shared} {m : Str → Option Value} {ys : Array Value} {ds acc : List PyData} (f : PyData → PyData)
    (hi : EvI c A cenv ρ1 [] i2 ds) (hC : cenv.locals = C) (hkind : cenv.scope.kind = .function) (hky : cenv.kindOf y = some .local) (he : ∀ d ∈ ds, Ev c A cenv ((y, d) :: ρ1) [] elt (f d))
    (hCm : C ∈ μ) (hDm : D ∈ μ) (hDC : D ≠ C) (hn : s.heap.Ns C m) (hl : s.heap.PlainList D ys) (hr : RdAll μ s.heap ys.toList acc) (hsz : acc.length + ds.length ≤ sizeLine) (lv : Live μ s.heap)
    (hok : ∀ H' m' wr, (∀ b o, b ≠ C → b ≠ D → s.heap.get? b = some o → H'.get? b = some o) → H'.Ns C m' → (∀ z, z ≠ y → m' z = m z) → Live (wr ++ μ) H' → (∀ b ∈ wr, s.heap.get? b = none) → EnvOK c cenv (wr ++ μ) ρ1 [] H')
    {R : Result → Shared → Prop} {E : Value → Shared → Prop}
    (hQ : ∀ H' tk m' ys', H'.Ns C m' → (∀ z, z ≠ y → m' z = m z) → H'.PlainList D ys' → RdAll μ H' ys'.toList (acc ++ ds.map f) → (∀ b o, b ≠ C → b ≠ D → s.heap.get? b = some o → H'.get? b = some o) → R (.ok .next) { s with heap := H', toks := tk }) :
    wpAny (model c.prog c.w) A (eval i2 cenv) (fun x s₃ => wpAny (model c.prog c.w) A (pyIter x) (fun it' s₄ =>
            codeAny (model c.prog c.w) A (.compStart (.ListComp elt [⟨t1, i1, [], 0⟩, ⟨.Name y py, i2, [], 0⟩] scope pos) 1 it' (.ref D) cenv) R s₄) E s₃) E s := by
  have ok0 : EnvOK c cenv μ ρ1 [] s.heap := hok s.heap m [] (fun _ _ _ _ e => e) hn (fun _ _ => rfl) lv (fun b hb => by cases hb)
  refine hi μ s ok0 _ _ fun It fp wr Pw W h2 tk2 w0 w1 wl woff wfp lfp hP k2 => ?_
  have nwC : C ∉ wr := fun q => wfp C (w0.sub C q) hCm
  have nwD : D ∉ wr := fun q => wfp D (w0.sub D q) hDm
  have loop : codeAny (model c.prog c.w) A (.compLoop (.ListComp elt [⟨t1, i1, [], 0⟩, ⟨.Name y py, i2, [], 0⟩] scope pos) 1 (.ref It) (.ref D) cenv) R { s with heap := h2, toks := tk2 } := by
    refine loop_in
      (fun n s' => ∃ i H tk m' ys, s' = { s with heap := H, toks := tk } ∧ n = ds.length + 1 - i ∧ i ≤ ds.length ∧ W i H ∧ H.PlainList D ys ∧ H.Ns C m' ∧ (∀ z, z ≠ y → m' z = m z) ∧ RdAll (wr ++ μ) H ys.toList (acc ++ (ds.take i).map f) ∧
        (∀ b o, b ≠ C → b ∉ wr → b ≠ D → h2.get? b = some o → H.get? b = some o)) ?_ (ds.length + 1)
      ⟨0, h2, _, m, ys, rfl, rfl, Nat.zero_le _, w1, (let ⟨n, e⟩ := hl; ⟨n, k2 _ _ e⟩), hn.keeps k2, fun _ _ => rfl, ?_, fun _ _ _ _ _ e => e⟩ (by intro v; rfl)
    · rintro n s' ⟨i, H, tk, m', ys, rfl, rfl, hle, hW, hl, hn, hm, hr, hk⟩
      by_cases hlt : i < ds.length
      · refine w0.item i _ _ _ hlt hW fun v h3 tk3 hv hW3 hk3 => ?_
        obtain ⟨d, hd, rv⟩ := hP i v hv
        have hmem : d ∈ ds := List.mem_of_getElem? hd
        subst hC
        refine wpAny_assign_Name (wpAny_storeName_local hky (hn.at' fun o e => hk3 _ o nwC e) (fun h4 hn4 hs4 => ?_) (by rw [hkind]; rfl))
        have up4 : ∀ b o, b ≠ cenv.locals → b ∉ wr → b ≠ D → h2.get? b = some o → h4.get? b = some o := fun b o b1 b2 b3 e => hs4.extBut b o b1 (hk3 b o b2 (hk b o b1 b2 b3 e))
        have hl4 : h4.PlainList D ys := by obtain ⟨n, e⟩ := hl; exact ⟨n, hs4.extBut _ _ hDC (hk3 _ _ nwD e)⟩
        have hfC : ∀ b ∈ fp, b ≠ cenv.locals := fun b hb q => wfp b hb (q ▸ hCm)
        have hfD : ∀ b ∈ fp, b ≠ D := fun b hb q => wfp b hb (q ▸ hDm)
        have hW4 : W (i + 1) h4 := w0.frame _ _ _ hW3 fun b hb o e => hs4.extBut b o (hfC b hb) e
        have hr4 : RdAll (wr ++ μ) h4 ys.toList (acc ++ (ds.take i).map f) := (hr.to (μ' := wr ++ μ) (h' := h3) fun b o hb e => ⟨hb, hk3 b o (fun q => hb (by simp [q])) e⟩).keepBut (C := cenv.locals) (by simp [hCm]) hs4
        have rv4 : Rd (wr ++ μ) h4 v d := rv.to fun b o hb e => by
          have hbw : b ∉ wr := fun q => hb (List.mem_append_left _ q)
          have hbm : b ∉ μ := fun q => hb (List.mem_append_right _ q)
          exact ⟨hb, up4 b o (fun q => hbm (q ▸ hCm)) hbw (fun q => hbm (q ▸ hDm)) e⟩
        have base : ∀ b o, b ≠ cenv.locals → b ≠ D → s.heap.get? b = some o → h4.get? b = some o := fun b o b1 b2 e => up4 b o b1 (fun q => by rw [woff b q] at e; cases e) b2 (k2 b o e)
        have live4 : Live (wr ++ μ) h4 := fun a ha => by
          rcases List.mem_append.mp ha with q | q
          · exact wl _ _ hW4 a q
          · by_cases ha1 : a = cenv.locals
            · subst ha1; obtain ⟨o, _, _, ho, _⟩ := hn4; exact ⟨o, ho⟩
            · by_cases ha2 : a = D
              · subst ha2; obtain ⟨n, e⟩ := hl4; exact ⟨_, e⟩
              · obtain ⟨o, e⟩ := lv a q; exact ⟨o, base a o ha1 ha2 e⟩
        have hm4 : ∀ z, z ≠ y → (fun x => if x = y then some v else m' x) z = m z := fun z hz => by
          show (if z = y then some v else m' z) = m z
          rw [if_neg hz]; exact hm z hz
        have ok4 : EnvOK c cenv (wr ++ μ) ((y, d) :: ρ1) [] h4 := (hok h4 _ wr base hn4 hm4 live4 woff).more hky hn4 (by simp) rv4
        refine he d hmem (wr ++ μ) _ ok4 _ _ fun r h6 tk6 k6 ry => ?_
        have htake : (ds.take (i + 1)) = ds.take i ++ [d] := by rw [List.take_succ, hd]; rfl
        have hys : ys.size ≤ sizeLine := by
          have e1 : ys.size = (acc ++ (ds.take i).map f).length := by simpa using hr.length
          rw [e1]; simp; omega
        have hl6 : h6.PlainList D ys := by obtain ⟨n, e⟩ := hl4; exact ⟨n, k6 _ _ e⟩
        refine wpAny_list_append_plain (hsz := hys) hl6 fun h7 hl7 hs7 => ?_
        refine ⟨ds.length + 1 - (i + 1), by omega, i + 1, h7, tk6, _, ys.push r, rfl, rfl, hlt, ?_, hl7, (hn4.keeps k6).sameBut hs7 (Ne.symm hDC), hm4, ?_, fun b o b1 b2 b3 e => hs7.extBut b o b3 (k6 b o (up4 b o b1 b2 b3 e))⟩
        · exact w0.frame _ _ _ hW4 fun b hb o e => hs7.extBut b o (hfD b hb) (k6 b o e)
        · rw [htake, List.map_append]
          have := ((hr4.keeps k6).append (.cons ry .nil)).keepBut (C := D) (h' := h7) (by simp [hDm]) hs7
          simpa using this
      · have hin : i = ds.length := by omega
        subst hin
        refine w0.done _ _ _ hW fun h3 tk3 hk3 => ?_
        refine hQ h3 tk3 m' ys (hn.at' fun o e => hk3 _ o nwC e) hm (let ⟨n, e⟩ := hl; ⟨n, hk3 _ _ nwD e⟩) ?_ (fun b o b1 b2 e => ?_)
        · have := hr.to (μ' := μ) (h' := h3) fun b o hb e => ⟨fun q => hb (List.mem_append_right _ q), hk3 b o (fun q => hb (List.mem_append_left _ q)) e⟩
          simpa using this
        · have hbw : b ∉ wr := fun q => by rw [woff b q] at e; cases e
          exact hk3 b o hbw (hk b o b1 hbw b2 (k2 b o e))
    · simp only [List.take_zero, List.map_nil, List.append_nil]
      exact hr.to fun b o hb e => ⟨fun q => by
        rcases List.mem_append.mp q with q | q
        · rw [woff b q] at e; cases e
        · exact hb q, k2 b o e⟩
  exact start_in loop (w0.self 0 _ _ _ w1 loop)
end
end Mine

end PartB15
section PartB16
open PySem PySem.W PyProof.Rows
namespace Mine
section
variable {c : Cx} {A : Around} {env : Env} {ρ : Rho} {σ : Sig} {P : Fl → Rho → Sig → Prop}
theorem comp_core2 {elt iter i2 : Expr} {x y : Str} {px py : Pos} {scope : Scope} {cl : List (Str × Addr)} {pos fp' : Pos} {ds : List PyData} {use : Option (Value → Sem Unit)} {ρf : Rho} {μ : List Addr} {s : Shared}
    (g : PyData → List PyData) (f : PyData → PyData → PyData)
    (hi : EvI c A env ρ σ iter ds) (hs : ∀ x, foldedSetIterable iter env x = pure x) (hclos : closureFor scope env = pure cl) (hcell : ∀ y ∈ scope.names, y.2 ≠ .cell) (hkind : scope.kind = .function)
    (hnames : ∀ y ∈ scope.names, y.2 = .local → scope.names.lookup y.1 = some .local) (hx : scope.names.lookup x = some .local) (hy : scope.names.lookup y = some .local) (hxy : (x == y) = false)
    (hfree : ∀ C, FreeOK env (compEnvC scope cl C env) ρ ρf x)
    (hs2 : ∀ C x, foldedSetIterable i2 (compEnvC scope cl C env) x = pure x)
    (ht : ∀ d, d ∈ ds → ∀ C, EvI c A (compEnvC scope cl C env) ((x, d) :: ρf) [] i2 (g d))
    (he : ∀ d, d ∈ ds → ∀ d2, d2 ∈ g d → ∀ C, Ev c A (compEnvC scope cl C env) ((y, d2) :: (x, d) :: ρf) [] elt (f d d2)) (hz : (ds.flatMap g).length ≤ sizeLine)
    (ok : EnvOK c env μ ρ σ s.heap) {Q : Value → Shared → Prop} {E : Value → Shared → Prop}
    (hQ : ∀ D C h' tk m' ys, s.heap.get? D = none → s.heap.get? C = none → D ≠ C → D ∉ μ → h'.Ns C m' → h'.PlainList D ys → RdAll (C :: D :: μ) h' ys.toList (ds.flatMap fun d => (g d).map (f d)) → Kp s.heap h' →
      compPost (model c.prog c.w) A E use Q (.ref D) C (.ok .next) { s with heap := h', toks := tk }) :
    wpAny (model c.prog c.w) A (comprehension (.ListComp elt [⟨.Name x px, iter, [], 0⟩, ⟨.Name y py, i2, [], 0⟩] scope pos) scope env fp' (newList []) false (eval iter env) use) Q E s := by
  refine wpAny_comprehension_free rfl hs hclos hkind hnames (hi μ s ok _ _ fun It fp wr Pw W h2 tk2 w0 w1 wl woff wfp lfp hP k2 => ?_)
  refine wpAny_newObj_type (wpAny_newFunctionEnv hcell (by intro y hy; simp at hy) (fun h₁ hns₁ hsb₁ => ?_) hkind)
  dsimp only at hns₁ hsb₁ ⊢
  generalize hH2 : h2.push { cls := .type "list", dict := none, data := .seq ([] : List Value).toArray } = H2 at hns₁ hsb₁ ⊢
  have hC : H2.objs.size = h2.objs.size + 1 := by rw [← hH2, Heap.size_push]
  generalize hD' : h2.objs.size = D at hC
  generalize hC' : H2.objs.size = C at hC hns₁ hsb₁
  have dD : s.heap.get? D = none := none_back k2 (by rw [← hD']; exact none_size h2)
  have dC : s.heap.get? C = none := none_back k2 (none_of_size (by rw [hC, hD']; exact Nat.le_succ _))
  have hDC : D ≠ C := by rw [hC]; exact Nat.ne_of_lt (Nat.lt_succ_self _)
  have apart : ∀ b o, h2.get? b = some o → b ≠ D ∧ b ≠ C := fun b o e => by
    have hlt : b < D := by rw [← hD']; exact Heap.lt_size e
    exact ⟨Nat.ne_of_lt hlt, by rw [hC]; exact Nat.ne_of_lt (Nat.lt_succ_of_lt hlt)⟩
  have lv := ok.live
  have hDμ : D ∉ μ := by rw [← hD']; exact (lv.keeps k2).fresh
  have hCμ : C ∉ μ := fun q => by obtain ⟨o, e⟩ := lv C q; rw [dC] at e; cases e
  have old : ∀ b o, h2.get? b = some o → h₁.get? b = some o := fun b o e => by
    refine hsb₁.extBut b o (apart b o e).2 (Heap.get?_push_of_some _ ?_)
    rw [← hH2]; exact Heap.get?_push_of_some _ e
  have hacc : h₁.PlainList D #[] := ⟨0, hsb₁.extBut _ _ hDC (Heap.get?_push_of_some _ (by rw [← hH2, ← hD']; exact Heap.get?_push_size _ rfl))⟩
  have hfp : ∀ b ∈ fp, b ≠ D ∧ b ≠ C := fun b hb => by
    obtain ⟨o, e⟩ := lfp b hb
    exact apart b o e
  have hst₁ : W 0 h₁ := w0.frame _ _ _ w1 fun b _ o e => old b o e
  let cenv := compEnvC scope cl C env
  let μ' := C :: D :: (wr ++ μ)
  have loop : codeAny (model c.prog c.w) A (.compLoop (.ListComp elt [⟨.Name x px, iter, [], 0⟩, ⟨.Name y py, i2, [], 0⟩] scope pos) 0 (.ref It) (.ref D) cenv) (compPost (model c.prog c.w) A E use Q (.ref D) C) { s with heap := h₁, toks := tk2 + ([] : List (Str × Value)).length } := by
    refine loop_out
      (fun n s' => ∃ i H tk m' ys, s' = { s with heap := H, toks := tk } ∧ n = ds.length + 1 - i ∧ i ≤ ds.length ∧ W i H ∧ H.PlainList D ys ∧ H.Ns C m' ∧ RdAll μ' H ys.toList ((ds.take i).flatMap fun d => (g d).map (f d)) ∧
        (∀ b o, b ≠ C → b ∉ wr → b ≠ D → h₁.get? b = some o → H.get? b = some o)) (hs2 C) ?_ (ds.length + 1)
      ⟨0, h₁, _, _, #[], rfl, rfl, Nat.zero_le _, hst₁, hacc, hns₁, by simpa using RdAll.nil, fun _ _ _ _ _ e => e⟩ (by intro v; rfl)
    rintro n s' ⟨i, H, tk, m', ys, rfl, rfl, hle, hW, hl, hn, hr, hk⟩
    have nwC : C ∉ wr := fun q => (hfp C (w0.sub C q)).2 rfl
    have nwD : D ∉ wr := fun q => (hfp D (w0.sub D q)).1 rfl
    have kS : ∀ {H' : Heap}, (∀ b o, b ≠ C → b ∉ wr → b ≠ D → h₁.get? b = some o → H'.get? b = some o) → Kp s.heap H' := fun hk' b o e =>
      hk' b o (fun q => by rw [q, dC] at e; cases e) (fun q => by rw [woff b q] at e; cases e) (fun q => by rw [q, dD] at e; cases e) (old b o (k2 b o e))
    by_cases hlt : i < ds.length
    · refine w0.item i _ _ _ hlt hW fun v h3 tk3 hv hW3 hk3 => ?_
      obtain ⟨d, hd, rv⟩ := hP i v hv
      have hmem : d ∈ ds := List.mem_of_getElem? hd
      have hkx : cenv.kindOf x = some .local := lookup_relabel_local hx
      have hky : cenv.kindOf y = some .local := lookup_relabel_local hy
      refine wpAny_assign_Name (wpAny_storeName_local hkx (hn.at' fun o e => hk3 _ o nwC e) (fun h4 hn4 hs4 => ?_) (by show (scope.kind == .class || (scope.kind == .module && _)) = false; rw [hkind]; rfl))
      have up4 : ∀ b o, b ≠ C → b ∉ wr → b ≠ D → h₁.get? b = some o → h4.get? b = some o := fun b o b1 b2 b3 e => hs4.extBut b o b1 (hk3 b o b2 (hk b o b1 b2 b3 e))
      have hl4 : h4.PlainList D ys := by obtain ⟨n, e⟩ := hl; exact ⟨n, hs4.extBut _ _ hDC (hk3 _ _ nwD e)⟩
      have hW4 : W (i + 1) h4 := w0.frame _ _ _ hW3 fun b hb o e => hs4.extBut b o (hfp b hb).2 e
      have hr4 : RdAll μ' h4 ys.toList ((ds.take i).flatMap fun d => (g d).map (f d)) := (hr.to (μ' := μ') (h' := h3) fun b o hb e => ⟨hb, hk3 b o (fun q => hb (by simp [μ', q])) e⟩).keepBut (C := C) List.mem_cons_self hs4
      have rv4 : Rd μ' h4 v d := rv.to fun b o hb e => by
        have hbw : b ∉ wr := fun q => hb (List.mem_append_left _ q)
        have b1 : b ≠ C := (apart b o e).2
        have b2 : b ≠ D := (apart b o e).1
        refine ⟨fun q => ?_, up4 b o b1 hbw b2 (old b o e)⟩
        simp only [μ', List.mem_cons] at q
        rcases q with q | q | q
        · exact b1 q
        · exact b2 q
        · exact hb q
      have live4 : Live μ' h4 := fun a ha => by
        simp only [μ', List.mem_cons, List.mem_append] at ha
        rcases ha with rfl | rfl | q | q
        · obtain ⟨o, _, _, ho, _⟩ := hn4; exact ⟨o, ho⟩
        · obtain ⟨n, e⟩ := hl4; exact ⟨_, e⟩
        · exact wl _ _ hW4 a q
        · obtain ⟨o, e⟩ := lv a q; exact ⟨o, kS up4 _ _ e⟩
      have htake : (ds.take (i + 1)) = ds.take i ++ [d] := by
        rw [List.take_succ, hd]; rfl
      have hsz2 : ((ds.take i).flatMap fun d => (g d).map (f d)).length + (g d).length ≤ sizeLine := by
        have e1 : (ds.flatMap g).length = ((ds.take (i + 1)).flatMap g).length + ((ds.drop (i + 1)).flatMap g).length := by
          rw [← List.length_append, ← List.flatMap_append, List.take_append_drop]
        rw [htake, List.flatMap_append, List.length_append] at e1
        have e2 : ((ds.take i).flatMap fun d => (g d).map (f d)).length = ((ds.take i).flatMap g).length := by
          simp [List.length_flatMap]
        simp at e1
        simp at e2
        simp [List.length_flatMap] at *
        omega
      refine inner2 (C := C) (μ := μ') (acc := (ds.take i).flatMap fun d => (g d).map (f d)) (f d) (ht d hmem C) rfl hkind hky (fun d2 h2 => he d hmem d2 h2 C) List.mem_cons_self (by simp [μ']) hDC hn4 hl4 hr4 hsz2 live4 ?_ ?_
      · intro H' m2 wr2 base hnH hm2 liveH woff2
        have k4 : Kp s.heap H' := fun b o e => base b o (fun q => by rw [q, dC] at e; cases e) (fun q => by rw [q, dD] at e; cases e) (kS up4 b o e)
        have tr : ∀ {v d}, Rd μ' h4 v d → Rd (wr2 ++ μ') H' v d := fun r => r.to fun b o hb e => ⟨fun q => by
          rcases List.mem_append.mp q with q | q
          · rw [woff2 b q] at e; cases e
          · exact hb q, base b o (fun q => hb (by simp [μ', q])) (fun q => hb (by simp [μ', q])) e⟩
        refine ⟨ok.gk.keeps k4, hkind, ok.gl, ok.bl, fun z d' e => ?_, (fun z ds' e => by cases e), liveH⟩
        rw [List.lookup_cons] at e
        by_cases hz : (z == x) = true
        · simp only [hz] at e; cases e
          have := beq_iff_eq.mp hz; subst this
          exact ⟨v, .loc hkx hnH (by rw [hm2 z (by simpa using hxy)]; simp), tr rv4⟩
        · have hz' : (z == x) = false := by simpa using hz
          simp only [hz'] at e
          obtain ⟨e1, _, e3, e4, a, e5, e6⟩ := hfree C z d' e
          obtain ⟨w', V, r⟩ := ok.vars z d' e1
          cases V with
          | loc q _ _ => rw [e3] at q; cases q
          | free q _ _ _ => rw [e3] at q; cases q
          | cell q q2 q3 =>
            rw [e5] at q2; cases q2
            refine ⟨w', .cell e4 e6 (q3.keeps k4), r.to fun b o hb e => ⟨fun q => ?_, k4 _ _ e⟩⟩
            rcases List.mem_append.mp q with q | q
            · have := kS up4 _ _ e
              rw [woff2 b q] at this; cases this
            · simp only [μ', List.mem_cons, List.mem_append] at q
              rcases q with q | q | q | q
              · rw [q, dC] at e; cases e
              · rw [q, dD] at e; cases e
              · rw [woff b q] at e; cases e
              · exact hb q
      · intro H' tk' m2 ys2 hn2 hm2 hl2 hr2 base
        refine ⟨ds.length + 1 - (i + 1), by omega, i + 1, H', tk', _, ys2, rfl, rfl, hlt, ?_, hl2, hn2, ?_, fun b o b1 b2 b3 e => base b o b1 b3 (up4 b o b1 b2 b3 e)⟩
        · exact w0.frame _ _ _ hW4 fun b hb o e => base b o (hfp b hb).2 (hfp b hb).1 e
        · rw [htake, List.flatMap_append]; simpa using hr2
    · have hin : i = ds.length := by omega
      subst hin
      refine w0.done _ _ _ hW fun h3 tk3 hk3 => ?_
      have hfin := hQ D C h3 tk3 m' ys dD dC hDC hDμ (hn.at' fun o e => hk3 _ o nwC e) (let ⟨n, e⟩ := hl; ⟨n, hk3 _ _ nwD e⟩) ?_ (kS fun b o b1 b2 b3 e => hk3 b o b2 (hk b o b1 b2 b3 e))
      · exact hfin
      · have := hr.to (μ' := C :: D :: μ) (h' := h3) fun b o hb e => ⟨fun q => hb (by
          simp only [μ', List.mem_cons, List.mem_append] at q ⊢
          rcases q with q | q | q
          · exact .inl q
          · exact .inr (.inl q)
          · exact .inr (.inr (.inr q))), hk3 b o (fun q => hb (by simp [μ', q])) e⟩
        simpa using this
  have hself : ∀ {Q' : Value → Shared → Prop} {E'}, Q' (.ref It) { s with heap := h₁, toks := tk2 + ([] : List (Str × Value)).length } → wpAny (model c.prog c.w) A (pyIter (.ref It)) Q' E' { s with heap := h₁, toks := tk2 + ([] : List (Str × Value)).length } := fun q => w0.self 0 _ _ _ hst₁ q
  have := codeAny_compStart_list loop (hself loop)
  subst hC' hD'
  exact this
theorem Ev.comp2 {elt iter i2 : Expr} {x x2 : Str} {px px2 : Pos} {scope : Scope} {cl : List (Str × Addr)} {pos : Pos} {ds : List PyData} (ρf : Rho)
    (g : PyData → List PyData) (f : PyData → PyData → PyData)
    (hi : EvI c A env ρ σ iter ds) (hs : ∀ x, foldedSetIterable iter env x = pure x) (hclos : closureFor scope env = pure cl) (hcell : ∀ y ∈ scope.names, y.2 ≠ .cell) (hkind : scope.kind = .function)
    (hnames : ∀ y ∈ scope.names, y.2 = .local → scope.names.lookup y.1 = some .local) (hx : scope.names.lookup x = some .local) (hx2 : scope.names.lookup x2 = some .local) (hxx : (x == x2) = false)
    (hfree : ∀ C, FreeOK env (compEnvC scope cl C env) ρ ρf x)
    (hs2 : ∀ C x, foldedSetIterable i2 (compEnvC scope cl C env) x = pure x)
    (ht : ∀ d, d ∈ ds → ∀ C, EvI c A (compEnvC scope cl C env) ((x, d) :: ρf) [] i2 (g d))
    (he : ∀ d, d ∈ ds → ∀ d2, d2 ∈ g d → ∀ C, Ev c A (compEnvC scope cl C env) ((x2, d2) :: (x, d) :: ρf) [] elt (f d d2)) (hz : (ds.flatMap g).length ≤ sizeLine) :
    Ev c A env ρ σ (.ListComp elt [⟨.Name x px, iter, [], 0⟩, ⟨.Name x2 px2, i2, [], 0⟩] scope pos) (.list (ds.flatMap fun d => (g d).map (f d))) := fun μ s ok Q E hQ => by
  rw [eval_ListComp]
  refine comp_core2 (use := none) g f hi hs hclos hcell hkind hnames hx hx2 hxx hfree hs2 ht he hz ok fun D C h' tk m' ys dD dC hDC hDμ hn hl hr k => ⟨m', hn, fun h'' hs'' => ?_⟩
  obtain ⟨n, el⟩ := hl
  refine hQ _ h'' tk (fun b o e => hs''.extBut b o (fun q => by rw [q, dC] at e; cases e) (k b o e)) (LsAt.rd' ⟨D, ys, rfl, ⟨_, hs''.extBut _ _ hDC el, rfl, n, rfl⟩, ?_⟩ (fun a e => by cases e; exact hDμ))
  exact (hr.keepBut (by simp) hs'').to fun b o hb e => ⟨fun q => hb (by simp [q]), e⟩

/-- a comprehension stored into a plain local name of the same row -/
theorem Ex.assignC2 {elt iter i2 : Expr} {x x2 y : Str} {px px2 py : Pos} {scope : Scope} {cl : List (Str × Addr)} {cpos pos : Pos} {ds : List PyData} {rest : List Stmt} (ρf : Rho)
    (g : PyData → List PyData) (f : PyData → PyData → PyData)
    (hi : EvI c A env ρ σ iter ds) (hs : ∀ x, foldedSetIterable iter env x = pure x) (hclos : closureFor scope env = pure cl) (hcell : ∀ y ∈ scope.names, y.2 ≠ .cell) (hkind : scope.kind = .function)
    (hnames : ∀ y ∈ scope.names, y.2 = .local → scope.names.lookup y.1 = some .local) (hx : scope.names.lookup x = some .local) (hx2 : scope.names.lookup x2 = some .local) (hxx : (x == x2) = false)
    (hfree : ∀ C, FreeOK env (compEnvC scope cl C env) ρ ρf x)
    (hs2 : ∀ C x, foldedSetIterable i2 (compEnvC scope cl C env) x = pure x)
    (ht : ∀ d, d ∈ ds → ∀ C, EvI c A (compEnvC scope cl C env) ((x, d) :: ρf) [] i2 (g d))
    (he : ∀ d, d ∈ ds → ∀ d2, d2 ∈ g d → ∀ C, Ev c A (compEnvC scope cl C env) ((x2, d2) :: (x, d) :: ρf) [] elt (f d d2)) (hz : (ds.flatMap g).length ≤ sizeLine)
    (hk : Slotted env y) (hy : σ.lookup y = none) (hsw : swapsWith (.ListComp elt [⟨.Name x px, iter, [], 0⟩, ⟨.Name x2 px2, i2, [], 0⟩] scope cpos) (some (.Name y py)) pos.line env = pure true)
    (hn : Ex c A env (upd ρ y (.list (ds.flatMap fun d => (g d).map (f d)))) σ rest P) :
    Ex c A env ρ σ (.Assign [.Name y py] (.ListComp elt [⟨.Name x px, iter, [], 0⟩, ⟨.Name x2 px2, i2, [], 0⟩] scope cpos) pos :: rest) P := by
  refine Ex.step ?_ hn
  intro s₀ μ₀ s S E
  obtain ⟨m, cm, ν, S⟩ := S
  rw [exec_Assign_Name_used _ _ _ _ hsw]
  refine wpAny_bind (wpAny_standAt (wpAny_bind ?_))
  show wpAny _ A (comprehension _ _ _ _ _ _ _ (some (PySem.assign (.Name y py) env)) >>= fun _ => pure ()) _ _ _
  refine wpAny_bind (comp_core2 (use := some (PySem.assign (.Name y py) env)) g f hi hs hclos hcell hkind hnames hx hx2 hxx hfree hs2 ht he hz S.env fun D C h' tk m' ys dD dC hDC hDμ hnC hl hr k => ?_)
  obtain ⟨oC, _, _, hoC, _⟩ := id hnC
  obtain ⟨n, el⟩ := hl
  obtain ⟨S1, kb⟩ := S.hideNew (wr := [C]) (tk := tk) k (fun a ha => by simp at ha; subst ha; exact dC) (fun a ha => by simp at ha; subst ha; exact ⟨_, hoC⟩)
  have hCh : C ∉ hid env ν [] := fun q => by
    have : C ∈ hid env ν μ₀ := by
      rcases mem_hid.mp q with q | q | q | q
      · exact mem_hid.mpr (.inl q)
      · exact mem_hid.mpr (.inr (.inl q))
      · exact mem_hid.mpr (.inr (.inr (.inl q)))
      · cases q
    obtain ⟨o, e⟩ := S.live C this
    rw [dC] at e; cases e
  refine wpAny_assign_Name (S1.store hk hy (d := .list (ds.flatMap fun d => (g d).map (f d))) ?_ fun s' S' => ?_)
  · refine LsAt.rd' ⟨D, ys, rfl, ⟨_, el, rfl, n, rfl⟩, hr.to fun b o hb e => ⟨fun q => hb ?_, e⟩⟩ fun a e q => ?_
    · rcases mem_hid.mp q with q | q | q | q
      · exact List.mem_cons_of_mem _ (List.mem_cons_of_mem _ (mem_hid.mpr (.inl q)))
      · exact List.mem_cons_of_mem _ (List.mem_cons_of_mem _ (mem_hid.mpr (.inr (.inl q))))
      · exact List.mem_cons_of_mem _ (List.mem_cons_of_mem _ (mem_hid.mpr (.inr (.inr (.inl q)))))
      · rcases List.mem_append.mp q with q | q
        · simp at q; rw [q]; exact List.mem_cons_self
        · exact List.mem_cons_of_mem _ (List.mem_cons_of_mem _ (mem_hid.mpr (.inr (.inr (.inr q)))))
    · cases e
      rcases mem_hid.mp q with q | q | q | q
      · exact hDμ (mem_hid.mpr (.inl q))
      · exact hDμ (mem_hid.mpr (.inr (.inl q)))
      · exact hDμ (mem_hid.mpr (.inr (.inr (.inl q))))
      · rcases List.mem_append.mp q with q | q
        · simp at q; exact hDC q
        · exact hDμ (mem_hid.mpr (.inr (.inr (.inr q))))
  · obtain ⟨m2, cm2, ν2, S2⟩ := S'
    refine ⟨m', hnC.at' fun o e => S2.ic.keep C o (hideAll_get _ e hCh), fun h'' hs'' => wpAny_pure (wpAny_pure ⟨_, _, ⟨rfl, rfl, rfl⟩, m2, cm2, ν2, ?_⟩)⟩
    have := S2.leave (wr := [C]) (h₁ := h'') (tk := s'.toks) S.gk kb S.out (fun a ha => by simp at ha; subst ha; exact none_back S.ic.keep dC) fun a o ha e => hs''.extBut a o (fun q => ha (by simp [q])) e
    exact this
end
end Mine

end PartB16
section PartS2
open PySem PySem.W PyProof.Rows
namespace Mine
/-- the signs whose two cases are known here -/
def pc (k : Nat) : Bool := decide (k < 128) || (decide (1632 ≤ k) && decide (k ≤ 1641))
def lowL (l : List Nat) : List Nat := l.map lo1
def upL (l : List Nat) : List Nat := l.map up1
theorem range_ind {P : Nat → Prop} (h1 : ∀ c, c < 128 → P c) (h2 : ∀ c, c < 10 → P (1632 + c)) : ∀ c, pc c = true → P c := fun c h => by
  unfold pc at h
  simp only [Bool.or_eq_true, decide_eq_true_eq, Bool.and_eq_true] at h
  rcases h with h | ⟨a, b⟩
  · exact h1 c h
  · have := h2 (c - 1632) (by omega)
    rwa [show 1632 + (c - 1632) = c by omega] at this
theorem low_pc : ∀ c, pc c = true → Unicode.lowerOf c = [lo1 c] := range_ind lowerOf_ascii (by decide +kernel)
theorem up_pc : ∀ c, pc c = true → Unicode.upperOf c = [up1 c] := range_ind upperOf_ascii (by decide +kernel)
theorem low_mk {l : List Nat} (h : ∀ k ∈ l, pc k = true) : Txt.lower (mkS l) = mkS (lowL l) := by
  unfold Txt.lower
  rw [placed_single (mkS l) _ lo1 fun i c hc => by
    have hc' : (mkS l).cps[i]? = some c := by simpa using hc
    have hp := h c (List.mem_of_getElem? hc)
    unfold Unicode.lowerAt
    rw [hc']
    have hne : (c == 0x3A3) = false := by
      rw [beq_eq_false_iff_ne]; rintro rfl; revert hp; decide
    simp only [hne, Bool.false_and, Bool.false_eq_true, if_false]
    exact low_pc c hp]
  simp [mkS, lowL]
theorem up_mk {l : List Nat} (h : ∀ k ∈ l, pc k = true) : Txt.upper (mkS l) = mkS (upL l) := by
  unfold Txt.upper
  rw [placed_single (mkS l) _ up1 fun i c hc => up_pc c (h c (List.mem_of_getElem? hc))]
  simp [mkS, upL]
theorem pc_up : ∀ c, pc c = true → pc (up1 c) = true := range_ind (by decide +kernel) (by decide +kernel)
theorem pc_low : ∀ c, pc c = true → pc (lo1 c) = true := range_ind (by decide +kernel) (by decide +kernel)
theorem lo_up (c : Nat) : lo1 (up1 c) = lo1 c := by 
  unfold lo1 up1; repeat' split
  all_goals omega
theorem lo_lo (c : Nat) : lo1 (lo1 c) = lo1 c := by
  unfold lo1; repeat' split
  all_goals omega
theorem lo_46 {c : Nat} : lo1 c = 46 ↔ c = 46 := by unfold lo1; split <;> omega
theorem low_up (l : List Nat) : lowL (upL l) = lowL l := by
  unfold lowL upL; rw [List.map_map]; exact List.map_congr_left fun c _ => lo_up c
theorem low_low (l : List Nat) : lowL (lowL l) = lowL l := by
  unfold lowL; rw [List.map_map]; exact List.map_congr_left fun c _ => lo_lo c
theorem low_len (l : List Nat) : (lowL l).length = l.length := by simp [lowL]
theorem up_len (l : List Nat) : (upL l).length = l.length := by simp [upL]
theorem low_free {l : List Nat} : 46 ∈ lowL l ↔ 46 ∈ l := by
  unfold lowL; rw [List.mem_map]
  constructor
  · rintro ⟨a, ha, e⟩; rw [← lo_46.mp e]; exact ha
  · intro h; exact ⟨46, h, rfl⟩
theorem low_app (a b : List Nat) : lowL (a ++ b) = lowL a ++ lowL b := by simp [lowL]
theorem low_dots : ∀ ps : List (List Nat), lowL (dots ps) = dots (ps.map lowL)
  | [] => rfl
  | [p] => rfl
  | p :: q :: r => by
    rw [dots_cons p _ (by simp), low_app, List.map_cons, List.map_cons, dots_cons (lowL p) _ (by simp), ← List.map_cons, ← low_dots (q :: r)]; rfl
theorem up_dots : ∀ ps : List (List Nat), upL (dots ps) = dots (ps.map upL)
  | [] => rfl
  | [p] => rfl
  | p :: q :: r => by
    have h : ∀ a b : List Nat, upL (a ++ b) = upL a ++ upL b := fun a b => by simp [upL]
    rw [dots_cons p _ (by simp), h, List.map_cons, List.map_cons, dots_cons (upL p) _ (by simp), ← List.map_cons, ← up_dots (q :: r)]; rfl

def occ (b : List Nat) : List Nat → Bool
  | [] => b.isPrefixOf []
  | k :: r => b.isPrefixOf (k :: r) || occ b r
theorem occ_iff (b : List Nat) : ∀ a, occ b a = true ↔ ∃ i, i ≤ a.length ∧ b <+: a.drop i
  | [] => by
    unfold occ; rw [List.isPrefixOf_iff_prefix]
    constructor
    · intro h; exact ⟨0, Nat.le_refl _, h⟩
    · rintro ⟨i, _, h⟩; simpa using h
  | k :: r => by
    unfold occ; rw [Bool.or_eq_true, List.isPrefixOf_iff_prefix, occ_iff b r]
    constructor
    · rintro (h | ⟨i, hi, h⟩)
      · exact ⟨0, by simp, h⟩
      · exact ⟨i + 1, by simp; omega, h⟩
    · rintro ⟨i, hi, h⟩
      cases i with
      | zero => exact .inl h
      | succ i => exact .inr ⟨i, by simpa using hi, h⟩
theorem at_iff (a b : List Nat) (i : Nat) : StrLaws.At (mkS a) (mkS b) (mkS a).length i ↔ i ≤ a.length ∧ b <+: a.drop i := by
  unfold StrLaws.At
  rw [StrLaws.subAt_eq, mkS_len, mkS_len, beq_iff_eq]
  show _ ∧ (a.drop i).take b.length = b ↔ _
  constructor
  · rintro ⟨h1, h2⟩
    exact ⟨by omega, h2 ▸ List.take_prefix _ _⟩
  · rintro ⟨h1, h2⟩
    have hl := h2.length_le
    simp at hl
    exact ⟨by omega, (List.prefix_iff_eq_take.mp h2).symm⟩
theorem rfind_occ {a : List Nat} (b : List Nat) (ha : a ≠ []) : ((Txt.rfind (mkS a) (mkS b) == -1) || (Txt.rfind (mkS a) (mkS b) == 0)) = !occ b a.tail := by
  have key : occ b a.tail = true ↔ ∃ k, 0 < k ∧ StrLaws.At (mkS a) (mkS b) (mkS a).length k := by
    rw [occ_iff]
    constructor
    · rintro ⟨i, hi, h⟩
      refine ⟨i + 1, by omega, (at_iff a b (i + 1)).mpr ?_⟩
      cases a with
      | nil => exact absurd rfl ha
      | cons x y => exact ⟨by simpa using hi, by simpa using h⟩
    · rintro ⟨k, hk, h⟩
      have h := (at_iff a b k).mp h
      cases a with
      | nil => exact absurd rfl ha
      | cons x y =>
        cases k with
        | zero => omega
        | succ k => exact ⟨k, by simpa using h.1, by simpa using h.2⟩
  unfold Txt.rfind
  rcases StrLaws.last_spec (mkS a) (mkS b) with ⟨e, h⟩ | ⟨i, e, h1, h2⟩
  · rw [e]
    have : occ b a.tail = false := by
      cases ho : occ b a.tail with
      | false => rfl
      | true => obtain ⟨k, _, hk⟩ := key.mp ho; exact absurd hk (h k)
    rw [this]; rfl
  · rw [e]
    cases i with
    | zero =>
      have : occ b a.tail = false := by
        cases ho : occ b a.tail with
        | false => rfl
        | true => obtain ⟨k, hk0, hk⟩ := key.mp ho; exact absurd hk (h2 k hk0)
      rw [this]; rfl
    | succ i =>
      have : occ b a.tail = true := key.mpr ⟨i + 1, by omega, h1⟩
      rw [this]
      have h1 : (((i + 1 : Nat) : Int) == -1) = false := by rw [beq_eq_false_iff_ne]; omega
      have h2 : (((i + 1 : Nat) : Int) == 0) = false := by rw [beq_eq_false_iff_ne]; omega
      show ((((i + 1 : Nat) : Int) == -1) || (((i + 1 : Nat) : Int) == 0)) = _
      rw [h1, h2]; rfl
theorem starts_mk (a b : List Nat) : Txt.startswith (mkS a) (mkS b) = b.isPrefixOf a := by
  unfold Txt.startswith
  rw [Bool.eq_iff_iff, Bool.and_eq_true, decide_eq_true_eq, List.isPrefixOf_iff_prefix]
  have := at_iff a b 0
  unfold StrLaws.At at this
  rw [this]; simp
theorem pref_one (b : List Nat) : List.isPrefixOf [46] b = (b.head? == some 46) := by
  cases b with
  | nil => rfl
  | cons x y => simp [List.isPrefixOf]; exact Bool.beq_comm
/-- what domain_match tells -/
def dmL (a b : List Nat) : Bool :=
  lowL a == lowL b || (isHDN (lowL a) && (occ (lowL b) (lowL a).tail && ((lowL b).head? == some 46 && isHDN (lowL b).tail)))

/-- the joined pieces begin with the joined pieces -/
def prefD : List (List Nat) → List (List Nat) → Bool
  | [], _ => false
  | _ :: _, [] => false
  | [b], c :: _ => b.isPrefixOf c
  | b :: b' :: bs, c :: cs => b == c && prefD (b' :: bs) cs
theorem prefix_free {c l : List Nat} : ∀ {b : List Nat}, 46 ∉ b → (b <+: c ++ 46 :: l ↔ b <+: c) := by
  induction c with
  | nil =>
    intro b hb
    cases b with
    | nil => simp
    | cons k b =>
      simp only [List.nil_append, List.cons_prefix_cons]
      constructor
      · rintro ⟨e, _⟩; exact absurd (by simp [e]) hb
      · intro h; exact absurd h (by simp)
  | cons j c ih =>
    intro b hb
    cases b with
    | nil => simp
    | cons k b =>
      simp only [List.cons_append, List.cons_prefix_cons]
      rw [ih fun h => hb (List.mem_cons_of_mem _ h)]
theorem prefix_cut {b c : List Nat} (hb : 46 ∉ b) (hc : 46 ∉ c) : ∀ {x y : List Nat}, b ++ 46 :: x <+: c ++ 46 :: y ↔ b = c ∧ x <+: y := by
  induction b generalizing c with
  | nil =>
    intro x y
    cases c with
    | nil => simp
    | cons k c =>
      simp only [List.nil_append, List.cons_append, List.cons_prefix_cons]
      constructor
      · rintro ⟨e, _⟩; exact absurd (by simp [e]) hc
      · rintro ⟨e, _⟩; cases e
  | cons j b ih =>
    intro x y
    cases c with
    | nil =>
      simp only [List.nil_append, List.cons_append, List.cons_prefix_cons]
      constructor
      · rintro ⟨e, _⟩; exact absurd (by simp [e]) hb
      · rintro ⟨e, _⟩; cases e
    | cons k c =>
      simp only [List.cons_append, List.cons_prefix_cons]
      rw [ih (fun h => hb (List.mem_cons_of_mem _ h)) (fun h => hc (List.mem_cons_of_mem _ h))]
      constructor
      · rintro ⟨a, b, d⟩; exact ⟨by rw [a, b], d⟩
      · rintro ⟨a, d⟩; cases a; exact ⟨rfl, rfl, d⟩
theorem pref_dots : ∀ (bs cs : List (List Nat)), bs ≠ [] → cs ≠ [] → (∀ p ∈ bs, 46 ∉ p) → (∀ p ∈ cs, 46 ∉ p) → (dots bs <+: dots cs ↔ prefD bs cs = true)
  | [b], [c], _, _, _, _ => by unfold prefD; rw [List.isPrefixOf_iff_prefix]; rfl
  | [b], c :: c' :: cs, _, _, hb, hc => by
    unfold prefD; rw [List.isPrefixOf_iff_prefix, dots_cons c _ (by simp)]
    exact prefix_free (hb b (by simp))
  | b :: b' :: bs, [c], _, _, hb, hc => by
    rw [dots_cons b _ (by simp)]
    constructor
    · intro h
      have : 46 ∈ dots [c] := h.subset (by simp)
      exact absurd this (hc c (by simp))
    · intro h; simp [prefD] at h
  | b :: b' :: bs, c :: c' :: cs, _, _, hb, hc => by
    rw [dots_cons b _ (by simp), dots_cons c _ (by simp), prefix_cut (hb b (by simp)) (hc c (by simp)),
      pref_dots (b' :: bs) (c' :: cs) (by simp) (by simp) (fun p hp => hb p (List.mem_cons_of_mem _ hp)) (fun p hp => hc p (List.mem_cons_of_mem _ hp))]
    simp [prefD]
def anyTail (p : List (List Nat) → Bool) : List (List Nat) → Bool
  | [] => false
  | c :: cs => p (c :: cs) || anyTail p cs
theorem occ_skip {b : List Nat} : ∀ {c l : List Nat}, 46 ∉ c → occ (46 :: b) (c ++ 46 :: l) = (List.isPrefixOf b l || occ (46 :: b) l)
  | [], l, _ => by
    show ((46 :: b).isPrefixOf (46 :: l) || occ (46 :: b) l) = _
    simp [List.isPrefixOf]
  | k :: c, l, h => by
    have hk : k ≠ 46 := fun e => h (by simp [e])
    show ((46 :: b).isPrefixOf (k :: (c ++ 46 :: l)) || occ (46 :: b) (c ++ 46 :: l)) = _
    rw [occ_skip fun q => h (List.mem_cons_of_mem _ q)]
    have : (46 :: b).isPrefixOf (k :: (c ++ 46 :: l)) = false := by
      simp [List.isPrefixOf]; intro e; exact absurd e.symm hk
    rw [this, Bool.false_or]
theorem occ_none {b : List Nat} : ∀ {c : List Nat}, 46 ∉ c → occ (46 :: b) c = false
  | [], _ => rfl
  | k :: c, h => by
    have hk : k ≠ 46 := fun e => h (by simp [e])
    show ((46 :: b).isPrefixOf (k :: c) || occ (46 :: b) c) = _
    rw [occ_none fun q => h (List.mem_cons_of_mem _ q)]
    simp [List.isPrefixOf]; intro e; exact absurd e.symm hk
theorem occ_dots {bs : List (List Nat)} (hb0 : bs ≠ []) (hb : ∀ p ∈ bs, 46 ∉ p) : ∀ (c : List Nat) (cs : List (List Nat)), 46 ∉ c → (∀ p ∈ cs, 46 ∉ p) → occ (46 :: dots bs) (dots (c :: cs)) = anyTail (prefD bs) cs
  | c, [], hc, _ => by
    show occ (46 :: dots bs) c = false
    exact occ_none hc
  | c, c' :: cs, hc, hcs => by
    rw [dots_cons c _ (by simp), occ_skip hc, occ_dots hb0 hb c' cs (hcs c' (by simp)) (fun p hp => hcs p (List.mem_cons_of_mem _ hp))]
    show _ = (prefD bs (c' :: cs) || anyTail (prefD bs) cs)
    congr 1
    rw [Bool.eq_iff_iff, List.isPrefixOf_iff_prefix]
    exact pref_dots bs (c' :: cs) hb0 (by simp) hb hcs
theorem low_mem_free {ps : List (List Nat)} (h : ∀ p ∈ ps, 46 ∉ p) : ∀ p ∈ ps.map lowL, 46 ∉ p := fun p hp => by
  obtain ⟨q, hq, rfl⟩ := List.mem_map.mp hp
  exact fun e => h q hq (low_free.mp e)
theorem dots_head {c : List Nat} (cs : List (List Nat)) (hc : 46 ∉ c) (h0 : c ≠ []) : (dots (c :: cs)).head? = c.head? ∧ dots (c :: cs) ≠ [] := by
  cases cs with
  | nil => exact ⟨rfl, h0⟩
  | cons c' cs =>
    rw [dots_cons c _ (by simp)]
    cases c with
    | nil => exact absurd rfl h0
    | cons a b => exact ⟨rfl, by simp⟩
/-- a host that begins with no dot, asked for a dot and pieces -/
theorem dm_dot {c : List Nat} {cs bs : List (List Nat)} (hc0 : c ≠ []) (hc : 46 ∉ c) (hcs : ∀ p ∈ cs, 46 ∉ p) (hb0 : bs ≠ []) (hb : ∀ p ∈ bs, 46 ∉ p) :
    dmL (dots (c :: cs)) (46 :: dots bs) = (isHDN (dots ((c :: cs).map lowL)) && isHDN (dots (bs.map lowL)) && anyTail (prefD (bs.map lowL)) (cs.map lowL)) := by
  unfold dmL
  have e1 : lowL (46 :: dots bs) = 46 :: dots (bs.map lowL) := by rw [← low_dots]; rfl
  rw [e1, low_dots]
  have hb' := low_mem_free hb
  have hb0' : bs.map lowL ≠ [] := by simpa using hb0
  have hcs' := low_mem_free hcs
  have hc' : 46 ∉ lowL c := fun e => hc (low_free.mp e)
  have hc0' : lowL c ≠ [] := by simpa [lowL] using hc0
  generalize bs.map lowL = B at *
  rw [List.map_cons]
  generalize cs.map lowL = C at *
  generalize lowL c = d at *
  have hne : (dots (d :: C) == 46 :: dots B) = false := by
    rw [beq_eq_false_iff_ne]; intro e
    have := (dots_head C hc' hc0').1
    rw [e] at this
    exact hc' (by
      cases d with
      | nil => exact absurd rfl hc0'
      | cons x y => simp at this; simp [this])
  have ht : occ (46 :: dots B) (dots (d :: C)).tail = anyTail (prefD B) C := by
    rw [← occ_dots hb0' hb' d C hc' hcs']
    cases d with
    | nil => exact absurd rfl hc0'
    | cons x y =>
      have hx : x ≠ 46 := fun e => hc' (by simp [e])
      have : dots ((x :: y) :: C) = x :: (dots ((x :: y) :: C)).tail := by
        cases C with
        | nil => rfl
        | cons p q => rw [dots_cons _ _ (by simp)]; rfl
      rw [this]
      show occ _ _ = ((46 :: dots B).isPrefixOf (x :: _) || occ _ _)
      have : (46 :: dots B).isPrefixOf (x :: (dots ((x :: y) :: C)).tail) = false := by
        simp [List.isPrefixOf]; intro e; exact absurd e.symm hx
      rw [this, Bool.false_or]; rfl
  rw [hne, ht]
  show (false || (isHDN (dots (d :: C)) && (anyTail (prefD B) C && (true && isHDN (dots B))))) = _
  cases isHDN (dots (d :: C)) <;> cases anyTail (prefD B) C <;> cases isHDN (dots B) <;> rfl
/-- asked for a name that begins with no dot: equal or not -/
theorem dm_plain {a b : List Nat} (h : b.head? ≠ some 46) : dmL a b = (lowL a == lowL b) := by
  unfold dmL
  have : ((lowL b).head? == some 46) = false := by
    rw [beq_eq_false_iff_ne]
    cases b with
    | nil => simp [lowL]
    | cons x y =>
      simp only [lowL, List.map_cons, List.head?_cons, ne_eq, Option.some.injEq]
      intro e; exact h (by simp [lo_46.mp e])
  rw [this]; simp
end Mine

end PartS2
section PartB17
open PySem PySem.W PyProof.Rows
namespace Mine
section
variable {c : Cx} {A : Around} {env : Env} {ρ : Rho} {σ : Sig} {P : Fl → Rho → Sig → Prop}
theorem noPy {a b : Int} (h : b.natAbs < 2 ^ 64) (h0 : b ≠ 0) : Builtin.divisionGoesByPylong a b = false := by
  unfold Builtin.divisionGoesByPylong
  have h1 : b.natAbs.log2 < 64 := (Nat.log2_lt (by omega)).mpr h
  have h2 : (b == 0) = false := by simpa using h0
  simp only [h2]
  simp
  intro h; omega
theorem fmod_in (x : Int) {n : Int} (hn : 0 < n) : 0 ≤ x.fmod n ∧ x.fmod n < n := ⟨Int.fmod_nonneg_of_pos x hn, Int.fmod_lt_of_pos x hn⟩
theorem canLayInts : ∀ ns : List Int, PyData.canLayAll0 (ns.map .int) = true := canLay_ints
/-- len of a list in hand -/
theorem Ev.lenL {x np pos e ds} (hx : env.kindOf x = some .globalImplicit) (hd : (x == ("__debug__" : Str)) = false) (hg : nsIn c.K mainGlobals x = some none) (hb : bootBuiltins x = some (.builtin "len")) (hn : x ≠ ("__name__" : Str))
    (h : EvL c A env ρ σ e ds) (hz : ds.length ≤ sizeLine) (hs : starEach [e] env = [(false, eval e env)]) : Ev c A env ρ σ (.Call (.Name x np) [e] [] pos) (.int ds.length) := fun μ s ok Q E hQ => by
  refine Call_Name rfl (ld_builtin ok hx hd hg hb hn ?_)
  rw [show backTo pos (starEach [e] env) = [(false, eval e env)] by rw [hs]; rfl]
  refine Calls.callWith_builtin rfl (Calls.evalArgs_plain (Calls.spliced_cons (h μ s ok _ _ fun v g t k r => Calls.spliced_nil ?_)))
  obtain ⟨a, its, rfl, hl, ra⟩ := r
  have e : its.size = ds.length := by simpa using ra.length
  rw [sizeLine_eq] at hz
  exact Calls.call_len_list (s := { s with heap := g, toks := t }) hl (by rw [e]; omega) (by rw [e]; exact hQ _ g _ k rd_int)

/-- the cells that the laws read off a script -/
def cellF (M : Int) : Nat → List Int → Int → List Int
  | 0, cs, _ => cs
  | n + 1, cs, r => if r == 0 || r == -1 then cs else cellF M n (cs ++ [r.fmod M]) (r.fdiv M)
def cellStep (M : Int) (C : Nat) (cs : List Int) (x : Int) : List Int := cellF M (C - (cs.length + 1)) (cs ++ [x.fmod M]) (x.fdiv M)
def cellsL (M : Int) (C : Nat) (ns : List Int) : List Int := ns.foldl (cellStep M C) []
theorem cellF_ok {M : Int} (hM : 0 < M) (C B : Nat) : ∀ (n : Nat) (cs : List Int) (r : Int), cs.length ≤ B → C ≤ B → n = C - cs.length → (∀ k ∈ cs, 0 ≤ k ∧ k < M) → (cellF M n cs r).length ≤ B ∧ ∀ k ∈ cellF M n cs r, 0 ≤ k ∧ k < M
  | 0, cs, r, h, _, _, h2 => ⟨h, h2⟩
  | n + 1, cs, r, h, hC, hn, h2 => by
    unfold cellF
    split
    · exact ⟨h, h2⟩
    · refine cellF_ok hM C B n _ _ (by simp; omega) hC (by simp; omega) fun k hk => ?_
      rcases List.mem_append.mp hk with hk | hk
      · exact h2 k hk
      · simp at hk; rw [hk]; exact fmod_in r hM
theorem cellStep_ok {M : Int} (hM : 0 < M) {C B : Nat} {cs : List Int} (x : Int) (h : cs.length ≤ B) (hC : C ≤ B) (h2 : ∀ k ∈ cs, 0 ≤ k ∧ k < M) : (cellStep M C cs x).length ≤ B + 1 ∧ ∀ k ∈ cellStep M C cs x, 0 ≤ k ∧ k < M := by
  unfold cellStep
  refine cellF_ok hM C (B + 1) _ _ _ (by simp; omega) (by omega) (by simp) fun k hk => ?_
  rcases List.mem_append.mp hk with hk | hk
  · exact h2 k hk
  · simp at hk; rw [hk]; exact fmod_in x hM
theorem cellsL_ok {M : Int} (hM : 0 < M) (C : Nat) (ns : List Int) : (cellsL M C ns).length ≤ C + ns.length ∧ ∀ k ∈ cellsL M C ns, 0 ≤ k ∧ k < M := by
  unfold cellsL
  suffices h : ∀ (ns : List Int) (cs : List Int) (B : Nat), C ≤ B → cs.length ≤ B → (∀ k ∈ cs, 0 ≤ k ∧ k < M) → ((ns.foldl (cellStep M C) cs).length ≤ B + ns.length ∧ ∀ k ∈ ns.foldl (cellStep M C) cs, 0 ≤ k ∧ k < M) from h ns [] C (Nat.le_refl _) (by simp) (by simp)
  intro ns
  induction ns with
  | nil => intro cs B _ h h2; exact ⟨h, h2⟩
  | cons x ns ih =>
    intro cs B hC h h2
    have := cellStep_ok hM x h hC h2
    have := ih (cellStep M C cs x) (B + 1) (by omega) this.1 this.2
    exact ⟨by have := this.1; simp only [List.foldl_cons, List.length_cons]; omega, this.2⟩
theorem cellF_le {M : Int} (C : Nat) : ∀ (n : Nat) (cs : List Int) (r : Int), cs.length ≤ (cellF M n cs r).length
  | 0, cs, r => Nat.le_refl _
  | n + 1, cs, r => by
    unfold cellF; split
    · exact Nat.le_refl _
    · have := cellF_le (M := M) C n (cs ++ [r.fmod M]) (r.fdiv M); simp at this; omega
theorem upd_cons {α : Type} (y : Str) (e : α) (r : List (Str × α)) (x : Str) (d : α) : upd ((y, e) :: r) x d = if x == y then (y, d) :: r else (y, e) :: upd r x d := rfl
theorem upd_upd {α : Type} : ∀ (l : List (Str × α)) (x : Str) (a b : α), upd (upd l x a) x b = upd l x b
  | [], x, a, b => by simp [upd]
  | (y, e) :: r, x, a, b => by
    rw [upd_cons, upd_cons]
    by_cases h : (x == y) = true
    · rw [if_pos h, if_pos h, upd_cons, if_pos h]
    · rw [if_neg h, if_neg h, upd_cons, if_neg h, upd_upd r x a b]
theorem look_here {α : Type} (l : List (Str × α)) (x : Str) (a : α) : (upd l x a).lookup x = some a := by rw [upd_lookup]; simp
theorem look_else {α : Type} {l : List (Str × α)} {x y : Str} {a : α} (h : (y == x) = false) : (upd l x a).lookup y = l.lookup y := by rw [upd_lookup, h]; rfl
theorem notin_ends {r : Int} (hu : A.units + 100 < cLine) : CmpOK c A .NotIn (.int r) (.tuple [.int 0, .int (-1)]) (!(r == 0 || r == -1)) := by
  have h : ([PyData.int 0, .int (-1)].any fun y => PyData.eqv y (.int r)) = (r == 0 || r == -1) := by
    show ((0 == r) || ((-1 == r) || false)) = _
    rw [Bool.or_false, Bool.beq_comm (a := r), Bool.beq_comm (a := r)]
  have := CmpOK.notIn_tuple (c := c) (A := A) (d := .int r) (xs := [.int 0, .int (-1)]) rfl rfl (by
    have h0 : PyData.depth (.int r) = 0 := rfl
    rw [h0]; omega)
  rwa [h] at this

theorem Ex.cells {cn : Str} {e1 e2 e3 e4 : Expr} {M : Int} {C : Nat} {ns : List Int} {rest : List Stmt}
    {p1 p2 p3 p4 p5 p6 p7 p8 p9 q1 q2 q3 q4 q5 q6 q7 q8 q9 r1 r2 r3 r4 r5 r6 r7 r8 r9 t1 t2 t3 : Pos}
    {u0 u1 u2 u3 : Nat} {t4 t5 t6 t7 t8 t9 : Pos}
    (hh : A.handled = none) (hu : A.units + 100 < cLine) (hs : ρ.lookup ("script" : Str) = some (.list (ns.map .int))) (hM0 : 0 < M) (hMb : M.natAbs < 2 ^ 64) (hsz : ns.length + C ≤ 2 ^ 20)
    (m1 : ∀ ρ σ, Ev c A env ρ σ e1 (.int M)) (m2 : ∀ ρ σ, Ev c A env ρ σ e2 (.int M)) (m3 : ∀ ρ σ, Ev c A env ρ σ e3 (.int M)) (m4 : ∀ ρ σ, Ev c A env ρ σ e4 (.int M))
    (kx : Slotted env "x") (kr : Slotted env "rest") (hcn : (cn == ("__debug__" : Str)) = false) (hcx : (("x" : Str) == cn) = false) (hcr : (("rest" : Str) == cn) = false)
    (hl : env.kindOf "len" = some .globalImplicit) (hg : nsIn c.K mainGlobals "len" = some none) (hint : interactive env = false)
    (hl1 : (p3.endLine == p5.line) = true) (hl2 : (r3.endLine == r5.line) = true)
    (hw1 : swapsWith (.Call (.Attribute (.Name cn p1) "append" p3) [.BinOp (.Name "x" p4) .Mod e1 p2] [] p5) none p6.line env = pure false)
    (hw2 : swapsWith (.Call (.Attribute (.Name cn r1) "append" r3) [.BinOp (.Name "rest" r4) .Mod e3 r2] [] r5) none r6.line env = pure false)
    (hw3 : swapsWith (.BinOp (.Name "x" p8) .FloorDiv e2 p9) (some (.Name "rest" p7)) q1.line env = pure false)
    (hw4 : swapsWith (.BinOp (.Name "rest" r8) .FloorDiv e4 r9) (some (.Name "rest" r7)) t1.line env = pure false)
    (hsub : ∀ d1 d2, SubL (upd (upd ρ "x" d1) "rest" d2) ρ)
    (hn : Ex c A env ρ [(cn, (cellsL M C ns).map .int)] rest P) :
    Ex c A env ρ [(cn, [])] (.For (.Name "x" q2) (.Name "script" q3) [
        .Expr (.Call (.Attribute (.Name cn p1) "append" p3) [.BinOp (.Name "x" p4) .Mod e1 p2] [] p5) p6,
        .Assign [.Name "rest" p7] (.BinOp (.Name "x" p8) .FloorDiv e2 p9) q1,
        .While (.BoolOp .And [.Compare (.Name "rest" q4) [.NotIn] [.Tuple [.Constant (.int 0) u0 q5, .UnaryOp .USub (.Constant (.int 1) u1 q6) q7] u2 q8] q9,
          .Compare (.Call (.Name "len" t2) [.Name cn t3] [] t4) [.Lt] [.Constant (.int (C : Int)) u3 t5] t6] t7) [
          .Expr (.Call (.Attribute (.Name cn r1) "append" r3) [.BinOp (.Name "rest" r4) .Mod e3 r2] [] r5) r6,
          .Assign [.Name "rest" r7] (.BinOp (.Name "rest" r8) .FloorDiv e4 r9) t1] [] t8] [] t9 :: rest) P := by
  have hM0' : (M == 0) = false := by rw [beq_eq_false_iff_ne]; omega
  have hMn : M ≠ 0 := by omega
  have hupd : ∀ a b : List PyData, upd [(cn, a)] cn b = [(cn, b)] := fun a b => by simp [upd]
  have hlk : ∀ a : List PyData, ([(cn, a)] : Sig).lookup cn = some a := fun a => by simp
  have hnx : ∀ a : List PyData, ([(cn, a)] : Sig).lookup ("x" : Str) = none := fun a => by rw [List.lookup_cons, hcx]; rfl
  have hnr : ∀ a : List PyData, ([(cn, a)] : Sig).lookup ("rest" : Str) = none := fun a => by rw [List.lookup_cons, hcr]; rfl
  refine Ex.for (ds := ns.map .int) (EvI.list hh (Ev.name hs rfl)) (fun _ => rfl) (fun _ _ => rfl)
    (fun i ρ' σ' => ρ' = ρ ∧ σ' = ([(cn, (cellsL M C (ns.take i)).map .int)] : Sig)) (fun ρ' σ' => ρ' = ρ ∧ σ' = ([(cn, (cellsL M C ns).map .int)] : Sig)) (fun _ => False) ⟨rfl, rfl⟩ ?_ ?_ (fun _ _ h => by obtain ⟨rfl, rfl⟩ := h; exact hn) (fun _ h => h.elim)
  · rintro i d ρ1 _ hd ⟨rfl, rfl⟩
    rw [List.getElem?_map] at hd
    obtain ⟨x, hx, rfl⟩ := Option.map_eq_some_iff.mp hd
    have htake : ns.take (i + 1) = ns.take i ++ [x] := by rw [List.take_succ, hx]; rfl
    have hlen : (ns.take i).length ≤ ns.length := by simp; omega
    have htgt : cellsL M C (ns.take (i + 1)) = cellStep M C (cellsL M C (ns.take i)) x := by rw [htake]; unfold cellsL; rw [List.foldl_append]; rfl
    obtain ⟨hc1, hc2⟩ := cellsL_ok hM0 C (ns.take i)
    rw [htgt]
    generalize cellsL M C (ns.take i) = cs at *
    refine ⟨_, Asg.name kx (hnx _), ?_⟩
    refine Ex.append (hlk _) (Ev.bin (Ev.name (look_here _ _ _) rfl) (m1 _ _) (BinOK.mod_int hM0')) (by rw [sizeLine_eq]; simp; omega) hcn hl1 rfl hint hw1 ?_
    rw [hupd]
    refine Ex.assign (Ev.bin (Ev.name (look_here _ _ _) rfl) (m2 _ _) (BinOK.fdiv_int hM0' (noPy hMb hMn))) kr (hnr _) hw3 ?_
    have e0 : cs.map PyData.int ++ [.int (x.fmod M)] = (cs ++ [x.fmod M]).map .int := by simp
    rw [e0]
    refine Ex.while (fun n ρ' σ' => ∃ cs' r, ρ' = upd (upd ρ1 "x" (.int x)) "rest" (.int r) ∧ σ' = ([(cn, cs'.map .int)] : Sig) ∧ n = C - cs'.length ∧ cs'.length ≤ C + ns.length + 1 ∧ cellF M n cs' r = cellStep M C cs x)
      (fun ρ' σ' => ∃ r, ρ' = upd (upd ρ1 "x" (.int x)) "rest" (.int r) ∧ σ' = ([(cn, (cellStep M C cs x).map .int)] : Sig)) (fun _ => False) (C - (cs.length + 1)) ⟨cs ++ [x.fmod M], x.fdiv M, rfl, rfl, by simp, by simp; omega, rfl⟩ ?_ ?_ (fun _ h => h.elim)
    · rintro n _ _ ⟨cs', r, rfl, rfl, rfl, h1, h3⟩
      have hz : (cs'.map PyData.int).length ≤ sizeLine := by rw [sizeLine_eq]; simp; omega
      refine ⟨!(r == 0 || r == -1) && decide (cs'.length < C), Tst.to (Tst.and (Tst.cmp (Ev.name (look_here _ _ _) rfl) (Ev.tuple (.cons Ev.int (.cons (Ev.neg Ev.int) .nil rfl) rfl) (by rw [sizeLine_eq]; simp)) (notin_ends hu) rfl) fun _ =>
        Tst.and (Tst.cmp (Ev.lenL hl rfl hg rfl (by decide) (EvL.name (hlk _) hcn) hz rfl) Ev.int CmpOK.lt_int rfl) fun _ => Tst.and_nil) ?_, fun hb => ?_, fun hb => ?_⟩
      · rw [Bool.and_true]; congr 1; rw [List.length_map, decide_eq_decide]; omega
      · refine ⟨r, rfl, ?_⟩
        rw [← h3]
        by_cases hC : cs'.length < C
        · rw [decide_eq_true hC, Bool.and_true, Bool.not_eq_false'] at hb
          obtain ⟨n, hn'⟩ : ∃ n, C - cs'.length = n + 1 := ⟨C - cs'.length - 1, by omega⟩
          rw [hn']; unfold cellF; rw [if_pos hb]
        · have : C - cs'.length = 0 := by omega
          rw [this]; rfl
      · rw [Bool.and_eq_true, Bool.not_eq_true', decide_eq_true_eq] at hb
        obtain ⟨n, hn'⟩ : ∃ n, C - cs'.length = n + 1 := ⟨C - cs'.length - 1, by omega⟩
        rw [hn'] at h3
        unfold cellF at h3
        rw [if_neg (by rw [hb.1]; simp)] at h3
        refine Ex.append (hlk _) (Ev.bin (Ev.name (look_here _ _ _) rfl) (m3 _ _) (BinOK.mod_int hM0')) hz hcn hl2 rfl hint hw2 ?_
        rw [hupd]
        refine Ex.assign (Ev.bin (Ev.name (look_here _ _ _) rfl) (m4 _ _) (BinOK.fdiv_int hM0' (noPy hMb hMn))) kr (hnr _) hw4 ?_
        rw [upd_upd]
        have e1 : cs'.map PyData.int ++ [.int (r.fmod M)] = (cs' ++ [r.fmod M]).map .int := by simp
        rw [e1]
        exact Ex.nil ⟨n, by omega, cs' ++ [r.fmod M], r.fdiv M, rfl, rfl, by simp; omega, by simp; omega, h3⟩
    · rintro _ _ ⟨r, rfl, rfl⟩
      exact Ex.sub ρ1 [(cn, (cellStep M C cs x).map .int)] (hsub _ _) ⟨hlk _, trivial⟩ (Ex.nil ⟨rfl, rfl⟩)
  · rintro _ _ ⟨rfl, rfl⟩
    rw [List.length_map, List.take_length]; exact ⟨rfl, rfl⟩
end
end Mine

end PartB17
section PartB18
open PySem PySem.W PyProof.Rows
namespace Mine
section
variable {c : Cx} {A : Around} {env : Env} {ρ : Rho} {σ : Sig} {P : Fl → Rho → Sig → Prop}
theorem StP.store1 {s₀ μ₀ m cm ν s x v d A Q E} (S : StP c s₀ env μ₀ ρ σ m cm ν s) (hk : Slotted env x) (hx : σ.lookup x = none) (r : Rd (hid env ν μ₀) s.heap v d)
    (h : ∀ s' m' cm', StP c s₀ env μ₀ (upd ρ x d) σ m' cm' ν s' → (∀ b o, b ∉ hid env ν μ₀ → s.heap.get? b = some o → s'.heap.get? b = some o) → Q () s') : wpAny (model c.prog c.w) A (storeName env x v) Q E s :=
  S.put hk fun s' m' cm' S' V kp kl => h s' m' cm' ⟨S'.ic, S'.gk, S'.fn, S'.gl, S'.bl, S'.cn, fun y d' e => by
      rw [upd_lookup] at e
      by_cases hy : (y == x) = true
      · rw [if_pos hy] at e; cases e
        have := beq_iff_eq.mp hy; subst this
        exact ⟨v, V, r.to fun b o hb e => ⟨hb, kp b o hb e⟩⟩
      · rw [if_neg hy] at e
        exact S'.vars y d' (by rw [del_lookup, if_neg hy]; exact e),
    fun y ds e => S'.muts y ds (by
      rw [del_lookup]
      have : (y == x) = false := by simp only [beq_eq_false_iff_ne]; rintro rfl; rw [hx] at e; cases e
      rw [this]; simpa using e), S'.nd, S'.new, S'.out, S'.lv⟩ kp
theorem ext_kp {h h' : Heap} (e : Heap.ExtBut h.objs.size h h') : Kp h h' := fun b o q => e b o (Nat.ne_of_lt (Heap.lt_size q)) q
theorem two_of {μ : List Addr} {h : Heap} {vs : Array Value} {d1 d2 : PyData} (r : RdAll μ h vs.toList [d1, d2]) : ∃ v1 v2, vs = #[v1, v2] ∧ Rd μ h v1 d1 ∧ Rd μ h v2 d2 := by
  obtain ⟨v1, r1, e1, h1, h2⟩ := r.cons_inv
  obtain ⟨v2, r2, e2, h3, h4⟩ := h2.cons_inv
  have := h4.nil_inv
  refine ⟨v1, v2, ?_, h1, h3⟩
  apply Array.toList_inj.mp
  rw [e1, e2, this]
theorem Asg.tuple2 {x y px py k pos d1 d2} (hh : A.handled = none) (kx : Slotted env x) (ky : Slotted env y) (hx : σ.lookup x = none) (hy : σ.lookup y = none) :
    Asg c A env (.Tuple [.Name x px, .Name y py] k pos) (.tuple [d1, d2]) ρ σ (upd (upd ρ x d1) y d2) := fun s₀ μ₀ m cm ν s v S r Q E hQ => by
  obtain ⟨a, vs, rfl, ht, ra⟩ := r.tup
  obtain ⟨v1, v2, rfl, r1, r2⟩ := two_of ra
  refine assign_Tuple_tuple hh ht rfl rfl fun h' he => ?_
  have kp := ext_kp he
  refine wpAny_assignInOrder_more (assign_Name ((S.grow (tk := s.toks) kp).store1 kx hx (r1.keeps kp) fun s' m' cm' S' kp' => ?_))
  refine wpAny_assignInOrder_more (assign_Name (S'.store ky hy ((r2.keeps kp).to fun b o hb e => ⟨hb, kp' b o hb e⟩) fun s'' S'' => ?_))
  exact wpAny_assignInOrder_none (hQ _ S'')
theorem Ex.assignT {x y px py k tp e pos d1 d2 rest} (h : Ev c A env ρ σ e (.tuple [d1, d2])) (hh : A.handled = none) (kx : Slotted env x) (ky : Slotted env y) (hx : σ.lookup x = none) (hy : σ.lookup y = none)
    (hs : swapsWithSole [.Tuple [.Name x px, .Name y py] k tp] e pos.line env = pure false) (hw : swappedStores [.Tuple [.Name x px, .Name y py] k tp] e env = pure none)
    (hn : Ex c A env (upd (upd ρ x d1) y d2) σ rest P) : Ex c A env ρ σ (.Assign [.Tuple [.Name x px, .Name y py] k tp] e pos :: rest) P := by
  refine Ex.step ?_ hn
  intro s₀ μ₀ s S E
  obtain ⟨m, cm, ν, S⟩ := S
  exact Assign_Tuple (h _ s S.env _ _ fun v g t k r => Asg.tuple2 hh kx ky hx hy s₀ μ₀ m cm ν _ v (S.grow k) r _ _ fun s' S' => ⟨_, _, ⟨rfl, rfl, rfl⟩, S'⟩) hs hw
/-- two names take two values written side by side -/
theorem Ex.assignT2 {x y px py k tp e1 e2 k2 tp2 pos d1 d2 rest} (h1 : Ev c A env ρ σ e1 d1) (h2 : Ev c A env ρ σ e2 d2) (hh : A.handled = none) (kx : Slotted env x) (ky : Slotted env y) (hx : σ.lookup x = none) (hy : σ.lookup y = none)
    (st1 : starEach [e1, e2] env = (false, eval e1 env) :: starEach [e2] env) (st2 : starEach [e2] env = [(false, eval e2 env)])
    (hs : swapsWithSole [.Tuple [.Name x px, .Name y py] k tp] (.Tuple [e1, e2] k2 tp2) pos.line env = pure false) (hw : swappedStores [.Tuple [.Name x px, .Name y py] k tp] (.Tuple [e1, e2] k2 tp2) env = pure (some [x, y]))
    (hn : Ex c A env (upd (upd ρ y d2) x d1) σ rest P) : Ex c A env ρ σ (.Assign [.Tuple [.Name x px, .Name y py] k tp] (.Tuple [e1, e2] k2 tp2) pos :: rest) P := by
  refine Ex.step ?_ hn
  intro s₀ μ₀ s S E
  obtain ⟨m, cm, ν, S⟩ := S
  refine Assign_Tuple_swapped ((Ev.tuple (.cons h1 (.cons h2 .nil st2) st1) (by rw [sizeLine_eq]; simp)) _ s S.env _ _ fun v g t kp0 r => ?_) hs hw
  obtain ⟨a, vs, rfl, ht, ra⟩ := r.tup
  obtain ⟨v1, v2, rfl, r1, r2⟩ := two_of ra
  refine unpackItems_tuple (items := #[v1, v2]) (s := { s with heap := g, toks := t }) hh ht fun h' he => ?_
  have kp : Kp g h' := ext_kp he
  refine wpAny_assignInOrder_more (bindName_ ((S.grow (h' := h') (tk := t) (kp0.trans kp)).store1 ky hy (r2.keeps kp) fun s' m' cm' S' kp' => ?_))
  refine wpAny_assignInOrder_more (bindName_ (S'.store kx hx ((r1.keeps kp).to fun b o hb e => ⟨hb, kp' b o hb e⟩) fun s'' S'' => ?_))
  exact wpAny_assignInOrder_none ⟨_, _, ⟨rfl, rfl, rfl⟩, S''⟩
end
end Mine

end PartB18
section PartB19
open PySem PySem.W PyProof.Rows
namespace Mine
section
variable {c : Cx} {A : Around} {env : Env} {ρ : Rho} {σ : Sig} {P : Fl → Rho → Sig → Prop}
theorem ints_back {μ : List Addr} {h : Heap} : ∀ {ns : List Int} {vs : List Value}, RdAll μ h vs (ns.map .int) → ∃ ys : List (Int × Tok), vs = ys.map (fun p => Value.int p.1 p.2) ∧ ys.map (·.1) = ns
  | [], vs, r => ⟨[], by rw [r.nil_inv]; rfl, rfl⟩
  | n :: ns, vs, r => by
    obtain ⟨v, vs', rfl, h1, h2⟩ := r.cons_inv
    obtain ⟨t, rfl⟩ := h1.int_inv
    obtain ⟨ys, rfl, e⟩ := ints_back h2
    exact ⟨(n, t) :: ys, rfl, by simp [e]⟩
theorem ints_list {μ : List Addr} {h : Heap} {v : Value} {ns : List Int} (r : Rd μ h v (.list (ns.map .int))) : ∃ a xs, v = .ref a ∧ h.IsList a (intItems xs) ∧ xs.toList.map (·.1) = ns := by
  obtain ⟨a, its, rfl, hl, ra⟩ := r.ls
  obtain ⟨ys, e, e2⟩ := ints_back ra
  refine ⟨a, ys.toArray, rfl, ?_, by simpa using e2⟩
  have : its = intItems ys.toArray := by
    apply Array.toList_inj.mp
    rw [e]; simp [intItems]
  rw [← this]; exact hl
theorem BltTo.sum_ints {ns : List Int} (hh : A.handled = none) : BltTo c A "sum" [.list (ns.map .int)] (.int ns.sum) := fun s vals μ gk lv r Q E hQ => by
  obtain ⟨v, vs, rfl, h1, h2⟩ := r.cons_inv
  rw [h2.nil_inv]
  obtain ⟨a, xs, rfl, hl, e⟩ := ints_list h1
  refine sum_intListG hh hl fun h' tk t' k => ?_
  rw [preSum_eq, List.take_of_length_le (by simp), e]
  exact hQ _ h' tk k rd_int
def maxZ (ns : List Int) : Int := ns.foldl max (ns.headD 0)
def minZ (ns : List Int) : Int := ns.foldl min (ns.headD 0)
theorem foldl_max (a : Int) : ∀ (ns : List Int), (ns.foldl max a = a ∨ ns.foldl max a ∈ ns) ∧ a ≤ ns.foldl max a ∧ ∀ b ∈ ns, b ≤ ns.foldl max a := by
  intro ns
  induction ns generalizing a with
  | nil => exact ⟨.inl rfl, Int.le_refl _, by simp⟩
  | cons n ns ih =>
    obtain ⟨h1, h2, h3⟩ := ih (max a n)
    simp only [List.foldl_cons]
    refine ⟨?_, by omega, fun b hb => ?_⟩
    · rcases h1 with h1 | h1
      · rw [h1]
        rcases Int.le_total a n with h | h
        · right; rw [Int.max_eq_right h]; simp
        · left; exact Int.max_eq_left h
      · right; exact List.mem_cons_of_mem _ h1
    · rcases List.mem_cons.mp hb with rfl | hb
      · omega
      · exact h3 b hb
theorem foldl_min (a : Int) : ∀ (ns : List Int), (ns.foldl min a = a ∨ ns.foldl min a ∈ ns) ∧ ns.foldl min a ≤ a ∧ ∀ b ∈ ns, ns.foldl min a ≤ b := by
  intro ns
  induction ns generalizing a with
  | nil => exact ⟨.inl rfl, Int.le_refl _, by simp⟩
  | cons n ns ih =>
    obtain ⟨h1, h2, h3⟩ := ih (min a n)
    simp only [List.foldl_cons]
    refine ⟨?_, by omega, fun b hb => ?_⟩
    · rcases h1 with h1 | h1
      · rw [h1]
        rcases Int.le_total a n with h | h
        · left; exact Int.min_eq_left h
        · right; rw [Int.min_eq_right h]; simp
      · right; exact List.mem_cons_of_mem _ h1
    · rcases List.mem_cons.mp hb with rfl | hb
      · omega
      · exact h3 b hb
theorem maxZ_spec {ns : List Int} (h : ns ≠ []) : maxZ ns ∈ ns ∧ ∀ b ∈ ns, b ≤ maxZ ns := by
  cases ns with
  | nil => exact absurd rfl h
  | cons n ns =>
    obtain ⟨h1, h2, h3⟩ := foldl_max n (n :: ns)
    exact ⟨h1.elim (fun e => by unfold maxZ; simp only [List.headD_cons]; rw [e]; simp) id, h3⟩
theorem minZ_spec {ns : List Int} (h : ns ≠ []) : minZ ns ∈ ns ∧ ∀ b ∈ ns, minZ ns ≤ b := by
  cases ns with
  | nil => exact absurd rfl h
  | cons n ns =>
    obtain ⟨h1, h2, h3⟩ := foldl_min n (n :: ns)
    exact ⟨h1.elim (fun e => by unfold minZ; simp only [List.headD_cons]; rw [e]; simp) id, h3⟩
theorem numAt_get (xs : Array (Int × Tok)) (i : Nat) : numAt xs i = (xs.toList.map (·.1)).getD i 0 := by
  unfold numAt
  rw [List.getD_eq_getElem?_getD, List.getElem?_map, ← Array.getElem?_toList]
theorem BltTo.max_ints {ns : List Int} (hh : A.handled = none) (hne : ns ≠ []) : BltTo c A "max" [.list (ns.map .int)] (.int (maxZ ns)) := fun s vals μ gk lv r Q E hQ => by
  obtain ⟨v, vs, rfl, h1, h2⟩ := r.cons_inv
  rw [h2.nil_inv]
  obtain ⟨a, xs, rfl, hl, e⟩ := ints_list h1
  have hsz : xs.size = ns.length := by rw [← e]; simp
  have hpos : 0 < ns.length := List.length_pos_iff.mpr hne
  refine max_intList hh hl (by omega) fun v h' tk hv k => ?_
  obtain ⟨t, rfl⟩ := intItems_at hv
  obtain ⟨b1, b2⟩ := argBest_gt (numAt xs) (xs.size - 1)
  have hval : numAt xs (argBest (fun i j => decide (numAt xs i > numAt xs j)) (xs.size - 1)) = maxZ ns := by
    obtain ⟨m1, m2⟩ := maxZ_spec hne
    have hm : numAt xs (argBest (fun i j => decide (numAt xs i > numAt xs j)) (xs.size - 1)) ∈ ns := by
      rw [numAt_get, e]; exact getD_mem (by omega)
    have h1 := m2 _ hm
    obtain ⟨j, hj, ej⟩ := mem_getD m1
    have h2 := b2 j (by omega)
    rw [numAt_get xs j, e, ej] at h2
    omega
  rw [hval]
  exact hQ _ h' tk k rd_int
theorem BltTo.min_ints {ns : List Int} (hh : A.handled = none) (hne : ns ≠ []) : BltTo c A "min" [.list (ns.map .int)] (.int (minZ ns)) := fun s vals μ gk lv r Q E hQ => by
  obtain ⟨v, vs, rfl, h1, h2⟩ := r.cons_inv
  rw [h2.nil_inv]
  obtain ⟨a, xs, rfl, hl, e⟩ := ints_list h1
  have hsz : xs.size = ns.length := by rw [← e]; simp
  have hpos : 0 < ns.length := List.length_pos_iff.mpr hne
  refine min_intList hh hl (by omega) fun v h' tk hv k => ?_
  obtain ⟨t, rfl⟩ := intItems_at hv
  obtain ⟨b1, b2⟩ := argBest_lt (numAt xs) (xs.size - 1)
  have hval : numAt xs (argBest (fun i j => decide (numAt xs i < numAt xs j)) (xs.size - 1)) = minZ ns := by
    obtain ⟨m1, m2⟩ := minZ_spec hne
    have hm : numAt xs (argBest (fun i j => decide (numAt xs i < numAt xs j)) (xs.size - 1)) ∈ ns := by
      rw [numAt_get, e]; exact getD_mem (by omega)
    have h1 := m2 _ hm
    obtain ⟨j, hj, ej⟩ := mem_getD m1
    have h2 := b2 j (by omega)
    rw [numAt_get xs j, e, ej] at h2
    omega
  rw [hval]
  exact hQ _ h' tk k rd_int
theorem BltTo.max_two {a b : Int} (hh : A.handled = none) : BltTo c A "max" [.int a, .int b] (.int (max a b)) := fun s vals μ gk lv r Q E hQ => by
  obtain ⟨v, vs, rfl, h1, h2⟩ := r.cons_inv
  obtain ⟨v2, vs2, rfl, h3, h4⟩ := h2.cons_inv
  rw [h4.nil_inv]
  obtain ⟨t, rfl⟩ := h1.int_inv
  obtain ⟨u, rfl⟩ := h3.int_inv
  refine max_two_ints hh fun h' tk k => ?_
  by_cases hb : b > a
  · rw [if_pos hb, show max a b = b by omega] at *; exact hQ _ h' tk k rd_int
  · rw [if_neg hb, show max a b = a by omega] at *; exact hQ _ h' tk k rd_int
theorem BltTo.min_two {a b : Int} (hh : A.handled = none) : BltTo c A "min" [.int a, .int b] (.int (min a b)) := fun s vals μ gk lv r Q E hQ => by
  obtain ⟨v, vs, rfl, h1, h2⟩ := r.cons_inv
  obtain ⟨v2, vs2, rfl, h3, h4⟩ := h2.cons_inv
  rw [h4.nil_inv]
  obtain ⟨t, rfl⟩ := h1.int_inv
  obtain ⟨u, rfl⟩ := h3.int_inv
  refine min_two_ints hh fun h' tk k => ?_
  by_cases hb : b < a
  · rw [if_pos hb, show min a b = b by omega] at *; exact hQ _ h' tk k rd_int
  · rw [if_neg hb, show min a b = a by omega] at *; exact hQ _ h' tk k rd_int
theorem TypTo.str_int {a : Int} (ha : a.natAbs.log2 < 1920) : TypTo c A "str" [.int a] (.str (Str.ofString (toString a))) := fun s vals μ gk lv r Q E hQ => by
  obtain ⟨v, vs, rfl, h1, h2⟩ := r.cons_inv
  rw [h2.nil_inv]
  obtain ⟨t, rfl⟩ := h1.int_inv
  exact PySem.P.str_of_int ha (hQ _ s.heap _ Kp.rfl rd_str)
end
end Mine

end PartB19
section PartB20
open PySem PySem.W PyProof.Rows
namespace Mine
/-- an iterable that is a list: a for over it may take tuples apart -/
def EvIT (c : Cx) (A : Around) (env : Env) (ρ : Rho) (σ : Sig) (e : Expr) (ds : List PyData) : Prop :=
  ∀ μ s, EnvOK c env μ ρ σ s.heap → ∀ (Q : Value → Shared → Prop) (E : Value → Shared → Prop),
    (∀ I fp wr P W h' tk, Walks c.prog c.w A I fp wr ds.length P W → W 0 h' → (∀ i h, W i h → Live wr h) → (∀ b ∈ wr, s.heap.get? b = none) → (∀ b ∈ fp, b ∉ μ) → Live fp h' →
      (∀ i v, P i v → ∃ d, ds[i]? = some d ∧ Rd (wr ++ μ) h' v d) → Kp s.heap h' → (∀ i h, W i h → ∃ l j, h.IsListIter I l j) → Q (.ref I) { s with heap := h', toks := tk }) →
    wpAny (model c.prog c.w) A (eval e env) (fun x s₁ => wpAny (model c.prog c.w) A (pyIter x) Q E s₁) E s
section
variable {c : Cx} {A : Around} {env : Env} {ρ : Rho} {σ : Sig} {P : Fl → Rho → Sig → Prop}
theorem EvIT.list {e ds} (hh : A.handled = none) (h : Ev c A env ρ σ e (.list ds))   : EvIT c A env ρ σ e ds := fun μ s ok Q E hQ =>
  h μ s ok _ _ fun v g t k r => by
    obtain ⟨as, r⟩ := r
    cases r with
    | list h1 h2 h3 h4 =>
      rename_i a o vs n as
      have hl : g.IsList a vs := ⟨o, of_hideAll μ h1, h2, n, h3⟩
      have ha : a ∉ μ := fun q => by rw [hideAll_none μ q] at h1; cases h1
      have hne : a ≠ g.objs.size := Nat.ne_of_lt (Heap.lt_size (of_hideAll μ h1))
      have ra : RdAll μ g vs.toList ds := ⟨_, h4⟩
      have en : vs.size = ds.length := by simpa using ra.length
      refine wpAny_pyIter_list (s := { s with heap := g, toks := t }) hl ?_
      have W := Walks.list (prog := c.prog) (w := c.w) (A := A) hh g.objs.size a hne vs
      rw [en] at W
      refine hQ _ _ _ _ _ _ _ W ⟨⟨_, Heap.get?_push_size _ rfl, rfl, rfl⟩, hl.push _⟩ ?_ ?_ ?_ ?_ ?_ (k.trans (Kp.push _)) (fun i h' w' => ⟨_, _, w'.1⟩)
      · intro i h' w' b hb
        simp at hb; subst hb
        obtain ⟨⟨o, ho, _⟩, _⟩ := w'; exact ⟨o, ho⟩
      · intro b hb; simp at hb; subst hb
        exact none_back k (none_size g)
      · intro b hb; simp at hb
        rcases hb with rfl | rfl
        · exact (ok.live.keeps k).fresh
        · exact ha
      · intro b hb; simp at hb
        rcases hb with rfl | rfl
        · exact ⟨_, Heap.get?_push_size _ rfl⟩
        · exact ⟨_, Heap.get?_push_of_some _ (of_hideAll μ h1)⟩
      · intro i v hv
        obtain ⟨d, hd, rv⟩ := ra.get' i (v := v) (by simpa using hv)
        exact ⟨d, hd, rd_fresh rv⟩
theorem Ex.forT {elts k tpos iter body pos ds rest} (hi : EvIT c A env ρ σ iter ds) (htup : ∀ d ∈ ds, ∃ xs, d = .tuple xs) (hs : ∀ x, foldedSetIterable iter env x = pure x)
    (I : Nat → Rho → Sig → Prop) (J : Rho → Sig → Prop) (R : PyData → Prop) (h0 : I 0 ρ σ)
    (step : ∀ i d ρ' σ', ds[i]? = some d → I i ρ' σ' → ∃ ρ'', Asg c A env (.Tuple elts k tpos) d ρ' σ' ρ'' ∧ Ex c A env ρ'' σ' body (fun f a b => match f with | .next => I (i + 1) a b | .cont => I (i + 1) a b | .brk => J a b | .ret r => R r))
    (hend : ∀ ρ' σ', I ds.length ρ' σ' → J ρ' σ') (hn : ∀ ρ' σ', J ρ' σ' → Ex c A env ρ' σ' rest P) (hr : ∀ r, R r → P (.ret r) [] []) : Ex c A env ρ σ (.For (.Tuple elts k tpos) iter body [] pos :: rest) P := by
  refine Ex.cons (fun f a b => match f with | .next => J a b | .ret r => R r | _ => False) ?_ hn (fun _ _ h => h.elim) (fun _ _ h => h.elim) hr
  intro s₀ μ₀ s S E
  obtain ⟨m, cm, ν, S⟩ := S
  refine wpAny_For (hi _ s S.env _ _ fun It fp wr Pw W h' tk w0 w1 wl woff wfp lfp hP k hgo => ?_) hs
  have off0 : ∀ a ∈ wr, s₀.heap.get? a = none := fun a ha => none_back S.ic.keep (woff a ha)
  -- the first base
  let b0 := hideAll h' (hid env ν [])
  have wrh : ∀ a ∈ wr, a ∉ hid env ν [] := fun a ha q => wfp a (w0.sub a ha) (by
    rcases mem_hid.mp q with q | q | q | q
    · exact mem_hid.mpr (.inl q)
    · exact mem_hid.mpr (.inr (.inl q))
    · exact mem_hid.mpr (.inr (.inr (.inl q)))
    · cases q)
  have S1 := S.grow (tk := tk) k
  have kb0 : Kp s₀.heap b0 := kp_base S1
  have sub0 : ∀ a, a ∈ hid env ν [] → a ∈ hid env ν μ₀ := fun a q => by
    rcases mem_hid.mp q with q | q | q | q
    · exact mem_hid.mpr (.inl q)
    · exact mem_hid.mpr (.inr (.inl q))
    · exact mem_hid.mpr (.inr (.inr (.inl q)))
    · cases q
  have fresh : ∀ a o, a ∉ hid env ν μ₀ → s.heap.get? a = some o → a ∉ hid env ν (wr ++ μ₀) ∧ h'.get? a = some o := fun a o ha e => ⟨fun q => by
    rcases mem_hid.mp q with q | q | q | q
    · exact ha (mem_hid.mpr (.inl q))
    · exact ha (mem_hid.mpr (.inr (.inl q)))
    · exact ha (mem_hid.mpr (.inr (.inr (.inl q))))
    · rcases List.mem_append.mp q with q | q
      · exact ne_of_none (woff a q) e rfl
      · exact ha (mem_hid.mpr (.inr (.inr (.inr q)))), k _ _ e⟩
  have S2 : StP c { s₀ with heap := b0 } env (wr ++ μ₀) ρ σ m cm ν { s with heap := h', toks := tk } := by
    have R1 := S1.rebase
    refine ⟨⟨?_, R1.ic.ns, R1.ic.keep, R1.ic.cell, R1.ic.apart, R1.ic.offL, R1.ic.offC⟩, R1.gk, R1.fn, R1.gl, R1.bl, R1.cn, fun x d e => ?_, fun x d e => ?_, R1.nd, R1.new, fun a ha => ?_, R1.lv⟩
    · obtain ⟨h, t, e⟩ := S.ic.same; exact ⟨h', tk, by rw [e]⟩
    · obtain ⟨v, V, r⟩ := S.vars x d e; exact ⟨v, V, r.to fresh⟩
    · obtain ⟨a, vs, h1, h2, ⟨n, h3⟩, h4⟩ := S.muts x d e
      exact ⟨a, vs, h1, h2, ⟨n, k _ _ h3⟩, h4.to fresh⟩
    · rcases List.mem_append.mp ha with q | q
      · obtain ⟨o, e⟩ := lfp a (w0.sub a q); exact ⟨o, hideAll_get _ e (wrh a q)⟩
      · obtain ⟨o, e⟩ := S.out a q; exact ⟨o, kb0 _ _ e⟩
  refine codeAny_forLoop_any (fun n s' => ∃ i b m cm ν ρ' σ', n = ds.length + 1 - i ∧ i ≤ ds.length ∧ I i ρ' σ' ∧ StP c { s₀ with heap := b } env (wr ++ μ₀) ρ' σ' m cm ν s' ∧ Kp s₀.heap b ∧ W i s'.heap ∧ Live fp b ∧
      (∀ j v, Pw j v → ∃ d, ds[j]? = some d ∧ Rd (wr ++ μ₀) b v d)) ?_ (ds.length + 1) ⟨0, b0, m, cm, ν, ρ, σ, rfl, Nat.zero_le _, h0, S2, kb0, w1, ?_, ?_⟩
  rotate_left
  · intro a ha
    obtain ⟨o, e⟩ := lfp a ha
    exact ⟨o, hideAll_get _ e fun q => wfp a ha (sub0 a q)⟩
  · intro j v hv
    obtain ⟨d, hd, r⟩ := hP j v hv
    refine ⟨d, hd, r.to fun a o ha e => ⟨fun q => ha ?_, hideAll_get _ e fun q => ha (List.mem_append_right _ (sub0 a q))⟩⟩
    rcases List.mem_append.mp q with q | q
    · exact List.mem_append_left _ q
    · exact List.mem_append_right _ (mem_hid.mpr (.inr (.inr (.inr q))))
  rintro n s' ⟨i, b, m, cm, ν, ρ', σ', rfl, hle, hI, S', kb, hW, lf, hPb⟩
  by_cases hlt : i < ds.length
  · refine w0.item i s' _ _ hlt hW fun v h₁ tk₁ hv hW₁ hk₁ => ?_
    obtain ⟨S3, k3, kb3, wr3⟩ := S'.turn (h₁ := h₁) (tk := tk₁) S.gk kb S.out off0 hk₁ (wl _ _ hW₁)
    obtain ⟨d, hd, rb⟩ := hPb i v hv
    obtain ⟨ρ'', hA, hB⟩ := step i d ρ' σ' hd hI
    have offb : ∀ a, (∃ o, b.get? a = some o) → a ∉ hid env ν [] := fun a ⟨o, e⟩ q => by
      rcases mem_hid.mp q with q | q | q | q
      · exact ne_of_none S'.ic.offL e q
      · obtain ⟨p, hp, rfl⟩ := List.mem_map.mp q; exact ne_of_none (S'.ic.offC p hp) e rfl
      · obtain ⟨p, hp, rfl⟩ := List.mem_map.mp q; exact ne_of_none (S'.new p hp) e rfl
      · cases q
    have rv : Rd (hid env ν (wr ++ μ₀)) h₁ v d := rb.to fun a o ha e => ⟨fun q => by
        rcases mem_hid.mp q with q | q | q | q
        · exact offb a ⟨o, e⟩ (mem_hid.mpr (.inl q))
        · exact offb a ⟨o, e⟩ (mem_hid.mpr (.inr (.inl q)))
        · exact offb a ⟨o, e⟩ (mem_hid.mpr (.inr (.inr (.inl q))))
        · exact ha q, hk₁ a o (fun q => ha (List.mem_append_left _ q)) (S'.ic.keep a o e)⟩
    obtain ⟨xs, rfl⟩ := htup d (List.mem_of_getElem? hd)
    obtain ⟨T, _, rfl, _, _⟩ := rv.tup
    obtain ⟨l, j, hit⟩ := hgo _ _ hW₁
    refine wpAny_letOwnedTupleGo_listiter hit ?_
    refine hA _ _ m cm ν _ _ S3 rv _ _ fun s4 S4 => ?_
    have lf3 : Live fp (hideAll h₁ (hid env ν [])) := fun a ha => by
      by_cases hw : a ∈ wr
      · obtain ⟨o, e⟩ := wl _ _ hW₁ a hw; exact ⟨o, hideAll_get _ e (wr3 a hw)⟩
      · obtain ⟨o, e⟩ := lf a ha; exact ⟨o, kb3 a o hw e⟩
    have fin : ∀ s5, (∃ ρ5 σ5, I (i + 1) ρ5 σ5 ∧ St c { s₀ with heap := hideAll h₁ (hid env ν []) } env (wr ++ μ₀) ρ5 σ5 s5) →
        ∃ n', n' < ds.length + 1 - i ∧ ∃ i b m cm ν ρ' σ', n' = ds.length + 1 - i ∧ i ≤ ds.length ∧ I i ρ' σ' ∧ StP c { s₀ with heap := b } env (wr ++ μ₀) ρ' σ' m cm ν s5 ∧ Kp s₀.heap b ∧ W i s5.heap ∧ Live fp b ∧ (∀ j v, Pw j v → ∃ d, ds[j]? = some d ∧ Rd (wr ++ μ₀) b v d) := by
      rintro s5 ⟨ρ5, σ5, hI5, m5, cm5, ν5, S5⟩
      refine ⟨ds.length + 1 - (i + 1), by omega, i + 1, _, m5, cm5, ν5, ρ5, σ5, rfl, hlt, hI5, S5, k3, ?_, lf3, ?_⟩
      · refine w0.frame _ _ _ hW₁ fun a ha o e => ?_
        obtain ⟨o', e'⟩ := lf3 a ha
        have := of_hideAll _ e'
        rw [e] at this; cases this
        exact S5.ic.keep a o e'
      · intro j v hv
        obtain ⟨d, hd, r⟩ := hPb j v hv
        exact ⟨d, hd, r.to fun a o ha e => ⟨ha, kb3 a o (fun q => ha (List.mem_append_left _ q)) e⟩⟩
    refine wpAny_mono (hB _ _ s4 S4 _) (fun f s5 h5 => ?_) fun _ _ e => e
    cases f with
    | next => exact fin s5 h5
    | cont => exact fin s5 h5
    | brk =>
      obtain ⟨ρ5, σ5, hJ5, m5, cm5, ν5, S5⟩ := h5
      exact ⟨ρ5, σ5, hJ5, m5, cm5, ν5, S5.unbase k3 ⟨_, s₀.toks, rfl⟩ S.gk S.out fun a ha => List.mem_append_right _ ha⟩
    | ret v =>
      obtain ⟨d5, hR5, ⟨h6, t6, e6⟩, k6, r6⟩ := h5
      exact ⟨d5, hR5, ⟨h6, t6, by rw [e6]⟩, k3.trans k6, r6.weaken fun a ha => List.mem_append_right _ ha⟩
  · have hin : i = ds.length := by omega
    subst hin
    refine w0.done s' _ _ hW fun h₁ tk₁ hk₁ => wpAny_execs_nil ?_
    -- what the iterator wrote is not ours
    have lwb : Live wr b := fun a ha => S'.out a (List.mem_append_left _ ha)
    have nw : ∀ a, a ∈ hid env ν [] → a ∉ wr := fun a q hw => by
      obtain ⟨o, e⟩ := lwb a hw
      rcases mem_hid.mp q with q | q | q | q
      · exact ne_of_none S'.ic.offL e q
      · obtain ⟨p, hp, rfl⟩ := List.mem_map.mp q; exact ne_of_none (S'.ic.offC p hp) e rfl
      · obtain ⟨p, hp, rfl⟩ := List.mem_map.mp q; exact ne_of_none (S'.new p hp) e rfl
      · cases q
    have keep : ∀ a o, a ∉ hid env ν (wr ++ μ₀) → s'.heap.get? a = some o → a ∉ hid env ν μ₀ ∧ h₁.get? a = some o := fun a o ha e =>
      ⟨fun q => ha (by
        rcases mem_hid.mp q with q | q | q | q
        · exact mem_hid.mpr (.inl q)
        · exact mem_hid.mpr (.inr (.inl q))
        · exact mem_hid.mpr (.inr (.inr (.inl q)))
        · exact mem_hid.mpr (.inr (.inr (.inr (List.mem_append_right _ q))))), hk₁ a o (fun q => ha (mem_hid.mpr (.inr (.inr (.inr (List.mem_append_left _ q)))))) e⟩
    have U := S'.unbase (μ₀ := μ₀) kb ⟨_, s₀.toks, rfl⟩ S.gk S.out fun a ha => List.mem_append_right _ ha
    refine ⟨ρ', σ', hend _ _ hI, m, cm, ν, ⟨?_, ?_, fun a o e => ?_, fun n a e => ?_, U.ic.apart, U.ic.offL, U.ic.offC⟩, U.gk, U.fn, U.gl, U.bl, U.cn, fun x d e => ?_, fun x d e => ?_, U.nd, U.new, U.out, fun p hp => ?_⟩
    · obtain ⟨h, t, e⟩ := U.ic.same; exact ⟨h₁, tk₁, by rw [e]⟩
    · exact U.ic.ns.at' fun o e => hk₁ _ o (nw _ (mem_hid.mpr (.inl rfl))) e
    · exact hk₁ a o (fun q => ne_of_none (off0 a q) e rfl) (U.ic.keep a o e)
    · obtain ⟨o, ho, hd⟩ := U.ic.cell n a e
      exact ⟨o, hk₁ _ _ (nw _ (mem_hid.mpr (.inr (.inl (List.mem_map.mpr ⟨(n, a), mem_of_lookup e, rfl⟩))))) ho, hd⟩
    · obtain ⟨v, V, r⟩ := S'.vars x d e; exact ⟨v, V, r.to keep⟩
    · obtain ⟨a, vs, h1, h2, ⟨n, h3⟩, h4⟩ := S'.muts x d e
      exact ⟨a, vs, h1, h2, ⟨n, hk₁ _ _ (nw _ (mem_hid.mpr (.inr (.inr (.inl (List.mem_map.mpr ⟨(x, a), lookup_mem h1, rfl⟩)))))) h3⟩, h4.to keep⟩
    · obtain ⟨vs, n, e⟩ := S'.lv p hp
      exact ⟨vs, n, hk₁ _ _ (nw _ (mem_hid.mpr (.inr (.inr (.inl (List.mem_map.mpr ⟨p, hp, rfl⟩)))))) e⟩
end
end Mine

end PartB20
section PartS3
open PySem PySem.W PyProof.Rows
namespace Mine
theorem isNum_low (l : List Nat) : isNum (lowL l) = isNum l := by
  have hd : ∀ k, Sre.isDigit (lo1 k) = Sre.isDigit k := fun k => by
    unfold Sre.isDigit lo1; split
    · rw [Bool.eq_iff_iff]; simp; omega
    · rfl
  have h10 : ∀ k, (lo1 k == 10) = (k == 10) := fun k => by
    unfold lo1; split
    · rw [Bool.eq_iff_iff]; simp; omega
    · rfl
  rw [isNum_strip, isNum_strip]
  have hs : strip1 (lowL l) = lowL (strip1 l) := by
    unfold strip1
    have e : ((lowL l).getLast? == some 10) = (l.getLast? == some 10) := by
      unfold lowL; rw [List.getLast?_map]
      cases l.getLast? with
      | none => rfl
      | some k => have := h10 k; simpa using this
    rw [e]
    split
    · unfold lowL; rw [List.map_dropLast]
    · rfl
  rw [hs]
  have h1 : (lowL (strip1 l) == []) = (strip1 l == []) := by
    cases strip1 l <;> rfl
  have h2 : (lowL (strip1 l)).all Sre.isDigit = (strip1 l).all Sre.isDigit := by
    unfold lowL; rw [List.all_map]; congr 1; funext k; exact hd k
  rw [h1, h2]
theorem prefD_len : ∀ {bs cs : List (List Nat)}, prefD bs cs = true → bs.length ≤ cs.length
  | [], _, h => by simp [prefD] at h
  | _ :: _, [], h => by simp [prefD] at h
  | [b], c :: cs, h => by simp
  | b :: b' :: bs, c :: cs, h => by
    simp only [prefD, Bool.and_eq_true] at h
    have := prefD_len h.2
    simp at this ⊢; omega
theorem prefD_app : ∀ {bs cs : List (List Nat)}, bs ≠ [] → prefD bs (bs ++ cs) = true
  | [], _, h => absurd rfl h
  | [b], cs, _ => by simp [prefD]
  | b :: b' :: bs, cs, _ => by
    show (b == b && prefD (b' :: bs) ((b' :: bs) ++ cs)) = true
    rw [prefD_app (by simp)]; simp
theorem prefD_head {b c : List Nat} {bs cs : List (List Nat)} (h : prefD (b :: bs) (c :: cs) = true) : b <+: c := by
  cases bs with
  | nil => simpa [prefD] using h
  | cons b' bs =>
    simp only [prefD, Bool.and_eq_true, beq_iff_eq] at h
    rw [h.1]; exact List.prefix_refl _
def sl (R : List (List Nat)) (i j : Nat) : List (List Nat) := (R.take j).drop i
theorem sl_cons {R : List (List Nat)} {i j : Nat} {x : List Nat} (h : i < j) (hx : R[i]? = some x) : sl R i j = x :: sl R (i + 1) j := by
  unfold sl
  have : (R.take j)[i]? = some x := by rw [List.getElem?_take, if_pos h]; exact hx
  obtain ⟨hlt, e⟩ := List.getElem?_eq_some_iff.mp this
  rw [List.drop_eq_getElem_cons hlt, e]
theorem sl_nil {R : List (List Nat)} {i j : Nat} (h : j ≤ i) : sl R i j = [] := by
  unfold sl; rw [List.drop_eq_nil_iff]; simp; omega
theorem sl_len {R : List (List Nat)} {i j : Nat} (h : j ≤ R.length) : (sl R i j).length = j - i := by unfold sl; simp; omega
theorem sl_app {R : List (List Nat)} {i j k : Nat} (h1 : i ≤ j) (h2 : j ≤ k) : sl R i k = sl R i j ++ sl R j k := by
  unfold sl
  rw [show (R.take j) = (R.take k).take j by rw [List.take_take]; congr 1; omega]
  generalize R.take k = T
  rw [List.drop_take]
  have : List.drop j T = (T.drop i).drop (j - i) := by rw [List.drop_drop]; congr 1; omega
  rw [this, List.take_append_drop]
theorem sl_map {R : List (List Nat)} {i j : Nat} (f : List Nat → List Nat) : (sl R i j).map f = sl (R.map f) i j := by
  unfold sl; rw [List.map_drop, List.map_take]
theorem sl_last {R : List (List Nat)} {i j : Nat} {x : List Nat} (h : i < j) (hx : R[j - 1]? = some x) : (sl R i j).getLastD [] = x := by
  have hj : j ≤ R.length := by have := (List.getElem?_eq_some_iff.mp hx).1; omega
  unfold sl
  rw [List.getLastD_eq_getLast?, List.getLast?_drop, if_neg (by simp; omega), List.getLast?_eq_getElem?, List.length_take, Nat.min_eq_left hj, List.getElem?_take, if_pos (by omega), hx]; rfl

/-- a name of pieces none of which is empty -/
theorem isHDN_pieces {ps : List (List Nat)} (h0 : ps ≠ []) (hf : ∀ p ∈ ps, 46 ∉ p) (hne : ∀ p ∈ ps, p ≠ []) : isHDN (dots ps) = (decide (ps.length = 1) || !isNum (ps.getLastD [])) := by
  match ps, h0 with
  | [p], _ =>
    have h1 : 46 ∉ p := hf p (by simp)
    have h2 : p ≠ [] := hne p (by simp)
    show isHDN p = _
    unfold isHDN
    rw [ipv4_free h1]
    have e1 : (p == []) = false := by simpa using h2
    have e2 : (p.head? == some 46) = false := by
      cases p with | nil => rfl | cons a b => simp; intro e; exact h1 (by simp [e])
    have e3 : (p.getLast? == some 46) = false := by
      cases hl : (p.getLast? == some 46) with
      | false => rfl
      | true => exact absurd (List.mem_of_getLast? (by simpa using hl)) h1
    rw [e1, e2, e3]; rfl
  | p :: q :: r, _ =>
    rw [isHDN_dots (by simp) hf]
    have e1 : ((p :: q :: r).head? == some []) = false := by simpa using hne p (by simp)
    have e2 : ((p :: q :: r).getLast? == some []) = false := by
      rw [List.getLast?_eq_some_getLast (List.cons_ne_nil _ _)]
      have := hne _ (List.getLast_mem (List.cons_ne_nil p (q :: r)))
      simpa using this
    rw [e1, e2]; simp
theorem low_ne {ps : List (List Nat)} (h : ∀ p ∈ ps, p ≠ []) : ∀ p ∈ ps.map lowL, p ≠ [] := fun p hp => by
  obtain ⟨q, hq, rfl⟩ := List.mem_map.mp hp
  simpa [lowL] using h q hq
theorem lastD_map {ps : List (List Nat)} (f : List Nat → List Nat) (hf : f [] = []) : (ps.map f).getLastD [] = f (ps.getLastD []) := by
  rw [List.getLastD_eq_getLast?, List.getLastD_eq_getLast?, List.getLast?_map]
  cases ps.getLast? with
  | none => exact hf.symm
  | some x => rfl
/-- the same of the small letters -/
theorem isHDN_low {ps : List (List Nat)} (h0 : ps ≠ []) (hf : ∀ p ∈ ps, 46 ∉ p) (hne : ∀ p ∈ ps, p ≠ []) : isHDN (dots (ps.map lowL)) = (decide (ps.length = 1) || !isNum (ps.getLastD [])) := by
  rw [isHDN_pieces (by simpa using h0) (low_mem_free hf) (low_ne hne), List.length_map, lastD_map lowL rfl, isNum_low]
theorem up_free {ps : List (List Nat)} (h : ∀ p ∈ ps, 46 ∉ p) : ∀ p ∈ ps.map upL, 46 ∉ p := fun p hp => by
  obtain ⟨q, hq, rfl⟩ := List.mem_map.mp hp
  intro e
  unfold upL at e
  obtain ⟨k, hk, e⟩ := List.mem_map.mp e
  have : k = 46 := by unfold up1 at e; split at e <;> omega
  exact h q hq (this ▸ hk)
/-- domain_match of a host of pieces, in capitals, and a dot and pieces -/
theorem dm_up {cs bs : List (List Nat)} (hc0 : cs ≠ []) (hcs : ∀ p ∈ cs, 46 ∉ p) (hcn : ∀ p ∈ cs, p ≠ []) (hb0 : bs ≠ []) (hb : ∀ p ∈ bs, 46 ∉ p) (hbn : ∀ p ∈ bs, p ≠ []) :
    dmL (upL (dots cs)) (46 :: dots bs) = ((decide (cs.length = 1) || !isNum (cs.getLastD [])) && (decide (bs.length = 1) || !isNum (bs.getLastD [])) && anyTail (prefD (bs.map lowL)) (cs.tail.map lowL)) := by
  rw [up_dots]
  match cs, hc0 with
  | c :: cs, _ =>
    have hu := up_free hcs
    rw [List.map_cons, dm_dot (by simpa [upL] using hcn c (by simp)) (hu _ (by simp)) (fun p hp => hu p (List.mem_cons_of_mem _ hp)) hb0 hb]
    have hlu : ∀ l : List (List Nat), (l.map upL).map lowL = l.map lowL := fun l => by
      rw [List.map_map]; exact List.map_congr_left fun x _ => low_up x
    rw [← List.map_cons, hlu, hlu, isHDN_low (by simp) hcs hcn, isHDN_low hb0 hb hbn]; rfl
theorem dots_inj {a b : List (List Nat)} (ha : a ≠ []) (hb : b ≠ []) (fa : ∀ p ∈ a, 46 ∉ p) (fb : ∀ p ∈ b, 46 ∉ p) : (dots a == dots b) = (a == b) := by
  rw [Bool.eq_iff_iff, beq_iff_eq, beq_iff_eq]
  constructor
  · intro h; rw [← split_dots a ha fa, h, split_dots b hb fb]
  · rintro rfl; rfl
/-- domain_match of a host in capitals and a name that begins with no dot -/
theorem dm_up_plain {cs bs : List (List Nat)} (hc0 : cs ≠ []) (hcs : ∀ p ∈ cs, 46 ∉ p) (hb0 : bs ≠ []) (hb : ∀ p ∈ bs, 46 ∉ p) (hbn : ∀ p ∈ bs, p ≠ []) :
    dmL (upL (dots cs)) (dots bs) = (cs.map lowL == bs.map lowL) := by
  have hh : (dots bs).head? ≠ some 46 := by
    match bs, hb0 with
    | b :: bs, _ =>
      have hb1 := hb b (by simp)
      rw [(dots_head bs hb1 (hbn b (by simp))).1]
      cases b with
      | nil => simp
      | cons x y => simp; intro e; exact hb1 (by simp [e])
  rw [dm_plain hh, low_up, low_dots, low_dots, dots_inj (by simpa using hc0) (by simpa using hb0) (low_mem_free hcs) (low_mem_free hb)]
end Mine

end PartS3
section PartB21
open PySem PySem.W PyProof.Rows
namespace Mine
section
variable {c : Cx} {A : Around} {env : Env} {ρ : Rho} {σ : Sig} {P : Fl → Rho → Sig → Prop}
theorem Ev.andB {e₁ e₂ rest pos a b} (h : Ev c A env ρ σ e₁ (.bool a)) (h2 : a = true → Ev c A env ρ σ (.BoolOp .And (e₂ :: rest) pos) (.bool b)) : Ev c A env ρ σ (.BoolOp .And (e₁ :: e₂ :: rest) pos) (.bool (a && b)) := by
  cases a with
  | true => exact Ev.and h TruOK.bool (fun h => by cases h) (fun _ => h2 rfl)
  | false => exact Ev.and h TruOK.bool (fun _ => rfl) (fun h => by cases h)
theorem Ev.orB {e₁ e₂ rest pos a b} (h : Ev c A env ρ σ e₁ (.bool a)) (h2 : a = false → Ev c A env ρ σ (.BoolOp .Or (e₂ :: rest) pos) (.bool b)) : Ev c A env ρ σ (.BoolOp .Or (e₁ :: e₂ :: rest) pos) (.bool (a || b)) := by
  cases a with
  | false => exact Ev.or h TruOK.bool (fun h => by cases h) (fun _ => h2 rfl)
  | true => exact Ev.or h TruOK.bool (fun _ => rfl) (fun h => by cases h)
end
theorem dots_all {P : Nat → Prop} (h46 : P 46) : ∀ {ps : List (List Nat)}, (∀ p ∈ ps, ∀ k ∈ p, P k) → ∀ k ∈ dots ps, P k
  | [], _, k, hk => by cases hk
  | [p], h, k, hk => h p (by simp) k hk
  | p :: q :: r, h, k, hk => by
    rw [dots_cons p _ (by simp)] at hk
    rcases List.mem_append.mp hk with hk | hk
    · exact h p (by simp) k hk
    · rcases List.mem_cons.mp hk with rfl | hk
      · exact h46
      · exact dots_all h46 (fun x hx => h x (List.mem_cons_of_mem _ hx)) k hk
theorem dots_bound {ps : List (List Nat)} {B : Nat} (h : ∀ p ∈ ps, p.length ≤ B) : (dots ps).length ≤ ps.length * B + ps.length := by
  cases ps with
  | nil => simp [dots]
  | cons p r =>
    have h1 := dots_len (p :: r) (by simp)
    have h2 := sum_bounds h
    omega
theorem okL_pc {l : List Nat} (h : ∀ k ∈ l, pc k = true) : okL l := fun k hk => by
  have := h k hk
  unfold pc at this
  simp at this; omega
theorem any_strs (x : List Nat) : ∀ l : List (List Nat), (l.map strD).any (fun y => PyData.eqv y (strD x)) = l.contains x
  | [] => rfl
  | y :: l => by
    rw [List.map_cons, List.any_cons, any_strs x l, List.contains_cons]
    show ((mkS y == mkS x) || _) = _
    rw [mkS_inj, Bool.beq_comm]
theorem CmpOK.notIn_strs {c : Cx} {A : Around} {x : List Nat} {l : List (List Nat)} (hx : okL x) (hl : ∀ y ∈ l, okL y) (hu : A.units + 100 < cLine) : CmpOK c A .NotIn (strD x) (.list (l.map strD)) (!l.contains x) := by
  rw [← any_strs]
  refine CmpOK.notIn_list (strOk_of hx) (canLay_strs hl) ?_
  have h0 : PyData.depth (strD x) = 0 := rfl
  rw [h0]; omega
theorem CmpOK.in_strs {c : Cx} {A : Around} {x : List Nat} {l : List (List Nat)} (hx : okL x) (hl : ∀ y ∈ l, okL y) (hu : A.units + 100 < cLine) : CmpOK c A .In (strD x) (.list (l.map strD)) (l.contains x) := by
  rw [← any_strs]
  refine CmpOK.in_list (strOk_of hx) (canLay_strs hl) ?_
  have h0 : PyData.depth (strD x) = 0 := rfl
  rw [h0]; omega
theorem CmpOK.ne_strs {c : Cx} {A : Around} {a b : List (List Nat)} (ha : ∀ l ∈ a, okL l) (hb : ∀ l ∈ b, okL l) (hr : A.units + 100 < cLine) : CmpOK c A .NotEq (.list (a.map strD)) (.list (b.map strD)) (!(a == b)) := by
  have h : PyData.eqv (.list (a.map strD)) (.list (b.map strD)) = (a == b) := eqv_strs a b
  rw [← h]
  refine CmpOK.ne (canLay_strs ha) (canLay_strs hb) ?_
  have h1 : PyData.depth (.list (a.map strD)) = PyData.depthAll (a.map strD) + 1 := rfl
  have := depth_strs a
  omega
def pickZ (ns : List Int) (lo hi st : Option Int) : List Int :=
  (sliceRange (sliceBounds lo hi st ns.length).1 (sliceBounds lo hi st ns.length).2.1 (sliceBounds lo hi st ns.length).2.2).filterMap (ns[·]?)
theorem pickD_ints (ns : List Int) (lo hi st : Option Int) : pickD (ns.map .int) lo hi st = (pickZ ns lo hi st).map .int := by
  unfold pickD pickZ
  rw [List.length_map, List.map_filterMap]
  congr 1
  funext i
  rw [List.getElem?_map]
theorem rangeD_get {a b : Int} {i : Nat} {d : PyData} (h : (rangeD a b)[i]? = some d) : i < (b - a).toNat ∧ d = .int (a + i) := by
  unfold rangeD at h
  rw [List.getElem?_map] at h
  obtain ⟨j, hj, rfl⟩ := Option.map_eq_some_iff.mp h
  have hl : i < (b - a).toNat := by
    rcases Nat.lt_or_ge i (b - a).toNat with h | h
    · exact h
    · rw [List.getElem?_eq_none (by simpa using h)] at hj; cases hj
  rw [List.getElem?_range hl] at hj
  cases hj
  exact ⟨hl, rfl⟩
theorem rangeN_get {n : Nat} {i : Nat} {d : PyData} (h : ((List.range n).map natD)[i]? = some d) : i < n ∧ d = .int (i : Int) := by
  rw [← rangeD_nat] at h
  have := rangeD_get h
  exact ⟨by have := this.1; omega, by rw [this.2]; congr 1; omega⟩
theorem pick_init (ds : List PyData) : pickD ds none (some (-1)) none = ds.dropLast := by
  rw [pickD_eq]
  have e : clp (some (-1)) ds.length ds.length = ds.length - 1 := by unfold clp; simp only; rw [if_pos (by omega)]; omega
  have e2 : clp none 0 ds.length = 0 := rfl
  rw [e, e2, List.drop_zero, List.dropLast_eq_take]
theorem inj_strD : ∀ x y : List Nat, strD x = strD y → x = y := inj_str
theorem lit_nil : Str.ofString "" = mkS [] := rfl
theorem headD_zero {l : List (List Nat)} (h : l ≠ []) : pyIdx (l.map strD) 0 = some (strD (l.headD [])) := by
  rw [pyIdx_zero]; cases l with | nil => exact absurd rfl h | cons => rfl
theorem lastD_last {l : List (List Nat)} (h : l ≠ []) : pyIdx (l.map strD) (-1) = some (strD (l.getLastD [])) := by
  rw [pyIdx_last, List.getLast?_map, List.getLastD_eq_getLast?, List.getLast?_eq_some_getLast h]; rfl
theorem pc_upL {l : List Nat} (h : ∀ k ∈ l, pc k = true) : ∀ k ∈ upL l, pc k = true := fun k hk => by
  obtain ⟨x, hx, rfl⟩ := List.mem_map.mp hk; exact pc_up x (h x hx)
theorem pc_lowL {l : List Nat} (h : ∀ k ∈ l, pc k = true) : ∀ k ∈ lowL l, pc k = true := fun k hk => by
  obtain ⟨x, hx, rfl⟩ := List.mem_map.mp hk; exact pc_low x (h x hx)
theorem pc_dots {ps : List (List Nat)} (h : ∀ p ∈ ps, ∀ k ∈ p, pc k = true) : ∀ k ∈ dots ps, pc k = true := dots_all (P := fun k => pc k = true) rfl h
theorem pc_cons {l : List Nat} (h : ∀ k ∈ l, pc k = true) : ∀ k ∈ 46 :: l, pc k = true := fun k hk => by
  rcases List.mem_cons.mp hk with rfl | hk
  · rfl
  · exact h k hk
theorem join_ok {ps : List (List Nat)} {B n : Nat} (h : ∀ p ∈ ps, p.length ≤ B) (hn : ps.length ≤ n) (hb : n * B + n ≤ 16777216) : (ps.map (·.length)).sum + ps.length ≤ 16777216 := by
  have := sum_bounds h
  have h2 := Nat.mul_le_mul_right B hn
  omega
theorem dots_bound' {ps : List (List Nat)} {B n : Nat} (h : ∀ p ∈ ps, p.length ≤ B) (hn : ps.length ≤ n) : (dots ps).length ≤ n * B + n := by
  have := dots_bound h
  have h2 := Nat.mul_le_mul_right B hn
  omega
theorem reach_len (l : List Nat) : (reachL l).length ≤ l.length + 1 := by
  unfold reachL
  cases hs : splitD l with
  | nil => simp
  | cons p ps =>
    cases ps with
    | nil => simp
    | cons q r =>
      simp only
      split
      · have e : l = p ++ 46 :: dots (q :: r) := by rw [← dots_split l, hs]; rfl
        rw [e]; simp; omega
      · omega
theorem reach_pc {l : List Nat} (h : ∀ k ∈ l, pc k = true) : ∀ k ∈ reachL l, pc k = true := by
  unfold reachL
  cases hs : splitD l with
  | nil => simpa using h
  | cons p ps =>
    cases ps with
    | nil => simpa using h
    | cons q r =>
      simp only
      split
      · have e : l = p ++ 46 :: dots (q :: r) := by rw [← dots_split l, hs]; rfl
        exact pc_cons fun k hk => h k (by rw [e]; simp [hk])
      · exact h
end Mine

end PartB21
section PartP11
open PySem PySem.W PyProof.Rows
namespace Mine
def climbs11 (ps : List (List Nat)) : Bool :=
  !(decide (ps.length < 2) || (ps.headD [] == [] || (ps.getLastD [] == [] || isNum (ps.getLastD [])))) && (decide (2 < ps.length) || ps.getD 1 [] == local5)
theorem isHDN_dots2 {ps : List (List Nat)} (h2 : 2 ≤ ps.length) (hf : ∀ p ∈ ps, 46 ∉ p) : isHDN (dots ps) = (!isNum (ps.getLastD []) && !(ps.headD [] == []) && !(ps.getLastD [] == [])) := by
  rw [isHDN_dots h2 hf]
  match ps, h2 with
  | p :: q :: r, _ =>
    have e1 : ((p :: q :: r).head? == some []) = ((p :: q :: r).headD [] == []) := by simp
    have e2 : ((p :: q :: r).getLast? == some []) = ((p :: q :: r).getLastD [] == []) := by
      rw [List.getLastD_eq_getLast?, List.getLast?_eq_some_getLast (List.cons_ne_nil _ _)]; simp
    rw [e1, e2]
theorem rch11 {ps : List (List Nat)} (h0 : ps ≠ []) (hf : ∀ p ∈ ps, 46 ∉ p) : reachL (dots ps) = if climbs11 ps then 46 :: dots ps.tail else dots ps := by
  unfold reachL
  rw [split_dots ps h0 hf]
  match ps, h0 with
  | [p], _ => rfl
  | p :: q :: r, _ =>
    simp only
    rw [isHDN_dots2 (by simp) hf]
    have e : (!isNum ((p :: q :: r).getLastD []) && !((p :: q :: r).headD [] == []) && !((p :: q :: r).getLastD [] == []) && (!(r == []) || q == local5)) = climbs11 (p :: q :: r) := by
      unfold climbs11
      have h1 : decide ((p :: q :: r).length < 2) = false := by simp
      have h2 : decide (2 < (p :: q :: r).length) = !(r == []) := by cases r <;> simp
      rw [h1, h2]
      show _ = (!(false || _) && (!(r == []) || q == local5))
      generalize (p :: q :: r).getLastD [] = l
      generalize (p :: q :: r).headD [] = k
      cases isNum l <;> cases k == [] <;> cases l == [] <;> rfl
    rw [e]; rfl
theorem isHDN_lowered {ps : List (List Nat)} (h2 : 2 ≤ ps.length) (hf : ∀ p ∈ ps, 46 ∉ p) : isHDN (dots (ps.map lowL)) = (!isNum (ps.getLastD []) && !(ps.headD [] == []) && !(ps.getLastD [] == [])) := by
  rw [isHDN_dots2 (by simpa using h2) (low_mem_free hf), lastD_map lowL rfl, isNum_low]
  have e1 : ((ps.map lowL).headD [] == []) = (ps.headD [] == []) := by
    cases ps with | nil => rfl | cons a b => cases a <;> rfl
  have e2 : ∀ l : List Nat, (lowL l == []) = (l == []) := fun l => by cases l <;> rfl
  rw [e1, e2]
theorem isHDN_one {l : List Nat} (h : 46 ∉ l) : isHDN l = !(l == []) := by
  by_cases h0 : l = []
  · subst h0; rfl
  · have := isHDN_pieces (ps := [l]) (by simp) (by simpa using h) (by simpa using h0)
    have e : (l == []) = false := by simpa using h0
    rw [e]; exact this
theorem tail_last {p q : List Nat} {r : List (List Nat)} : (p :: q :: r).getLastD [] = (q :: r).getLastD [] := by simp [List.getLastD_eq_getLast?]
theorem isHDN_rest {q : List Nat} {r : List (List Nat)} (hf : ∀ p ∈ q :: r, 46 ∉ p) (hn : isNum ((q :: r).getLastD []) = false) (hl : ((q :: r).getLastD [] == []) = false) : isHDN (dots ((q :: r).map lowL)) = !(q == []) := by
  cases r with
  | nil =>
    show isHDN (lowL q) = _
    rw [isHDN_one (fun e => hf q (by simp) (low_free.mp e))]
    cases q <;> rfl
  | cons a b =>
    rw [isHDN_lowered (by simp) hf, hn, hl]; simp
/-- a host that climbs is met by what it climbs to, where that begins with no dot -/
theorem up11 {ps : List (List Nat)} (h0 : ps ≠ []) (hf : ∀ p ∈ ps, 46 ∉ p) : dmL (upL (dots ps)) (reachL (dots ps)) = (!climbs11 ps || !(ps.getD 1 [] == [])) := by
  rw [rch11 h0 hf]
  cases hc : climbs11 ps with
  | false =>
    rw [if_neg (by simp)]
    unfold dmL; rw [low_up]; simp
  | true =>
    rw [if_pos rfl]
    match ps, h0 with
    | [p], _ => simp [climbs11] at hc
    | p :: q :: r, _ =>
      have hc' := hc
      unfold climbs11 at hc'
      simp only [Bool.and_eq_true, Bool.not_eq_true', Bool.or_eq_false_iff] at hc'
      obtain ⟨⟨_, hh, hl, hn⟩, _⟩ := hc'
      have hp : p ≠ [] := by simpa using hh
      rw [tail_last] at hl hn
      have hu := up_free hf
      rw [up_dots, List.map_cons, List.tail_cons, dm_dot (by simpa [upL] using hp) (hu _ (by simp)) (fun x hx => hu x (List.mem_cons_of_mem _ hx)) (by simp) (fun x hx => hf x (List.mem_cons_of_mem _ hx))]
      have hlu : ∀ l : List (List Nat), (l.map upL).map lowL = l.map lowL := fun l => by
        rw [List.map_map]; exact List.map_congr_left fun x _ => low_up x
      rw [← List.map_cons, hlu, hlu, isHDN_lowered (by simp) hf, isHDN_rest (fun x hx => hf x (List.mem_cons_of_mem _ hx)) hn hl, tail_last, hn, hl, hh]
      have : anyTail (prefD ((q :: r).map lowL)) ((q :: r).map lowL) = true := by
        show (prefD ((q :: r).map lowL) ((q :: r).map lowL) || _) = true
        have := prefD_app (bs := (q :: r).map lowL) (cs := []) (by simp)
        rw [List.append_nil] at this
        rw [this]; rfl
      rw [this]; simp
theorem upper11 {ps : List (List Nat)} (hf : ∀ p ∈ ps, 46 ∉ p) (hc : climbs11 ps = true) : dmL (upL (dots ps)) (dots ps.tail) = (ps.getD 1 [] == [] && !(ps.getD 2 [] == [])) := by
  match ps with
  | [] => simp [climbs11] at hc
  | [p] => simp [climbs11] at hc
  | p :: q :: r =>
    have hc' := hc
    unfold climbs11 at hc'
    simp only [Bool.and_eq_true, Bool.not_eq_true', Bool.or_eq_false_iff] at hc'
    obtain ⟨⟨_, hh, hl, hn⟩, h3⟩ := hc'
    have hp : p ≠ [] := by simpa using hh
    rw [tail_last] at hl hn
    rw [List.tail_cons]
    have hft : ∀ x ∈ q :: r, 46 ∉ x := fun x hx => hf x (List.mem_cons_of_mem _ hx)
    by_cases hq : q = []
    · subst hq
      match r with
      | [] => simp at h3; exact absurd h3 (by decide)
      | s :: t =>
        have hfs : ∀ x ∈ s :: t, 46 ∉ x := fun x hx => hft x (List.mem_cons_of_mem _ hx)
        have ed : dots ([] :: s :: t) = 46 :: dots (s :: t) := by rw [dots_cons _ _ (by simp)]; rfl
        have hu := up_free hf
        rw [tail_last] at hl hn
        rw [ed, up_dots, List.map_cons, dm_dot (by simpa [upL] using hp) (hu _ (by simp)) (fun x hx => hu x (List.mem_cons_of_mem _ hx)) (by simp) hfs]
        have hlu : ∀ l : List (List Nat), (l.map upL).map lowL = l.map lowL := fun l => by
          rw [List.map_map]; exact List.map_congr_left fun x _ => low_up x
        rw [← List.map_cons, hlu, hlu, isHDN_lowered (by simp) hf, isHDN_rest hfs hn hl, tail_last, tail_last, hn, hl, hh]
        have : anyTail (prefD ((s :: t).map lowL)) (([] :: s :: t).map lowL) = true := by
          show (_ || (prefD ((s :: t).map lowL) ((s :: t).map lowL) || _)) = true
          have := prefD_app (bs := (s :: t).map lowL) (cs := []) (by simp)
          rw [List.append_nil] at this
          rw [this]; simp
        rw [this]; simp
    · have hq' : (q == []) = false := by simpa using hq
      have hq46 : 46 ∉ q := hft q (by simp)
      have hhd : (dots (q :: r)).head? ≠ some 46 := by
        rw [(dots_head r hq46 hq).1]
        cases q with
        | nil => simp
        | cons x y => simp; intro e; exact hq46 (by simp [e])
      rw [dm_plain hhd, low_up]
      have : (lowL (dots (p :: q :: r)) == lowL (dots (q :: r))) = false := by
        rw [beq_eq_false_iff_ne]; intro e
        have := congrArg List.length e
        rw [low_len, low_len, dots_cons p _ (by simp)] at this
        simp at this; omega
      rw [this]
      show false = ((q == []) && _)
      rw [hq']; rfl
end Mine

end PartP11
section PartB22
open PySem PySem.W PyProof.Rows
namespace Mine
/-- the cells, or one naught -/
def orZero (cs : List Int) : List Int := if cs.isEmpty then [0] else cs
theorem orZero_ok {M : Int} (hM : 0 < M) {cs : List Int} {B : Nat} (hB : 1 ≤ B) (hl : cs.length ≤ B) (h : ∀ k ∈ cs, 0 ≤ k ∧ k < M) : orZero cs ≠ [] ∧ (orZero cs).length ≤ B ∧ ∀ k ∈ orZero cs, 0 ≤ k ∧ k < M := by
  unfold orZero
  cases cs with
  | nil => exact ⟨by simp, by simpa using hB, by simpa using hM⟩
  | cons a b => exact ⟨by simp, hl, h⟩
theorem getD_at {ps : List (List Nat)} {i : Nat} (h : i < ps.length) : pyIdx (ps.map strD) (i : Int) = some (strD (ps.getD i [])) := by
  rw [pyIdx_nat, List.getElem?_map, List.getD_eq_getElem?_getD, List.getElem?_eq_getElem h]; rfl
theorem lab_at {L : List (List Nat)} {i : Int} (h : 0 ≤ i ∧ i < L.length) : pyIdx (L.map strD) i = some (strD (L.getD i.toNat [])) := by
  have := getD_at (ps := L) (i := i.toNat) (by omega)
  rwa [show ((i.toNat : Nat) : Int) = i by omega] at this
theorem getD_mem {L : List (List Nat)} {i : Nat} (h : i < L.length) : L.getD i [] ∈ L := by
  rw [List.getD_eq_getElem?_getD, List.getElem?_eq_getElem h]; exact List.getElem_mem _
theorem lastD_mem {L : List (List Nat)} (h : L ≠ []) : L.getLastD [] ∈ L := by
  rw [List.getLastD_eq_getLast?, List.getLast?_eq_some_getLast h]; exact List.getLast_mem h
/-- cells[:C] or [0] -/
theorem Ev.orZero {c A env ρ σ e} {cs : List Int} {C : Nat} {u1 u2 : Nat} {p1 p2 p3 p4 p5 p6 : Pos} (h : EvL c A env ρ σ e (cs.map .int)) (hz : cs.length ≤ 2 ^ 20)
    (hsub : ∃ f : Value → Value → List Value, ∀ o i, subscripted (.Slice none (some (.Constant (.int (C : Int)) u1 p1)) none p2) false o i = operate (f o i) (getItem o i))
    (hst : starEach [.Constant (.int 0) u2 p3] env = (false, eval (.Constant (.int 0) u2 p3) env) :: starEach [] env) :
    Ev c A env ρ σ (.BoolOp .Or [.Subscript e (.Slice none (some (.Constant (.int (C : Int)) u1 p1)) none p2) p4, .List [.Constant (.int 0) u2 p3] p5] p6) (.list ((Mine.orZero (cs.take C)).map .int)) := by
  have hz1 : (cs.map PyData.int).length ≤ sizeLine := by rw [sizeLine_eq]; simp; omega
  have hz2 : ((cs.take C).map PyData.int).length ≤ sizeLine := by rw [sizeLine_eq]; simp; omega
  refine Ev.or (Ev.to (EvL.slice h EvP.none (EvP.some Ev.int) EvP.none (by simp) hz1 hsub) (d' := .list ((cs.take C).map .int)) (by rw [pick_to, List.map_take])) (TruOK.list hz2) (fun h => ?_) (fun h => ?_)
  · have : (cs.take C).isEmpty = false := by simpa using h
    unfold Mine.orZero; rw [this]; rfl
  · have : (cs.take C).isEmpty = true := by simpa using h
    unfold Mine.orZero; rw [this, if_pos rfl]
    exact Ev.bool_one (Ev.list (.cons Ev.int .nil hst) (by rw [sizeLine_eq]; simp))
theorem anyTail_iff {p : List (List Nat) → Bool} : ∀ {cs : List (List Nat)}, anyTail p cs = true ↔ ∃ k, k < cs.length ∧ p (cs.drop k) = true
  | [] => by simp [anyTail]
  | c :: cs => by
    show (p (c :: cs) || anyTail p cs) = true ↔ _
    rw [Bool.or_eq_true, anyTail_iff]
    constructor
    · rintro (h | ⟨k, hk, h⟩)
      · exact ⟨0, by simp, h⟩
      · exact ⟨k + 1, by simpa using hk, h⟩
    · rintro ⟨k, hk, h⟩
      cases k with
      | zero => exact .inl h
      | succ k => exact .inr ⟨k, by simpa using hk, h⟩
theorem isHDN_lowL (l : List Nat) : isHDN (lowL l) = isHDN l := by
  have hf := split_free l
  have h0 := splitD_ne l
  rw [← dots_split l, low_dots]
  generalize splitD l = ps at *
  match ps, h0 with
  | [p], _ =>
    have hp : 46 ∉ p := hf p (by simp)
    show isHDN (lowL p) = isHDN p
    rw [isHDN_one hp, isHDN_one (fun e => hp (low_free.mp e))]; cases p <;> rfl
  | p :: q :: r, _ => rw [isHDN_lowered (by simp) hf, isHDN_dots2 (by simp) hf]
/-- domain_match of a host of pieces, in capitals, and a dot and any text -/
theorem dm_any {cs : List (List Nat)} {rest : List Nat} (hc0 : cs ≠ []) (hcs : ∀ p ∈ cs, 46 ∉ p) (hcn : ∀ p ∈ cs, p ≠ []) :
    dmL (upL (dots cs)) (46 :: rest) = ((decide (cs.length = 1) || !isNum (cs.getLastD [])) && isHDN rest && anyTail (fun t => (lowL rest).isPrefixOf (lowL (dots t))) cs.tail) := by
  have hf := split_free rest
  have h0 := splitD_ne rest
  rw [← dots_split rest]
  generalize splitD rest = bs at *
  match cs, hc0 with
  | c :: cs, _ =>
    have hu := up_free hcs
    rw [up_dots, List.map_cons, dm_dot (by simpa [upL] using hcn c (by simp)) (hu _ (by simp)) (fun p hp => hu p (List.mem_cons_of_mem _ hp)) h0 hf]
    have hlu : ∀ l : List (List Nat), (l.map upL).map lowL = l.map lowL := fun l => by
      rw [List.map_map]; exact List.map_congr_left fun x _ => low_up x
    rw [← List.map_cons, hlu, hlu, isHDN_low (by simp) hcs hcn, ← low_dots, isHDN_lowL]
    congr 1
    rw [Bool.eq_iff_iff, anyTail_iff, anyTail_iff, List.length_map]
    have key : ∀ k, k < cs.length → (prefD (bs.map lowL) ((cs.map lowL).drop k) = true ↔ (lowL (dots bs)).isPrefixOf (lowL (dots (cs.drop k))) = true) := fun k hk => by
      rw [← List.map_drop, ← pref_dots _ _ (by simpa using h0) (by simpa using hk) (low_mem_free hf) (low_mem_free fun p hp => hcs p (List.mem_cons_of_mem _ (List.mem_of_mem_drop hp))), ← low_dots, ← low_dots, List.isPrefixOf_iff_prefix]
    constructor
    · rintro ⟨k, hk, h⟩; exact ⟨k, hk, (key k hk).mp h⟩
    · rintro ⟨k, hk, h⟩; exact ⟨k, hk, (key k hk).mpr h⟩
/-- climbing where no piece is empty -/
theorem climbs_ne {ps : List (List Nat)} (hne : ∀ p ∈ ps, p ≠ []) : climbs11 ps = (decide (2 ≤ ps.length) && !isNum (ps.getLastD []) && (decide (2 < ps.length) || ps.getLastD [] == local5)) := by
  unfold climbs11
  match ps with
  | [] => rfl
  | [p] => simp
  | [p, q] =>
    have h1 : (p == []) = false := by simpa using hne p (by simp)
    have h2 : (q == []) = false := by simpa using hne q (by simp)
    simp [h1, h2]
  | p :: q :: r :: s =>
    have h1 : (p == []) = false := by simpa using hne p (by simp)
    have h2 : ((p :: q :: r :: s).getLastD [] == []) = false := by simpa using hne _ (lastD_mem (by simp))
    rw [h2]
    simp [h1]
theorem reach_ne {ps : List (List Nat)} (h0 : ps ≠ []) (hf : ∀ p ∈ ps, 46 ∉ p) (hne : ∀ p ∈ ps, p ≠ []) : reachL (dots ps) = if decide (2 ≤ ps.length) && !isNum (ps.getLastD []) && (decide (2 < ps.length) || ps.getLastD [] == local5) then 46 :: dots ps.tail else dots ps := by
  rw [rch11 h0 hf, climbs_ne hne]
theorem drop_last {R : List (List Nat)} {j : Nat} (h : j < R.length) : (R.drop j).getLastD [] = R.getLastD [] := by
  rw [List.getLastD_eq_getLast?, List.getLastD_eq_getLast?, List.getLast?_drop, if_neg (by omega)]
end Mine

end PartB22
section PartB23
open PySem PySem.W PyProof.Rows
namespace Mine
theorem fdivN (a b : Nat) : (a : Int).fdiv (b : Int) = ((a / b : Nat) : Int) := by
  rw [Int.fdiv_eq_ediv_of_nonneg _ (by omega)]; simp
theorem fmodN (a b : Nat) : (a : Int).fmod (b : Int) = ((a % b : Nat) : Int) := by
  rw [Int.fmod_eq_emod_of_nonneg _ (by omega)]; simp
section
variable {c : Cx} {A : Around} {env : Env} {ρ : Rho} {σ : Sig} {P : Fl → Rho → Sig → Prop}
theorem Ev.fdivN {l r pos} {a b : Nat} (h1 : Ev c A env ρ σ l (natD a)) (h2 : Ev c A env ρ σ r (natD b)) (h0 : 0 < b) (hb : b < 2 ^ 64) : Ev c A env ρ σ (.BinOp l .FloorDiv r pos) (natD (a / b)) :=
  Ev.to (Ev.bin h1 h2 (BinOK.fdiv_int (by rw [beq_eq_false_iff_ne]; omega) (noPy (by omega) (by omega)))) (by rw [Mine.fdivN])
theorem Ev.modN {l r pos} {a b : Nat} (h1 : Ev c A env ρ σ l (natD a)) (h2 : Ev c A env ρ σ r (natD b)) (h0 : 0 < b) : Ev c A env ρ σ (.BinOp l .Mod r pos) (natD (a % b)) :=
  Ev.to (Ev.bin h1 h2 (BinOK.mod_int (by rw [beq_eq_false_iff_ne]; omega))) (by rw [Mine.fmodN])
theorem Ev.addN {l r pos} {a b : Nat} (h1 : Ev c A env ρ σ l (natD a)) (h2 : Ev c A env ρ σ r (natD b)) : Ev c A env ρ σ (.BinOp l .Add r pos) (natD (a + b)) :=
  Ev.to (Ev.bin h1 h2 BinOK.add_int) (by congr 1)
theorem Ev.subN {l r pos} {a b : Nat} (h1 : Ev c A env ρ σ l (natD a)) (h2 : Ev c A env ρ σ r (natD b)) (h : b ≤ a) : Ev c A env ρ σ (.BinOp l .Sub r pos) (natD (a - b)) :=
  Ev.to (Ev.bin h1 h2 BinOK.sub_int) (by congr 1; omega)
theorem Ev.powN {l r pos} {a k : Nat} (h1 : Ev c A env ρ σ l (natD a)) (h2 : Ev c A env ρ σ r (natD k)) (ha : 1 < a) (hb : Builtin.Int.intBits (a : Int) ≤ 64) (hk : k ≤ 1000) : Ev c A env ρ σ (.BinOp l .Pow r pos) (natD (a ^ k)) :=
  Ev.to (Ev.bin h1 h2 (BinOK.pow_int (by omega) (by omega) (by
    unfold Builtin.Int.intTooBig
    rw [decide_eq_false_iff_not]
    have h3 : ((Builtin.Int.intBits (a : Int) : Nat) : Int) * (k : Int) ≤ ((64000 : Nat) : Int) := by
      have h4 : Builtin.Int.intBits (a : Int) * k ≤ 64000 := Nat.mul_le_mul hb hk
      rw [← Int.natCast_mul]; exact Int.ofNat_le.mpr h4
    have h2 : (64000 : Nat) ≤ bitsLine := by decide +kernel
    omega))) (by simp [natD])
theorem CmpOK.eqN {a b : Nat} : CmpOK c A .Eq (natD a) (natD b) (a == b) := by
  have := CmpOK.eq_int (c := c) (A := A) (a := (a : Int)) (b := (b : Int))
  rwa [show ((a : Int) == (b : Int)) = (a == b) by rw [Bool.eq_iff_iff, beq_iff_eq, beq_iff_eq]; omega] at this
theorem CmpOK.neN {a b : Nat} : CmpOK c A .NotEq (natD a) (natD b) (!(a == b)) := by
  have := CmpOK.ne_int (c := c) (A := A) (a := (a : Int)) (b := (b : Int))
  rwa [show ((a : Int) != (b : Int)) = !(a == b) by rw [Bool.eq_iff_iff, bne_iff_ne, Bool.not_eq_true', beq_eq_false_iff_ne]; omega] at this
theorem CmpOK.gtN {a b : Nat} : CmpOK c A .Gt (natD a) (natD b) (decide (b < a)) := by
  have := CmpOK.gt_int (c := c) (A := A) (a := (a : Int)) (b := (b : Int))
  rwa [show decide ((a : Int) > (b : Int)) = decide (b < a) by rw [decide_eq_decide]; omega] at this
theorem CmpOK.ltN {a b : Nat} : CmpOK c A .Lt (natD a) (natD b) (decide (a < b)) := by
  have := CmpOK.lt_int (c := c) (A := A) (a := (a : Int)) (b := (b : Int))
  rwa [show decide ((a : Int) < (b : Int)) = decide (a < b) by rw [decide_eq_decide]; omega] at this
end
/-- figures by m, the lowest first -/
def digsN (m n s : Nat) : List Nat := (List.range s).map fun k => n / m ^ k % m
theorem digsN_len (m n s : Nat) : (digsN m n s).length = s := by simp [digsN]
theorem digsN_succ (m n s : Nat) : digsN m n (s + 1) = n % m :: digsN m (n / m) s := by
  unfold digsN
  rw [List.range_succ_eq_map, List.map_cons, List.map_map]
  congr 1
  · simp
  · refine List.map_congr_left fun k _ => ?_
    simp only [Function.comp]
    rw [Nat.div_div_eq_div_mul, Nat.pow_succ']
theorem digsN_drop (m : Nat) : ∀ (k n s : Nat), (digsN m n s).drop k = digsN m (n / m ^ k) (s - k)
  | 0, n, s => by simp
  | k + 1, n, 0 => by simp [digsN]
  | k + 1, n, s + 1 => by
    rw [digsN_succ, List.drop_succ_cons, digsN_drop m k (n / m) s, Nat.div_div_eq_div_mul, ← Nat.pow_succ', Nat.add_sub_add_right]
theorem digsN_take {m n s t : Nat} (h : t ≤ s) : (digsN m n s).take t = digsN m n t := by
  unfold digsN; rw [← List.map_take, List.take_range, Nat.min_eq_left h]
theorem digsN_lt {m n s : Nat} (hm : 0 < m) : ∀ d ∈ digsN m n s, d < m := fun d hd => by
  obtain ⟨k, _, rfl⟩ := List.mem_map.mp hd; exact Nat.mod_lt _ hm
theorem digsN_inj {m : Nat} (hm : 0 < m) : ∀ (s a b : Nat), digsN m a s = digsN m b s ↔ a % m ^ s = b % m ^ s
  | 0, a, b => by simp [digsN, Nat.mod_one]
  | s + 1, a, b => by
    rw [digsN_succ, digsN_succ, List.cons.injEq, digsN_inj hm s, Nat.pow_succ', Nat.mod_mul, Nat.mod_mul]
    constructor
    · rintro ⟨h1, h2⟩; rw [h1, h2]
    · intro h
      have ha := Nat.mod_lt a hm; have hb := Nat.mod_lt b hm
      have h1 : a % m = b % m := by
        have := congrArg (· % m) h
        simpa using this
      refine ⟨h1, ?_⟩
      rw [h1] at h
      exact Nat.eq_of_mul_eq_mul_left hm (by omega)
theorem digsN_last {m n s : Nat} (h : n < m ^ (s + 1)) : (digsN m n (s + 1)).getLast? = some (n / m ^ s) := by
  unfold digsN
  rw [List.range_succ, List.map_append, List.getLast?_append]
  simp
  have : n / m ^ s < m := by rw [Nat.pow_succ, Nat.mul_comm] at h; exact Nat.div_lt_of_lt_mul (by rwa [Nat.mul_comm] at h)
  exact Nat.mod_eq_of_lt this
/-- no label begins another: beginnings of rows are beginnings of their figures -/
theorem prefD_digs {f : Nat → List Nat} {m : Nat} (hf : ∀ a, a < m → ∀ b, b < m → (f a).isPrefixOf (f b) = (a == b)) : ∀ {as bs : List Nat}, as ≠ [] → (∀ a ∈ as, a < m) → (∀ b ∈ bs, b < m) → prefD (as.map f) (bs.map f) = as.isPrefixOf bs
  | [], _, h, _, _ => absurd rfl h
  | [a], [], _, _, _ => rfl
  | [a], b :: bs, _, ha, hb => by
    show (f a).isPrefixOf (f b) = ((a == b) && true)
    rw [hf a (ha a (by simp)) b (hb b (by simp))]; simp
  | a :: a' :: as, [], _, _, _ => rfl
  | a :: a' :: as, b :: bs, _, ha, hb => by
    show (f a == f b && prefD ((a' :: as).map f) (bs.map f)) = ((a == b) && (a' :: as).isPrefixOf bs)
    rw [prefD_digs hf (by simp) (fun x hx => ha x (List.mem_cons_of_mem _ hx)) (fun x hx => hb x (List.mem_cons_of_mem _ hx))]
    congr 1
    rw [Bool.eq_iff_iff, beq_iff_eq, beq_iff_eq]
    constructor
    · intro e
      have h1 := hf a (ha a (by simp)) b (hb b (by simp))
      rw [e] at h1
      have h2 : (f b).isPrefixOf (f b) = true := by rw [List.isPrefixOf_iff_prefix]; exact List.prefix_refl _
      rw [h2] at h1; simpa using h1.symm
    · rintro rfl; rfl
end Mine

end PartB23
section PartP07
open PySem PySem.W PyProof.Rows
namespace Mine
/-- the greatest number up to n with p, 0 if none -/
def big (p : Nat → Bool) : Nat → Nat
  | 0 => 0
  | n + 1 => if p (n + 1) then n + 1 else big p n
theorem big_le (p : Nat → Bool) : ∀ n, big p n ≤ n
  | 0 => Nat.le_refl _
  | n + 1 => by unfold big; have := big_le p n; split <;> omega
theorem big_or (p q : Nat → Bool) : ∀ n, big (fun j => p j || q j) n = max (big p n) (big q n)
  | 0 => rfl
  | n + 1 => by
    have ih := big_or p q n
    have h1 := big_le p n; have h2 := big_le q n
    simp only [big]
    rw [ih]
    by_cases hp : p (n + 1) = true <;> by_cases hq : q (n + 1) = true <;> simp [hp, hq] <;> omega
theorem big_congr {p q : Nat → Bool} : ∀ {n}, (∀ j, 1 ≤ j → j ≤ n → p j = q j) → big p n = big q n
  | 0, _ => rfl
  | n + 1, h => by
    unfold big
    rw [h (n + 1) (by omega) (by omega), big_congr (n := n) fun j h1 h2 => h j h1 (by omega)]
theorem big_false : ∀ n, big (fun _ => false) n = 0
  | 0 => rfl
  | n + 1 => by unfold big; simp [big_false n]
theorem down_all {p : Nat → Bool} {n : Nat} (h : ∀ j, 1 ≤ j → j < n → p (j + 1) = true → p j = true) : ∀ {k j : Nat}, 1 ≤ j → j ≤ k → k ≤ n → p k = true → p j = true
  | 0, j, h1, h2, _, _ => by omega
  | k + 1, j, h1, h2, h3, hk => by
    by_cases e : j = k + 1
    · rw [e]; exact hk
    · exact down_all h h1 (by omega) (by omega) (h k (by omega) (by omega) hk)
theorem big_eq {p : Nat → Bool} : ∀ {n m : Nat}, (∀ j, 1 ≤ j → j < n → p (j + 1) = true → p j = true) → m ≤ n → (1 ≤ m → p m = true) → (m < n → p (m + 1) = false) → big p n = m
  | 0, m, _, h1, _, _ => by have : m = 0 := by omega
                            subst this; rfl
  | n + 1, m, h, h1, h2, h3 => by
    unfold big
    by_cases e : m = n + 1
    · rw [e] at h2 ⊢; rw [h2 (by omega), if_pos rfl]
    · have hp : p (n + 1) = false := by
        cases q : p (n + 1) with
        | false => rfl
        | true =>
          have := down_all h (k := n + 1) (j := m + 1) (by omega) (by omega) (by omega) q
          rw [h3 (by omega)] at this; cases this
      rw [hp, if_neg (by simp)]
      exact big_eq (fun j a b => h j a (by omega)) (by omega) h2 (fun a => h3 (by omega))
theorem big_iff {p : Nat → Bool} {n : Nat} (h : ∀ j, 1 ≤ j → j < n → p (j + 1) = true → p j = true) : ∀ {j : Nat}, 1 ≤ j → j ≤ n → p j = decide (j ≤ big p n) := by
  induction n with
  | zero => intro j h1 h2; omega
  | succ n ih =>
    intro j h1 h2
    unfold big
    cases q : p (n + 1) with
    | true => rw [if_pos rfl, down_all h h1 h2 (Nat.le_refl _) q]; simp; omega
    | false =>
      rw [if_neg (by simp)]
      by_cases e : j = n + 1
      · subst e; rw [q]; have := big_le p n; simp; omega
      · exact ih (fun j a b => h j a (by omega)) h1 (by omega)
/-- the last j pieces -/
def sfx (F : List (List Nat)) (j : Nat) : List (List Nat) := F.drop (F.length - j)
theorem getD_at' {L : List (List Nat)} {i : Nat} (h : i < L.length) : L.getD i [] = L[i] := by
  rw [List.getD_eq_getElem?_getD, List.getElem?_eq_getElem h]; rfl
theorem sfx_len {F : List (List Nat)} {j : Nat} (h : j ≤ F.length) : (sfx F j).length = j := by unfold sfx; rw [List.length_drop]; omega
theorem sfx_succ {F : List (List Nat)} {j : Nat} (h : j < F.length) : sfx F (j + 1) = F.getD (F.length - 1 - j) [] :: sfx F j := by
  unfold sfx
  have h1 : F.length - (j + 1) < F.length := by omega
  rw [List.drop_eq_getElem_cons h1, getD_at' (by omega)]
  congr 1
  · congr 1; omega
  · congr 1; omega
theorem sfx_tail {F : List (List Nat)} {j : Nat} (h1 : 1 ≤ j) (h : j ≤ F.length) : (sfx F j).tail = sfx F (j - 1) := by
  obtain ⟨i, rfl⟩ : ∃ i, j = i + 1 := ⟨j - 1, by omega⟩
  rw [sfx_succ (by omega)]; rfl
theorem sfx_all {F : List (List Nat)} : sfx F F.length = F := by unfold sfx; simp
theorem sfx_last {F : List (List Nat)} {j : Nat} (h1 : 1 ≤ j) (h : j ≤ F.length) : (sfx F j).getLastD [] = F.getLastD [] := drop_last (by omega)
theorem sfx_ne {F : List (List Nat)} {j : Nat} (h1 : 1 ≤ j) (h : j ≤ F.length) : sfx F j ≠ [] := by
  intro e; have := sfx_len h; rw [e] at this; simp at this; omega
theorem sfx_map {F : List (List Nat)} {j : Nat} (f : List Nat → List Nat) : (sfx F j).map f = sfx (F.map f) j := by unfold sfx; rw [List.map_drop, List.length_map]
theorem sfx_mem {F : List (List Nat)} {j : Nat} {x : List Nat} (h : x ∈ sfx F j) : x ∈ F := List.mem_of_mem_drop h
def domT (F : List (List Nat)) (j : Nat) : List Nat := if j = 0 then [] else 46 :: dots (sfx F j)
def okN (F : List (List Nat)) (j : Nat) : Bool := !isNum (F.getLastD []) && (decide (1 < j) || (j == 1 && F.getLastD [] == local5))
def nrm (F : List (List Nat)) (j : Nat) : Nat := if okN F j then j else 0
theorem nrm_le (F : List (List Nat)) (j : Nat) : nrm F j ≤ j := by unfold nrm; split <;> omega
theorem okN_zero {F : List (List Nat)} : okN F 0 = false := by simp [okN]
theorem nrm_zero {F : List (List Nat)} : nrm F 0 = 0 := by unfold nrm; rw [okN_zero]; rfl
theorem okN_up {F : List (List Nat)} {i j : Nat} (h : okN F i = true) (hij : i ≤ j) : okN F j = true := by
  unfold okN at h ⊢
  simp only [Bool.and_eq_true, Bool.or_eq_true, decide_eq_true_eq, beq_iff_eq] at h ⊢
  refine ⟨h.1, ?_⟩
  rcases h.2 with h2 | h2
  · exact .inl (by omega)
  · by_cases e : j = 1
    · exact .inr ⟨e, h2.2⟩
    · exact .inl (by omega)
theorem nrm_min {F : List (List Nat)} (k L : Nat) : nrm F (min (nrm F k) L) = nrm F (min k L) := by
  by_cases h : okN F k = true
  · have : nrm F k = k := by unfold nrm; rw [if_pos h]
    rw [this]
  · have e1 : nrm F k = 0 := by unfold nrm; rw [if_neg h]
    have e2 : okN F (min k L) = false := by
      cases q : okN F (min k L) with
      | false => rfl
      | true => exact absurd (okN_up q (by omega)) h
    rw [e1, Nat.zero_min, nrm_zero]; unfold nrm; rw [e2]; rfl
theorem nrm_idem {F : List (List Nat)} (k : Nat) : nrm F (nrm F k) = nrm F k := by
  by_cases h : okN F k = true
  · have : nrm F k = k := by unfold nrm; rw [if_pos h]
    rw [this, this]
  · have e1 : nrm F k = 0 := by unfold nrm; rw [if_neg h]
    rw [e1, nrm_zero]
theorem nrm_step {F : List (List Nat)} {j L : Nat} (h : L < j) : nrm F (min (nrm F (j - 1)) L) = nrm F (min j L) := by
  rw [nrm_min, Nat.min_eq_right (by omega), Nat.min_eq_right (by omega)]
structure Labs (F : List (List Nat)) : Prop where
  ne : F ≠ []
  dot : ∀ p ∈ F, 46 ∉ p
  full : ∀ p ∈ F, p ≠ []
theorem rch07 {F : List (List Nat)} (H : Labs F) {j : Nat} (h1 : 1 ≤ j) (h : j ≤ F.length) : reachL (dots (sfx F j)) = if okN F (j - 1) then domT F (j - 1) else dots (sfx F j) := by
  rw [reach_ne (sfx_ne h1 h) (fun p hp => H.dot p (sfx_mem hp)) (fun p hp => H.full p (sfx_mem hp)), sfx_len h, sfx_last h1 h, sfx_tail h1 h]
  have e : (decide (2 ≤ j) && !isNum (F.getLastD []) && (decide (2 < j) || F.getLastD [] == local5)) = okN F (j - 1) := by
    unfold okN
    rw [Bool.eq_iff_iff]
    simp only [Bool.and_eq_true, Bool.or_eq_true, decide_eq_true_eq, beq_iff_eq]
    constructor
    · rintro ⟨⟨a, b⟩, c⟩
      refine ⟨b, ?_⟩
      rcases c with c | c
      · exact .inl (by omega)
      · by_cases e : j = 2
        · exact .inr ⟨by omega, c⟩
        · exact .inl (by omega)
    · rintro ⟨b, c⟩
      rcases c with c | c
      · exact ⟨⟨by omega, b⟩, .inl (by omega)⟩
      · exact ⟨⟨by omega, b⟩, .inr c.2⟩
  rw [e]
  cases q : okN F (j - 1) with
  | false => rfl
  | true =>
    have : j - 1 ≠ 0 := by intro e0; rw [e0, okN_zero] at q; cases q
    rw [if_pos rfl, if_pos rfl]; unfold domT; rw [if_neg this]
theorem dots_nodot {F : List (List Nat)} (H : Labs F) {j : Nat} (h1 : 1 ≤ j) (h : j ≤ F.length) : (dots (sfx F j)).head? ≠ some 46 ∧ dots (sfx F j) ≠ [] := by
  match hs : sfx F j with
  | [] => exact absurd hs (sfx_ne h1 h)
  | p :: r =>
    have hp : p ∈ F := sfx_mem (j := j) (by rw [hs]; simp)
    have := dots_head r (H.dot p hp) (H.full p hp)
    refine ⟨?_, this.2⟩
    rw [this.1]
    intro e
    cases p with
    | nil => cases e
    | cons x y => simp at e; exact H.dot _ hp (by simp [e])
theorem domT_ne {F : List (List Nat)} {j k : Nat} (H : Labs F) (h1 : 1 ≤ j) (h : j ≤ F.length) (hk : k ≠ 0) : (domT F k == dots (sfx F j)) = false := by
  rw [beq_eq_false_iff_ne]; intro e
  refine (dots_nodot H h1 h).1 ?_
  rw [← e]; unfold domT; rw [if_neg hk]; rfl
/-- one step up: the reach, or nothing where that gives the same -/
theorem up07 {F : List (List Nat)} (H : Labs F) {j : Nat} (h1 : 1 ≤ j) (h : j ≤ F.length) : (if reachL (dots (sfx F j)) == dots (sfx F j) then [] else reachL (dots (sfx F j))) = domT F (nrm F (j - 1)) := by
  rw [rch07 H h1 h]
  cases q : okN F (j - 1) with
  | false => simp [nrm, q, domT]
  | true =>
    have hk : j - 1 ≠ 0 := by intro e0; rw [e0, okN_zero] at q; cases q
    rw [if_pos rfl, domT_ne H h1 h hk]; simp [nrm, q]
/-- in small letters: does the last j of G stand in S behind its first, the last one maybe longer -/
def mtL (G S : List (List Nat)) (j : Nat) : Bool := !(S.getLastD [] == [55]) && anyTail (prefD (sfx G j)) S.tail
theorem prefD_two {a b : List Nat} {as cs : List (List Nat)} (hb : as ≠ []) : prefD (a :: as) cs = (match cs with | [] => false | c :: cs => a == c && prefD as cs) := by
  match as, hb with
  | b :: as, _ => cases cs <;> rfl
theorem mtL_down {G S : List (List Nat)} {j : Nat} (h1 : 1 ≤ j) (h : j < G.length) (hm : mtL G S (j + 1) = true) : mtL G S j = true := by
  unfold mtL at hm ⊢
  rw [Bool.and_eq_true] at hm ⊢
  refine ⟨hm.1, ?_⟩
  obtain ⟨k, hk, hp⟩ := anyTail_iff.mp hm.2
  rw [sfx_succ h, prefD_two (b := []) (sfx_ne h1 (by omega))] at hp
  refine anyTail_iff.mpr ⟨k + 1, ?_⟩
  match hc : S.tail.drop k with
  | [] => rw [hc] at hp; cases hp
  | c :: cs =>
    rw [hc] at hp
    simp only [Bool.and_eq_true] at hp
    have e : S.tail.drop (k + 1) = cs := by rw [← List.drop_drop, hc]; rfl
    have hl := prefD_len hp.2
    rw [sfx_len (by omega)] at hl
    have hl2 := congrArg List.length hc
    rw [List.length_drop] at hl2
    simp at hl2
    refine ⟨by simp; omega, ?_⟩
    rw [e]; exact hp.2
def lng (G S : List (List Nat)) : Nat := big (mtL G S) G.length
theorem lng_iff {G S : List (List Nat)} {j : Nat} (h1 : 1 ≤ j) (h : j ≤ G.length) : mtL G S j = decide (j ≤ lng G S) := big_iff (fun j a b => mtL_down a b) h1 h
theorem match07 {F R : List (List Nat)} (H : Labs F) (K : Labs R) (hR : isNum (R.getLastD []) = (lowL (R.getLastD []) == [55])) {j : Nat} (h1 : 1 ≤ j) (h : j ≤ F.length) (ho : okN F j = true) :
    dmL (upL (dots R)) (46 :: dots (sfx F j)) = decide (j ≤ lng (F.map lowL) (R.map lowL)) := by
  rw [dm_up K.ne K.dot K.full (sfx_ne h1 h) (fun p hp => H.dot p (sfx_mem hp)) (fun p hp => H.full p (sfx_mem hp)), sfx_last h1 h, ← lng_iff h1 (by simpa using h)]
  have hn : isNum (F.getLastD []) = false := by
    unfold okN at ho; rw [Bool.and_eq_true, Bool.not_eq_true'] at ho; exact ho.1
  unfold mtL
  rw [hn, lastD_map lowL rfl, ← hR, sfx_map, List.map_tail]
  by_cases e : R.length = 1
  · have e2 : (R.map lowL).tail = [] := by
      match R, e with
      | [x], _ => rfl
    rw [e2]; simp [anyTail]
  · simp [e]
/-- the code's way: ends at e -/
def endAt (G S : List (List Nat)) (e j : Nat) : Bool := decide (j ≤ e) && prefD (sfx G j) (S.drop (e + 1 - j))
theorem mtL_ends {G S : List (List Nat)} {j : Nat} (h1 : 1 ≤ j) (h : j ≤ G.length) : mtL G S j = (!(S.getLastD [] == [55]) && (List.range (S.length - 1)).any fun i => endAt G S (1 + i) j) := by
  unfold mtL
  congr 1
  rw [Bool.eq_iff_iff, anyTail_iff, List.any_eq_true]
  constructor
  · rintro ⟨k, hk, hp⟩
    have hl := prefD_len hp
    rw [sfx_len h] at hl
    rw [List.length_drop, List.length_tail] at hl
    refine ⟨k + j - 1, List.mem_range.mpr (by omega), ?_⟩
    unfold endAt
    rw [Bool.and_eq_true, decide_eq_true_eq]
    refine ⟨by omega, ?_⟩
    rw [show 1 + (k + j - 1) + 1 - j = k + 1 by omega]
    rw [← List.drop_one, List.drop_drop, Nat.add_comm 1 k] at hp
    exact hp
  · rintro ⟨i, hi, hp⟩
    have hi := List.mem_range.mp hi
    unfold endAt at hp
    rw [Bool.and_eq_true, decide_eq_true_eq] at hp
    refine ⟨1 + i - j, by rw [List.length_tail]; omega, ?_⟩
    rw [← List.drop_one, List.drop_drop, show 1 + (1 + i - j) = 1 + i + 1 - j by omega]
    exact hp.2
theorem endAt_one {G S : List (List Nat)} {e : Nat} (hG : G ≠ []) (h1 : 1 ≤ e) (he : e < S.length) : endAt G S e 1 = (G.getLastD []).isPrefixOf (S.getD e []) := by
  have hg : 0 < G.length := List.length_pos_iff.mpr hG
  unfold endAt
  rw [decide_eq_true h1, Bool.true_and, sfx_succ hg, show e + 1 - 1 = e by omega, List.drop_eq_getElem_cons he, getD_at' he]
  have e1 : sfx G 0 = [] := by unfold sfx; simp
  have e2 : G.getD (G.length - 1 - 0) [] = G.getLastD [] := by
    rw [List.getLastD_eq_getLast?, List.getLast?_eq_getElem?, List.getD_eq_getElem?_getD]; rfl
  rw [e1, e2]; rfl
theorem endAt_succ {G S : List (List Nat)} {e m : Nat} (h1 : 1 ≤ m) (hm : m < G.length) (hme : m < e) (he : e < S.length) : endAt G S e (m + 1) = (S.getD (e - m) [] == G.getD (G.length - 1 - m) [] && endAt G S e m) := by
  unfold endAt
  have hd : e - m < S.length := by omega
  rw [decide_eq_true (by omega : m + 1 ≤ e), decide_eq_true (by omega : m ≤ e), Bool.true_and, Bool.true_and, sfx_succ hm, prefD_two (b := []) (sfx_ne h1 (by omega)), show e + 1 - (m + 1) = e - m by omega, List.drop_eq_getElem_cons hd, getD_at' hd]
  show (_ == _ && prefD _ (S.drop (e - m + 1))) = _
  rw [show e - m + 1 = e + 1 - m by omega, Bool.beq_comm]
theorem endAt_down {G S : List (List Nat)} {e j : Nat} (he : e < S.length) (h1 : 1 ≤ j) (h : j < G.length) (hm : endAt G S e (j + 1) = true) : endAt G S e j = true := by
  have hje : j < e := by
    unfold endAt at hm; rw [Bool.and_eq_true, decide_eq_true_eq] at hm; omega
  rw [endAt_succ h1 h hje he, Bool.and_eq_true] at hm
  exact hm.2
def bestTo (G S : List (List Nat)) (k : Nat) : Nat := big (fun j => !(S.getLastD [] == [55]) && (List.range k).any fun i => endAt G S (1 + i) j) G.length
theorem best_zero {G S : List (List Nat)} : bestTo G S 0 = 0 := by
  unfold bestTo
  rw [show (fun j => !(S.getLastD [] == [55]) && (List.range 0).any fun i => endAt G S (1 + i) j) = fun _ => false by funext j; simp]
  exact big_false _
theorem best_all {G S : List (List Nat)} : bestTo G S (S.length - 1) = lng G S := (big_congr fun j h1 h => mtL_ends h1 h).symm
theorem best_succ {G S : List (List Nat)} (k : Nat) : bestTo G S (k + 1) = max (bestTo G S k) (if S.getLastD [] == [55] then 0 else big (endAt G S (1 + k)) G.length) := by
  have : bestTo G S (k + 1) = big (fun j => (!(S.getLastD [] == [55]) && (List.range k).any fun i => endAt G S (1 + i) j) || (!(S.getLastD [] == [55]) && endAt G S (1 + k) j)) G.length := by
    unfold bestTo
    refine big_congr fun j _ _ => ?_
    rw [List.range_succ, List.any_append]
    cases (S.getLastD [] == [55]) <;> simp
  rw [this, big_or]
  congr 1
  cases (S.getLastD [] == [55])
  · simp
  · simp [big_false]
end Mine

end PartP07
section PartB24
open PySem PySem.W PyProof.Rows
namespace Mine
section
variable {c : Cx} {A : Around} {env : Env} {ρ : Rho} {σ : Sig} {P : Fl → Rho → Sig → Prop}
/-- two items out of a list -/
theorem unpack2_list {s : Shared} {E} {a : Addr} {v1 v2 : Value} {Q : List Value → Shared → Prop} (hh : A.handled = none) (hl : s.heap.IsList a #[v1, v2])
    (hQ : ∀ h' tk, Kp s.heap h' → Q [v1, v2] { s with heap := h', toks := tk }) : wpAny (model c.prog c.w) A (unpackItems (.ref a) 2 none) Q E s := by
  have hlt : a ≠ s.heap.objs.size := by obtain ⟨o, ho, _⟩ := hl; exact Nat.ne_of_lt (Heap.lt_size ho)
  have W := Walks.list (prog := c.prog) (w := c.w) (A := A) hh s.heap.objs.size a hlt #[v1, v2]
  unfold unpackItems
  refine wpAny_bind ?_
  unfold notIterableAtAll
  refine wpAny_bind (wpAny_specialOf hl.typeIs slot_list_iter.lookup ?_)
  refine wpAny_pure ?_
  simp only [Bool.false_eq_true, if_false]
  refine wpAny_bind (wpAny_holding (wpAny_pyIter_list hl ?_))
  refine wpAny_bind (wpAny_holding ?_)
  have k0 : ∀ b o, b ∉ [s.heap.objs.size] → s.heap.get? b = some o → (s.heap.push { cls := .type "list_iterator", data := .fields #[.ref a, .int 0 0] }).get? b = some o := fun b o _ e => Heap.get?_push_of_some _ e
  show wpAny _ _ (pyNext (.ref _) >>= _) _ _ _
  refine wpAny_bind (W.item 0 _ _ _ (by simp) ⟨⟨_, Heap.get?_push_size _ rfl, rfl, rfl⟩, hl.push _⟩ fun w1 h1 t1 hv1 hW1 hk1 => ?_)
  simp at hv1; subst hv1
  refine wpAny_bind (wpAny_holding ?_)
  show wpAny _ _ (pyNext (.ref _) >>= _) _ _ _
  refine wpAny_bind (W.item 1 _ _ _ (by simp) hW1 fun w2 h2 t2 hv2 hW2 hk2 => ?_)
  simp at hv2; subst hv2
  refine wpAny_bind (wpAny_holding (wpAny_pure (wpAny_pure (wpAny_pure ?_))))
  rw [if_neg (by simp)]
  refine wpAny_bind (wpAny_holding (W.done _ _ _ hW2 fun h3 t3 hk3 => ?_))
  simp only [Option.isSome_none, Bool.false_eq_true, if_false]
  refine wpAny_pure (hQ h3 t3 fun b o e => ?_)
  have hb : b ∉ [s.heap.objs.size] := by simp; exact Nat.ne_of_lt (Heap.lt_size e)
  exact hk3 b o hb (hk2 b o hb (hk1 b o hb (k0 b o hb e)))
theorem Asg.list2 {x y px py k pos d1 d2} (hh : A.handled = none) (kx : Slotted env x) (ky : Slotted env y) (hx : σ.lookup x = none) (hy : σ.lookup y = none) :
    Asg c A env (.Tuple [.Name x px, .Name y py] k pos) (.list [d1, d2]) ρ σ (upd (upd ρ x d1) y d2) := fun s₀ μ₀ m cm ν s v S r Q E hQ => by
  obtain ⟨a, vs, rfl, ht, ra⟩ := r.ls
  obtain ⟨v1, v2, rfl, r1, r2⟩ := two_of ra
  rw [assign_Tuple]
  refine wpAny_bind (wpAny_standAt ?_)
  unfold unpack
  refine wpAny_bind (wpAny_holding (unpack2_list hh ht fun h' tk kp => ?_))
  refine wpAny_assignInOrder_more (assign_Name ((S.grow (tk := tk) kp).store1 kx hx (r1.keeps kp) fun s' m' cm' S' kp' => ?_))
  refine wpAny_assignInOrder_more (assign_Name (S'.store ky hy ((r2.keeps kp).to fun b o hb e => ⟨hb, kp' b o hb e⟩) fun s'' S'' => ?_))
  exact wpAny_assignInOrder_none (hQ _ S'')
/-- two names take the items of a list -/
theorem Ex.assignU {x y px py k tp e pos d1 d2 rest} (h : Ev c A env ρ σ e (.list [d1, d2])) (hh : A.handled = none) (kx : Slotted env x) (ky : Slotted env y) (hx : σ.lookup x = none) (hy : σ.lookup y = none)
    (hs : swapsWithSole [.Tuple [.Name x px, .Name y py] k tp] e pos.line env = pure false) (hw : swappedStores [.Tuple [.Name x px, .Name y py] k tp] e env = pure none)
    (hn : Ex c A env (upd (upd ρ x d1) y d2) σ rest P) : Ex c A env ρ σ (.Assign [.Tuple [.Name x px, .Name y py] k tp] e pos :: rest) P := by
  refine Ex.step ?_ hn
  intro s₀ μ₀ s S E
  obtain ⟨m, cm, ν, S⟩ := S
  exact Assign_Tuple (h _ s S.env _ _ fun v g t k r => Asg.list2 hh kx ky hx hy s₀ μ₀ m cm ν _ v (S.grow k) r _ _ fun s' S' => ⟨_, _, ⟨rfl, rfl, rfl⟩, S'⟩) hs hw
end
end Mine

end PartB24
section PartB25
open PySem PySem.W PyProof.Rows
namespace Mine
section
variable {c : Cx} {A : Around} {env : Env} {ρ : Rho} {σ : Sig} {P : Fl → Rho → Sig → Prop}
/-- a new list, whatever its items -/
theorem StP.newlist0 {s₀ μ₀ m cm ν s x} {vs : Array Value} {tk n : Nat} (S : StP c s₀ env μ₀ ρ σ m cm ν s) (hx : σ.lookup x = none) :
    StP c s₀ env μ₀ ρ σ m cm ((x, s.heap.objs.size) :: ν) { s with heap := s.heap.push { cls := .type "list", data := .seq vs n }, toks := tk } ∧
    (∀ b o, b ∉ hid env ν μ₀ → s.heap.get? b = some o → b ∉ hid env ((x, s.heap.objs.size) :: ν) μ₀ ∧ (s.heap.push { cls := .type "list", data := .seq vs n }).get? b = some o) := by
  have keep : ∀ b o, b ∉ hid env ν μ₀ → s.heap.get? b = some o → b ∉ hid env ((x, s.heap.objs.size) :: ν) μ₀ ∧ (s.heap.push { cls := .type "list", data := .seq vs n }).get? b = some o := fun b o hb e => by
    refine ⟨fun q => ?_, Heap.get?_push_of_some _ e⟩
    rcases mem_hid.mp q with q | q | q | q
    · exact hb (mem_hid.mpr (.inl q))
    · exact hb (mem_hid.mpr (.inr (.inl q)))
    · simp only [List.map_cons, List.mem_cons] at q
      rcases q with q | q
      · subst q; exact Nat.lt_irrefl _ (Heap.lt_size e)
      · exact hb (mem_hid.mpr (.inr (.inr (.inl q))))
    · exact hb (mem_hid.mpr (.inr (.inr (.inr q))))
  have G := S.grow (tk := tk) (Kp.push (h := s.heap) { cls := .type "list", data := .seq vs n })
  refine ⟨⟨G.ic, S.gk, S.fn, S.gl, S.bl, S.cn, fun y d e => ?_, fun y ds e => ?_, ?_, ?_, S.out, ?_⟩, keep⟩
  · obtain ⟨v, V, r⟩ := S.vars y d e; exact ⟨v, V, r.to keep⟩
  · obtain ⟨a, ws, h1, h2, h3, h4⟩ := S.muts y ds e
    obtain ⟨k, h3⟩ := h3
    refine ⟨a, ws, ?_, h2, ⟨k, Heap.get?_push_of_some _ h3⟩, h4.to keep⟩
    rw [List.lookup_cons]
    have : (y == x) = false := by
      simp only [beq_eq_false_iff_ne]; rintro rfl; rw [hx] at e; cases e
    rw [this]; exact h1
  · simp only [List.map_cons]
    refine List.nodup_cons.mpr ⟨fun q => ?_, S.nd⟩
    obtain ⟨p, hp, e⟩ := List.mem_map.mp q
    obtain ⟨ws, k, h⟩ := S.lv p hp
    rw [e] at h
    exact Nat.lt_irrefl _ (Heap.lt_size h)
  · intro p hp
    rcases List.mem_cons.mp hp with rfl | hp
    · cases q : s₀.heap.get? s.heap.objs.size with
      | none => rfl
      | some o => exact absurd (Heap.lt_size (S.ic.keep _ _ q)) (Nat.lt_irrefl _)
    · exact S.new p hp
  · intro p hp
    rcases List.mem_cons.mp hp with rfl | hp
    · exact ⟨_, n, Heap.get?_push_size _ rfl⟩
    · exact G.lv p hp
/-- a hidden list that no name of σ holds, changed -/
theorem StP.chg0 {s₀ μ₀ m cm ν s x b} {vs vs' : Array Value} {h' : Heap} {tk : Nat} (S : StP c s₀ env μ₀ ρ σ m cm ν s) (hb : (x, b) ∈ ν) (hx : σ.lookup x = none)
    (hp0 : s.heap.PlainList b vs) (hp : h'.PlainList b vs') (hs : Heap.SameBut b s.heap h') :
    StP c s₀ env μ₀ ρ σ m cm ν { s with heap := h', toks := tk } := by
  have hmem : b ∈ hid env ν μ₀ := mem_hid.mpr (.inr (.inr (.inl (List.mem_map.mpr ⟨(x, b), hb, rfl⟩))))
  have keep : ∀ a o, a ∉ hid env ν μ₀ → s.heap.get? a = some o → a ∉ hid env ν μ₀ ∧ h'.get? a = some o := fun a o ha e => ⟨ha, hs.extBut a o (fun q => ha (q ▸ hmem)) e⟩
  refine ⟨⟨?_, S.ic.ns.sameBut hs (Ne.symm (ne_of_ns hp0 S.ic.ns)), fun a o e => ?_, fun k a ha => ?_, S.ic.apart, S.ic.offL, S.ic.offC⟩, S.gk, S.fn, S.gl, S.bl, S.cn, fun y d e => ?_, fun y ds e => ?_, S.nd, S.new, S.out, fun p hp' => ?_⟩
  · obtain ⟨h₁, tk', e⟩ := S.ic.same; exact ⟨h', tk, by rw [e]⟩
  · exact hs.extBut a o (ne_of_none (S.new _ hb) e) (S.ic.keep a o e)
  · exact (S.ic.cell k a ha).sameBut hs (Ne.symm (ne_of_cell hp0 (S.ic.cell k a ha)))
  · obtain ⟨v, V, r⟩ := S.vars y d e; exact ⟨v, V, r.to keep⟩
  · obtain ⟨a, ws, h1, h2, ⟨n, h3⟩, h4⟩ := S.muts y ds e
    have hne : a ≠ b := fun q => by
      subst q
      have := nodup_snd S.nd (lookup_mem h1) hb
      subst this; rw [hx] at e; cases e
    exact ⟨a, ws, h1, h2, ⟨n, hs.extBut a _ hne h3⟩, h4.to keep⟩
  · by_cases hpa : p.2 = b
    · exact ⟨vs', hpa ▸ hp⟩
    · obtain ⟨ws, n, e⟩ := S.lv p hp'
      exact ⟨ws, n, hs.extBut _ _ hpa e⟩
/-- a name that holds a list of hidden lists -/
structure Grid (env : Env) (μ : List Addr) (ν : List (Str × Addr)) (m cm : Str → Option Value) (R : Str) (a : Addr) (as : List Addr) (gs : List (List PyData)) (h : Heap) : Prop where
  val : Val env m cm R (.ref a)
  out : h.PlainList a (as.map Value.ref).toArray
  mem : (R, a) ∈ ν
  mems : ∀ b ∈ as, (R, b) ∈ ν
  nd : (a :: as).Nodup
  len : as.length = gs.length
  ins : ∀ (j : Nat) (b : Addr), as[j]? = some b → ∃ vs g, gs[j]? = some g ∧ h.PlainList b vs ∧ RdAll (hid env ν μ) h vs.toList g
theorem Grid.to {μ μ' ν m cm m' cm' R a as gs h h'} (G : Grid env μ ν m cm R a as gs h) (hν : ∀ p ∈ ν, ∀ o, h.get? p.2 = some o → h'.get? p.2 = some o)
    (hk : ∀ b o, b ∉ hid env ν μ → h.get? b = some o → b ∉ hid env ν μ' ∧ h'.get? b = some o) (hv : Val env m cm R (.ref a) → Val env m' cm' R (.ref a)) : Grid env μ' ν m' cm' R a as gs h' where
  val := hv G.val
  out := let ⟨n, e⟩ := G.out; ⟨n, hν _ G.mem _ e⟩
  mem := G.mem
  mems := G.mems
  nd := G.nd
  len := G.len
  ins := fun j b hj => by
    obtain ⟨vs, g, h1, ⟨n, h2⟩, h3⟩ := G.ins j b hj
    exact ⟨vs, g, h1, ⟨n, hν _ (G.mems b (List.mem_of_getElem? hj)) _ h2⟩, h3.to hk⟩
theorem Grid.keeps {μ ν m cm R a as gs h h'} (G : Grid env μ ν m cm R a as gs h) (k : Kp h h') : Grid env μ ν m cm R a as gs h' :=
  G.to (fun p _ o e => k _ _ e) (fun b o hb e => ⟨hb, k _ _ e⟩) id
theorem Grid.chg {s₀ μ₀ m cm ν s R a as gs} {b : Addr} {j : Nat} {vs : Array Value} {g : List PyData} {v : Value} {d : PyData} {h' : Heap} (S : StP c s₀ env μ₀ ρ σ m cm ν s) (G : Grid env μ₀ ν m cm R a as gs s.heap)
    (hj : as[j]? = some b) (hg : gs[j]? = some g) (hr : RdAll (hid env ν μ₀) s.heap vs.toList g) (hp : h'.PlainList b (vs.push v)) (hs : Heap.SameBut b s.heap h') (rv : Rd (hid env ν μ₀) s.heap v d) :
    Grid env μ₀ ν m cm R a as (gs.set j (g ++ [d])) h' := by
  have hb := G.mems b (List.mem_of_getElem? hj)
  have hmem : b ∈ hid env ν μ₀ := mem_hid.mpr (.inr (.inr (.inl (List.mem_map.mpr ⟨(R, b), hb, rfl⟩))))
  have keep : ∀ a o, a ∉ hid env ν μ₀ → s.heap.get? a = some o → a ∉ hid env ν μ₀ ∧ h'.get? a = some o := fun a o ha e => ⟨ha, hs.extBut a o (fun q => ha (q ▸ hmem)) e⟩
  have hnd := List.nodup_cons.mp G.nd
  refine ⟨G.val, ?_, G.mem, G.mems, G.nd, by rw [List.length_set]; exact G.len, fun i b' hi => ?_⟩
  · obtain ⟨n, e⟩ := G.out
    exact ⟨n, hs.extBut a _ (fun q => hnd.1 (q ▸ List.mem_of_getElem? hj)) e⟩
  · obtain ⟨ws, g', h1, ⟨n, h2⟩, h3⟩ := G.ins i b' hi
    by_cases hij : j = i
    · subst hij
      rw [hj] at hi; cases hi
      rw [hg] at h1; cases h1
      have hlt : j < gs.length := (List.getElem?_eq_some_iff.mp hg).1
      refine ⟨vs.push v, g ++ [d], by rw [List.getElem?_set_self hlt], hp, ?_⟩
      have : RdAll (hid env ν μ₀) s.heap (vs.push v).toList (g ++ [d]) := by simpa using hr.append (.cons rv .nil)
      exact this.to keep
    · have hne : b' ≠ b := fun q => by
        subst q
        obtain ⟨li, ei⟩ := List.getElem?_eq_some_iff.mp hi
        obtain ⟨lj, ej⟩ := List.getElem?_eq_some_iff.mp hj
        have hpw := List.pairwise_iff_getElem.mp hnd.2
        rcases Nat.lt_trichotomy i j with q | q | q
        · exact hpw i j li lj q (ei.trans ej.symm)
        · exact hij q.symm
        · exact hpw j i lj li q (ej.trans ei.symm)
      exact ⟨ws, g', by rw [List.getElem?_set_ne hij]; exact h1, ⟨n, hs.extBut b' _ hne h2⟩, h3.to keep⟩
theorem lookup_filter {ν : List (Str × Addr)} {R x : Str} (hx : x ≠ R) : (ν.filter fun p => !(p.1 == R)).lookup x = ν.lookup x := del_lookup ν R x |>.trans (if_neg (by simpa using hx))
/-- the grid laid down as data -/
theorem Grid.freeze {s₀ μ₀ m cm ν s R a as gs} (S : StP c s₀ env μ₀ ρ σ m cm ν s) (hR : σ.lookup R = none) (G : Grid env μ₀ ν m cm R a as gs s.heap) : St c s₀ env μ₀ (upd ρ R (.list (gs.map .list))) σ s := by
  refine ⟨m, cm, ν.filter fun p => !(p.1 == R), ?_⟩
  have hsub : ∀ b, b ∈ hid env (ν.filter fun p => !(p.1 == R)) μ₀ → b ∈ hid env ν μ₀ := fun b hb => by
    rcases mem_hid.mp hb with h | h | h | h
    · exact mem_hid.mpr (.inl h)
    · exact mem_hid.mpr (.inr (.inl h))
    · obtain ⟨p, hp', e⟩ := List.mem_map.mp h
      exact mem_hid.mpr (.inr (.inr (.inl (List.mem_map.mpr ⟨p, (List.mem_filter.mp hp').1, e⟩))))
    · exact mem_hid.mpr (.inr (.inr (.inr h)))
  have hout : ∀ b vs, (R, b) ∈ ν → s.heap.PlainList b vs → b ∉ hid env (ν.filter fun p => !(p.1 == R)) μ₀ := fun b vs hb hp q => by
    rcases mem_hid.mp q with h | h | h | h
    · exact ne_of_ns hp S.ic.ns h
    · obtain ⟨p, hp', e⟩ := List.mem_map.mp h
      exact ne_of_cell hp (S.ic.cell _ _ (S.cn p hp')) e.symm
    · obtain ⟨p, hp', e⟩ := List.mem_map.mp h
      obtain ⟨h1, h2⟩ := List.mem_filter.mp hp'
      have : p.1 = R := nodup_snd S.nd (a := b) (by rw [← e]; exact h1) hb
      rw [this] at h2; simp at h2
    · obtain ⟨o, ho⟩ := S.out b h
      exact ne_of_none (S.new _ hb) ho rfl
  have wk : ∀ {v d}, Rd (hid env ν μ₀) s.heap v d → Rd (hid env (ν.filter fun p => !(p.1 == R)) μ₀) s.heap v d := fun r => r.weaken fun b hb => hsub b hb
  have wka : ∀ {v d}, RdAll (hid env ν μ₀) s.heap v d → RdAll (hid env (ν.filter fun p => !(p.1 == R)) μ₀) s.heap v d := fun r => r.to fun b o hb e => ⟨fun q => hb (hsub b q), e⟩
  refine ⟨S.ic, S.gk, S.fn, S.gl, S.bl, S.cn, fun y d e => ?_, fun y ds' e => ?_, List.Pairwise.sublist (List.Sublist.map _ List.filter_sublist) S.nd, fun p hp' => S.new p (List.mem_filter.mp hp').1, S.out, fun p hp' => S.lv p (List.mem_filter.mp hp').1⟩
  · rw [upd_lookup] at e
    by_cases hy : (y == R) = true
    · rw [if_pos hy] at e; cases e
      have := beq_iff_eq.mp hy; subst this
      obtain ⟨n, ea⟩ := G.out
      refine ⟨.ref a, G.val, LsAt.rd' ⟨a, _, rfl, ⟨_, ea, rfl, n, rfl⟩, ?_⟩ fun b e q => by cases e; exact hout a _ G.mem ⟨n, ea⟩ q⟩
      have all : ∀ (as : List Addr) (gs : List (List PyData)), as.length = gs.length → (∀ (j : Nat) (b : Addr), as[j]? = some b → (y, b) ∈ ν ∧ ∃ vs g, gs[j]? = some g ∧ s.heap.PlainList b vs ∧ RdAll (hid env ν μ₀) s.heap vs.toList g) →
          RdAll (hid env (ν.filter fun p => !(p.1 == y)) μ₀) s.heap (as.map Value.ref) (gs.map .list) := by
        intro as
        induction as with
        | nil => intro gs hl _; cases gs with
          | nil => exact .nil
          | cons => simp at hl
        | cons b as ih =>
          intro gs hl hall
          cases gs with
          | nil => simp at hl
          | cons g gs =>
            obtain ⟨hb, vs, g', h1, h2, h3⟩ := hall 0 b rfl
            simp at h1; subst h1
            obtain ⟨n, eb⟩ := id h2
            refine .cons (LsAt.rd' ⟨b, vs, rfl, ⟨_, eb, rfl, n, rfl⟩, wka h3⟩ fun x e q => by cases e; exact hout b _ hb h2 q) (ih gs (by simpa using hl) fun j b' hj => ?_)
            simpa using hall (j + 1) b' (by simpa using hj)
      simpa using all as gs G.len fun j b hj => ⟨G.mems b (List.mem_of_getElem? hj), G.ins j b hj⟩
    · rw [if_neg hy] at e
      obtain ⟨v, V, r⟩ := S.vars y d e; exact ⟨v, V, wk r⟩
  · obtain ⟨b, ws, h1, h2, h3, h4⟩ := S.muts y ds' e
    have hy : y ≠ R := by rintro rfl; rw [hR] at e; cases e
    exact ⟨b, ws, by rw [lookup_filter hy]; exact h1, h2, h3, wka h4⟩
end
end Mine

end PartB25
section PartB26
open PySem PySem.W PyProof.Rows
namespace Mine
section
variable {c : Cx} {A : Around} {env : Env} {ρ : Rho} {σ : Sig} {P : Fl → Rho → Sig → Prop}
/-- a local name stored, the values of the others kept -/
theorem StP.putF {s₀ μ₀ m cm ν s x v d Q E} (S : StP c s₀ env μ₀ ρ σ m cm ν s) (hl : env.kindOf x = some .local) (hx : σ.lookup x = none) (r : Rd (hid env ν μ₀) s.heap v d)
    (h : ∀ s' m', StP c s₀ env μ₀ (upd ρ x d) σ m' cm ν s' → (∀ y w, y ≠ x → Val env m cm y w → Val env m' cm y w) → (∀ b o, b ∉ hid env ν μ₀ → s.heap.get? b = some o → b ∉ hid env ν μ₀ ∧ s'.heap.get? b = some o) → (∀ b o, b ≠ env.locals → s.heap.get? b = some o → s'.heap.get? b = some o) → Q () s') :
    wpAny (model c.prog c.w) A (storeName env x v) Q E s := by
  refine wpAny_storeName_local hl S.ic.ns (fun h' hn' hs' => ?_) (by rw [S.fn]; rfl)
  have keep : ∀ b o, b ∉ hid env ν μ₀ → s.heap.get? b = some o → b ∉ hid env ν μ₀ ∧ h'.get? b = some o := fun b o hb e => ⟨hb, hs'.extBut b o (fun q => hb (mem_hid.mpr (.inl q))) e⟩
  have keepL : ∀ a vs, s.heap.PlainList a vs → h'.PlainList a vs := fun a vs ⟨n, e⟩ => ⟨n, hs'.extBut a _ (ne_of_ns ⟨n, e⟩ S.ic.ns) e⟩
  have other : ∀ y w, y ≠ x → Val env m cm y w → Val env (fun y => if y = x then some v else m y) cm y w := fun y w hy V => by
    rcases V with ⟨k, e⟩ | V
    · exact .inl ⟨k, by simp [hy, e]⟩
    · exact .inr V
  refine h _ (fun y => if y = x then some v else m y) ⟨⟨?_, hn', fun b o e => ?_, fun k b hb => ?_, S.ic.apart, S.ic.offL, S.ic.offC⟩, S.gk, S.fn, S.gl, S.bl, S.cn, fun y d' e => ?_, fun y ds e => ?_, S.nd, S.new, S.out, fun p hp => ?_⟩ other keep (fun b o hb e => hs'.extBut b o hb e)
  · obtain ⟨h₁, tk, e⟩ := S.ic.same; exact ⟨h', _, by rw [e]⟩
  · exact hs'.extBut b o (ne_of_none S.ic.offL e) (S.ic.keep b o e)
  · exact (S.ic.cell k b hb).sameBut hs' (ne_cell_ns (S.ic.cell k b hb) S.ic.ns)
  · rw [upd_lookup] at e
    by_cases hy : (y == x) = true
    · rw [if_pos hy] at e; cases e
      have := beq_iff_eq.mp hy; subst this
      exact ⟨v, .inl ⟨hl, by simp⟩, r.to keep⟩
    · rw [if_neg hy] at e
      obtain ⟨w, V, rw'⟩ := S.vars y d' e
      exact ⟨w, other y w (fun q => hy (by simp [q])) V, rw'.to keep⟩
  · have hy : y ≠ x := by rintro rfl; rw [hx] at e; cases e
    obtain ⟨b, vs, h1, h2, h3, h4⟩ := S.muts y ds e
    exact ⟨b, vs, h1, other y _ hy h2, keepL _ _ h3, h4.to keep⟩
  · obtain ⟨vs, e⟩ := S.lv p hp
    exact ⟨vs, keepL _ _ e⟩
def gridOf (kk : PyData → Nat) (vv : PyData → PyData) (ds : List PyData) : List (List PyData) := [(ds.filter fun d => kk d == 0).map vv, (ds.filter fun d => kk d == 1).map vv, (ds.filter fun d => kk d == 2).map vv]
theorem grid_nil {kk vv} : gridOf kk vv [] = [[], [], []] := rfl
theorem grid_at {kk vv ds j} (h : j < 3) : (gridOf kk vv ds)[j]? = some ((ds.filter fun d => kk d == j).map vv) := by
  match j, h with
  | 0, _ => rfl
  | 1, _ => rfl
  | 2, _ => rfl
theorem grid_snoc {kk vv ds d} (h : kk d < 3) : gridOf kk vv (ds ++ [d]) = (gridOf kk vv ds).set (kk d) ((ds.filter fun e => kk e == kk d).map vv ++ [vv d]) := by
  unfold gridOf
  have hk : kk d = 0 ∨ kk d = 1 ∨ kk d = 2 := by omega
  rcases hk with hk | hk | hk <;> simp [hk, List.filter_append, List.filter_cons, List.set]
/-- the loop that appends to one of three lists -/
theorem for_grid {R F : Str} {iter idx e : Expr} {ds : List PyData} {p3 p4 p5 p6 p7 p8 p9 : Pos} {a : Addr} {as : List Addr} (kk : PyData → Nat) (vv : PyData → PyData)
    (hi : EvI c A env ρ σ iter ds) (hs : ∀ x, foldedSetIterable iter env x = pure x)
    (hRσ : σ.lookup R = none) (hRd : (R == ("__debug__" : Str)) = false) (kF : env.kindOf F = some .local) (hFσ : σ.lookup F = none) (hFρ : ρ.lookup F = none) (hRF : R ≠ F)
    (hidx : ∀ d ∈ ds, Ev c A env (upd ρ F d) σ idx (natD (kk d))) (hk3 : ∀ d ∈ ds, kk d < 3) (he : ∀ d ∈ ds, Ev c A env (upd ρ F d) σ e (vv d)) (hz : ds.length ≤ 2 ^ 20)
    (hip : idxPlain idx) (hline : (p6.endLine == p7.line) = true) (hst : starEach [e] env = [(false, eval e env)]) (hint : interactive env = false)
    (hbase : attributeBase (.Subscript (.Name R p4) idx p5) "append" env (eval (.Subscript (.Name R p4) idx p5) env) = eval (.Subscript (.Name R p4) idx p5) env)
    (hw : swapsWith (.Call (.Attribute (.Subscript (.Name R p4) idx p5) "append" p6) [e] [] p7) none p8.line env = pure false)
    {s₀ : Shared} {μ₀ : List Addr} {m cm : Str → Option Value} {ν : List (Str × Addr)} {s : Shared} {E : Value → Shared → Prop} (S : StP c s₀ env μ₀ ρ σ m cm ν s) (has : as.length = 3) (G : Grid env μ₀ ν m cm R a as (gridOf kk vv []) s.heap) :
    wpAny (model c.prog c.w) A (exec (.For (.Name F p3) iter [.Expr (.Call (.Attribute (.Subscript (.Name R p4) idx p5) "append" p6) [e] [] p7) p8] [] p9) env)
      (fun f s' => f = .next ∧ St c s₀ env μ₀ (upd ρ R (.list ((gridOf kk vv ds).map .list))) σ s') E s := by
  refine wpAny_For (hi _ s S.env _ _ fun It fp wr Pw W h' tk w0 w1 wl woff wfp lfp hP k => ?_) hs
  have off0 : ∀ a ∈ wr, s₀.heap.get? a = none := fun a ha => none_back S.ic.keep (woff a ha)
  let b0 := hideAll h' (hid env ν [])
  have wrh : ∀ a ∈ wr, a ∉ hid env ν [] := fun a ha q => wfp a (w0.sub a ha) (by
    rcases mem_hid.mp q with q | q | q | q
    · exact mem_hid.mpr (.inl q)
    · exact mem_hid.mpr (.inr (.inl q))
    · exact mem_hid.mpr (.inr (.inr (.inl q)))
    · cases q)
  have S1 := S.grow (tk := tk) k
  have kb0 : Kp s₀.heap b0 := kp_base S1
  have sub0 : ∀ a, a ∈ hid env ν [] → a ∈ hid env ν μ₀ := fun a q => by
    rcases mem_hid.mp q with q | q | q | q
    · exact mem_hid.mpr (.inl q)
    · exact mem_hid.mpr (.inr (.inl q))
    · exact mem_hid.mpr (.inr (.inr (.inl q)))
    · cases q
  have fresh : ∀ a o, a ∉ hid env ν μ₀ → s.heap.get? a = some o → a ∉ hid env ν (wr ++ μ₀) ∧ h'.get? a = some o := fun a o ha e => ⟨fun q => by
    rcases mem_hid.mp q with q | q | q | q
    · exact ha (mem_hid.mpr (.inl q))
    · exact ha (mem_hid.mpr (.inr (.inl q)))
    · exact ha (mem_hid.mpr (.inr (.inr (.inl q))))
    · rcases List.mem_append.mp q with q | q
      · exact ne_of_none (woff a q) e rfl
      · exact ha (mem_hid.mpr (.inr (.inr (.inr q)))), k _ _ e⟩
  have S2 : StP c { s₀ with heap := b0 } env (wr ++ μ₀) ρ σ m cm ν { s with heap := h', toks := tk } := by
    have R1 := S1.rebase
    refine ⟨⟨?_, R1.ic.ns, R1.ic.keep, R1.ic.cell, R1.ic.apart, R1.ic.offL, R1.ic.offC⟩, R1.gk, R1.fn, R1.gl, R1.bl, R1.cn, fun x d e => ?_, fun x d e => ?_, R1.nd, R1.new, fun a ha => ?_, R1.lv⟩
    · obtain ⟨h, t, e⟩ := S.ic.same; exact ⟨h', tk, by rw [e]⟩
    · obtain ⟨v, V, r⟩ := S.vars x d e; exact ⟨v, V, r.to fresh⟩
    · obtain ⟨a, vs, h1, h2, ⟨n, h3⟩, h4⟩ := S.muts x d e
      exact ⟨a, vs, h1, h2, ⟨n, k _ _ h3⟩, h4.to fresh⟩
    · rcases List.mem_append.mp ha with q | q
      · obtain ⟨o, e⟩ := lfp a (w0.sub a q); exact ⟨o, hideAll_get _ e (wrh a q)⟩
      · obtain ⟨o, e⟩ := S.out a q; exact ⟨o, kb0 _ _ e⟩
  have G2 : Grid env (wr ++ μ₀) ν m cm R a as (gridOf kk vv []) h' := G.to (fun p _ o e => k _ _ e) fresh id
  refine codeAny_forLoop (fun n s' => ∃ i b m, n = ds.length + 1 - i ∧ i ≤ ds.length ∧ StP c { s₀ with heap := b } env (wr ++ μ₀) ρ σ m cm ν s' ∧ Grid env (wr ++ μ₀) ν m cm R a as (gridOf kk vv (ds.take i)) s'.heap ∧ Kp s₀.heap b ∧ W i s'.heap ∧ Live fp b ∧
      (∀ j v, Pw j v → ∃ d, ds[j]? = some d ∧ Rd (wr ++ μ₀) b v d)) ?_ (ds.length + 1) ⟨0, b0, m, rfl, Nat.zero_le _, S2, G2, kb0, w1, ?_, ?_⟩ (fun v => rfl)
  rotate_left
  · intro a ha
    obtain ⟨o, e⟩ := lfp a ha
    exact ⟨o, hideAll_get _ e fun q => wfp a ha (sub0 a q)⟩
  · intro j v hv
    obtain ⟨d, hd, r⟩ := hP j v hv
    refine ⟨d, hd, r.to fun a o ha e => ⟨fun q => ha ?_, hideAll_get _ e fun q => ha (List.mem_append_right _ (sub0 a q))⟩⟩
    rcases List.mem_append.mp q with q | q
    · exact List.mem_append_left _ q
    · exact List.mem_append_right _ (mem_hid.mpr (.inr (.inr (.inr q))))
  rintro n s' ⟨i, b, m, rfl, hle, S', G', kb, hW, lf, hPb⟩
  have offb : ∀ a, (∃ o, b.get? a = some o) → a ∉ hid env ν [] := fun a ⟨o, e⟩ q => by
    rcases mem_hid.mp q with q | q | q | q
    · exact ne_of_none S'.ic.offL e q
    · obtain ⟨p, hp, rfl⟩ := List.mem_map.mp q; exact ne_of_none (S'.ic.offC p hp) e rfl
    · obtain ⟨p, hp, rfl⟩ := List.mem_map.mp q; exact ne_of_none (S'.new p hp) e rfl
    · cases q
  have nwN : ∀ p ∈ ν, p.2 ∉ wr := fun p hp q => wrh _ q (mem_hid.mpr (.inr (.inr (.inl (List.mem_map.mpr ⟨p, hp, rfl⟩)))))
  by_cases hlt : i < ds.length
  · refine w0.item i s' _ _ hlt hW fun v h₁ tk₁ hv hW₁ hk₁ => ?_
    obtain ⟨S3, k3, kb3, wr3⟩ := S'.turn (h₁ := h₁) (tk := tk₁) S.gk kb S.out off0 hk₁ (wl _ _ hW₁)
    have keep3 : ∀ a o, a ∉ hid env ν (wr ++ μ₀) → s'.heap.get? a = some o → a ∉ hid env ν (wr ++ μ₀) ∧ h₁.get? a = some o := fun a o ha e =>
      ⟨ha, hk₁ a o (fun q => ha (mem_hid.mpr (.inr (.inr (.inr (List.mem_append_left _ q)))))) e⟩
    have G3 : Grid env (wr ++ μ₀) ν m cm R a as (gridOf kk vv (ds.take i)) h₁ := G'.to (fun p hp o e => hk₁ _ _ (nwN p hp) e) keep3 id
    obtain ⟨d, hd, rb⟩ := hPb i v hv
    have hdm : d ∈ ds := List.mem_of_getElem? hd
    have rv : Rd (hid env ν (wr ++ μ₀)) h₁ v d := rb.to fun a o ha e => ⟨fun q => by
        rcases mem_hid.mp q with q | q | q | q
        · exact offb a ⟨o, e⟩ (mem_hid.mpr (.inl q))
        · exact offb a ⟨o, e⟩ (mem_hid.mpr (.inr (.inl q)))
        · exact offb a ⟨o, e⟩ (mem_hid.mpr (.inr (.inr (.inl q))))
        · exact ha q, hk₁ a o (fun q => ha (List.mem_append_left _ q)) (S'.ic.keep a o e)⟩
    have lf3 : Live fp (hideAll h₁ (hid env ν [])) := fun a ha => by
      by_cases hw : a ∈ wr
      · obtain ⟨o, e⟩ := wl _ _ hW₁ a hw; exact ⟨o, hideAll_get _ e (wr3 a hw)⟩
      · obtain ⟨o, e⟩ := lf a ha; exact ⟨o, kb3 a o hw e⟩
    refine assign_Name (S3.putF kF hFσ rv fun s4 m4 S4 ot4 kp4 ke4 => ?_)
    have G4 : Grid env (wr ++ μ₀) ν m4 cm R a as (gridOf kk vv (ds.take i)) s4.heap := G3.to (fun p hp o e => by
      obtain ⟨vs, n, q⟩ := S3.lv p hp
      exact ke4 _ _ (ne_of_ns ⟨n, q⟩ S3.ic.ns) e) kp4 (ot4 R _ hRF)
    have V : VarAt env s4.heap R (.ref a) := by
      rcases G4.val with ⟨k, hm⟩ | ⟨k, ⟨b, hb⟩, hm⟩
      · exact .loc k S4.ic.ns hm
      · exact .cell k hb (hm ▸ S4.ic.cell R b hb)
    refine wpAny_execs_cons (wpAny_Expr (wpAny_Call_append hbase (by rw [hst]; rfl) hline (by rw [hst]; rfl) (Subscript_ (wpAny_Name (V.load S4.fn (hidx d hdm _ s4 S4.env _ _ fun vi g5 t5 k5 r5 => ?_)) hRd))) hint hw)
    obtain ⟨u, rfl⟩ := r5.int_inv
    have G5 := G4.keeps k5
    have S5 := S4.grow (tk := t5) k5
    obtain ⟨no, eo⟩ := G5.out
    have hl5 : g5.IsList a (as.map Value.ref).toArray := ⟨_, eo, rfl, no, rfl⟩
    have hkd := hk3 d hdm
    obtain ⟨b5, hb5⟩ : ∃ b, as[kk d]? = some b := ⟨as[kk d], List.getElem?_eq_getElem (by omega)⟩
    refine tail_any hl5.typeIs slot_list_getitem.lookup (wpAny_getItem_list (s := { s4 with heap := g5, toks := t5 }) hl5 (by omega) (by omega) (x := .ref b5) (by simp [hb5]) ?_) (hip _ _)
    obtain ⟨vs, g, hg, ⟨n6, hp6⟩, hr6⟩ := G5.ins _ _ hb5
    refine ⟨b5, vs, rfl, ⟨_, n6, hp6, rfl, rfl, rfl⟩, he d hdm _ _ S5.env _ _ fun y g7 t7 k7 r7 => ?_⟩
    have G7 := G5.keeps k7
    have S7 := S5.grow (tk := t7) k7
    rw [grid_at hkd] at hg
    cases hg
    have hsz : vs.size ≤ sizeLine := by
      have e1 : vs.size = ((ds.take i).filter fun e => kk e == kk d).length := by simpa using hr6.length
      have e2 := List.length_filter_le (fun e => kk e == kk d) (ds.take i)
      rw [List.length_take] at e2
      rw [sizeLine_eq, e1]; omega
    refine wpAny_list_append_plain (s := { s4 with heap := g7, toks := t7 }) ⟨n6, k7 _ _ hp6⟩ (fun h8 hp8 hs8 => ?_) hsz
    have S8 := S7.chg0 (tk := t7) (G7.mems _ (List.mem_of_getElem? hb5)) hRσ ⟨n6, k7 _ _ hp6⟩ hp8 hs8
    have G8 := Grid.chg S7 G7 hb5 (grid_at hkd) (hr6.keeps k7) hp8 hs8 r7
    refine wpAny_execs_nil ⟨ds.length + 1 - (i + 1), by omega, i + 1, hideAll h₁ (hid env ν []), m4, rfl, hlt, ?_, ?_, k3, ?_, lf3, ?_⟩
    · exact S8.sub (fun x d' e => by
        rw [upd_lookup]
        have : (x == F) = false := by simp only [beq_eq_false_iff_ne]; rintro rfl; rw [hFρ] at e; cases e
        rw [this]; exact e) (fun _ _ e => e)
    · rw [List.take_succ, hd]
      show Grid env (wr ++ μ₀) ν m4 cm R a as (gridOf kk vv (ds.take i ++ [d])) h8
      rw [grid_snoc hkd]
      exact G8
    · refine w0.frame _ _ _ hW₁ fun a ha o e => ?_
      obtain ⟨o', e'⟩ := lf3 a ha
      have := of_hideAll _ e'
      rw [e] at this; cases this
      exact S8.ic.keep a o e'
    · intro j v hv
      obtain ⟨d, hd, r⟩ := hPb j v hv
      exact ⟨d, hd, r.to fun a o ha e => ⟨ha, kb3 a o (fun q => ha (List.mem_append_left _ q)) e⟩⟩
  · have hin : i = ds.length := by omega
    subst hin
    refine w0.done s' _ _ hW fun h₁ tk₁ hk₁ => wpAny_execs_nil ?_
    have lwb : Live wr b := fun a ha => S'.out a (List.mem_append_left _ ha)
    have nw : ∀ a, a ∈ hid env ν [] → a ∉ wr := fun a q hw => offb a (lwb a hw) q
    have keep : ∀ a o, a ∉ hid env ν (wr ++ μ₀) → s'.heap.get? a = some o → a ∉ hid env ν μ₀ ∧ h₁.get? a = some o := fun a o ha e =>
      ⟨fun q => ha (by
        rcases mem_hid.mp q with q | q | q | q
        · exact mem_hid.mpr (.inl q)
        · exact mem_hid.mpr (.inr (.inl q))
        · exact mem_hid.mpr (.inr (.inr (.inl q)))
        · exact mem_hid.mpr (.inr (.inr (.inr (List.mem_append_right _ q))))), hk₁ a o (fun q => ha (mem_hid.mpr (.inr (.inr (.inr (List.mem_append_left _ q)))))) e⟩
    have U := S'.unbase (μ₀ := μ₀) kb ⟨_, s₀.toks, rfl⟩ S.gk S.out fun a ha => List.mem_append_right _ ha
    have G9 : Grid env μ₀ ν m cm R a as (gridOf kk vv ds) h₁ := by
      rw [List.take_length] at G'
      exact G'.to (fun p hp o e => hk₁ _ _ (nwN p hp) e) keep id
    refine ⟨rfl, Grid.freeze (s := { s' with heap := h₁, toks := tk₁ }) (m := m) (cm := cm) ⟨⟨?_, ?_, fun a o e => ?_, fun n a e => ?_, U.ic.apart, U.ic.offL, U.ic.offC⟩, U.gk, U.fn, U.gl, U.bl, U.cn, fun x d e => ?_, fun x d e => ?_, U.nd, U.new, U.out, fun p hp => ?_⟩ hRσ G9⟩
    · obtain ⟨h, t, e⟩ := U.ic.same; exact ⟨h₁, tk₁, by rw [e]⟩
    · exact U.ic.ns.at' fun o e => hk₁ _ o (nw _ (mem_hid.mpr (.inl rfl))) e
    · exact hk₁ a o (fun q => ne_of_none (off0 a q) e rfl) (U.ic.keep a o e)
    · obtain ⟨o, ho, hd⟩ := U.ic.cell n a e
      exact ⟨o, hk₁ _ _ (nw _ (mem_hid.mpr (.inr (.inl (List.mem_map.mpr ⟨(n, a), mem_of_lookup e, rfl⟩))))) ho, hd⟩
    · obtain ⟨v, V, r⟩ := S'.vars x d e; exact ⟨v, V, r.to keep⟩
    · obtain ⟨a, vs, h1, h2, ⟨n, h3⟩, h4⟩ := S'.muts x d e
      exact ⟨a, vs, h1, h2, ⟨n, hk₁ _ _ (nwN _ (lookup_mem h1)) h3⟩, h4.to keep⟩
    · obtain ⟨vs, n, e⟩ := S'.lv p hp
      exact ⟨vs, n, hk₁ _ _ (nwN p hp) e⟩
end
end Mine

end PartB26
section PartB27
open PySem PySem.W PyProof.Rows
namespace Mine
section
variable {c : Cx} {A : Around} {env : Env} {ρ : Rho} {σ : Sig} {P : Fl → Rho → Sig → Prop}
theorem Grid.start {μ ν m cm R n0 n1 n2 n3 h kk vv} (V : Val env m cm R (.ref n3)) (l3 : h.PlainList n3 #[.ref n0, .ref n1, .ref n2]) (l0 : h.PlainList n0 #[]) (l1 : h.PlainList n1 #[]) (l2 : h.PlainList n2 #[])
    (z0 : n1 = n0 + 1) (z1 : n2 = n1 + 1) (z2 : n3 = n2 + 1) : Grid env μ ((R, n3) :: (R, n2) :: (R, n1) :: (R, n0) :: ν) m cm R n3 [n0, n1, n2] (gridOf kk vv []) h where
  val := V
  out := l3
  mem := by simp
  mems := by simp
  nd := by
    have e0 : n0 < n1 := by rw [z0]; exact Nat.lt_succ_self _
    have e1 : n1 < n2 := by rw [z1]; exact Nat.lt_succ_self _
    have e2 : n2 < n3 := by rw [z2]; exact Nat.lt_succ_self _
    have a1 := Nat.ne_of_lt e0; have a2 := Nat.ne_of_lt e1; have a3 := Nat.ne_of_lt e2
    have a4 := Nat.ne_of_lt (Nat.lt_trans e0 e1); have a5 := Nat.ne_of_lt (Nat.lt_trans e1 e2); have a6 := Nat.ne_of_lt (Nat.lt_trans e0 (Nat.lt_trans e1 e2))
    simp [a1, a2, Ne.symm a3, a4, Ne.symm a5, Ne.symm a6]
  len := rfl
  ins := fun j b hj => by
    match j with
    | 0 => cases hj; exact ⟨#[], [], rfl, l0, .nil⟩
    | 1 => cases hj; exact ⟨#[], [], rfl, l1, .nil⟩
    | 2 => cases hj; exact ⟨#[], [], rfl, l2, .nil⟩
    | j + 3 => simp at hj
theorem Ex.grid {R F : Str} {iter idx e : Expr} {ds : List PyData} {rest : List Stmt} {p1 p2 p3 p4 p5 p6 p7 p8 p9 q0 q1 q2 q3 : Pos} (kk : PyData → Nat) (vv : PyData → PyData)
    (hi : EvI c A env ρ σ iter ds) (hs : ∀ x, foldedSetIterable iter env x = pure x)
    (kR : Slotted env R) (hRσ : σ.lookup R = none) (hRρ : ρ.lookup R = none) (hRd : (R == ("__debug__" : Str)) = false) (kF : env.kindOf F = some .local) (hFσ : σ.lookup F = none) (hFρ : ρ.lookup F = none) (hRF : (R == F) = false)
    (hidx : ∀ d ∈ ds, Ev c A env (upd ρ F d) σ idx (natD (kk d))) (hk3 : ∀ d ∈ ds, kk d < 3) (he : ∀ d ∈ ds, Ev c A env (upd ρ F d) σ e (vv d)) (hz : ds.length ≤ 2 ^ 20)
    (hip : idxPlain idx) (hline : (p6.endLine == p7.line) = true) (hst : starEach [e] env = [(false, eval e env)]) (hint : interactive env = false)
    (hbase : attributeBase (.Subscript (.Name R p4) idx p5) "append" env (eval (.Subscript (.Name R p4) idx p5) env) = eval (.Subscript (.Name R p4) idx p5) env)
    (hw : swapsWith (.Call (.Attribute (.Subscript (.Name R p4) idx p5) "append" p6) [e] [] p7) none p8.line env = pure false)
    (hsw : swapsWith (.List [.List [] q0, .List [] q1, .List [] q2] q3) (some (.Name R p1)) p2.line env = pure false)
    (hn : Ex c A env (upd ρ R (.list ((gridOf kk vv ds).map .list))) σ rest P) :
    Ex c A env ρ σ (.Assign [.Name R p1] (.List [.List [] q0, .List [] q1, .List [] q2] q3) p2 ::
      .For (.Name F p3) iter [.Expr (.Call (.Attribute (.Subscript (.Name R p4) idx p5) "append" p6) [e] [] p7) p8] [] p9 :: rest) P := by
  intro s₀ μ₀ s S E
  obtain ⟨m, cm, ν, S⟩ := S
  refine wpAny_execs_cons (wpAny_Assign_Name (List_ (wpAny_items_cons (List_ (wpAny_items_nil (wpAny_newObj_type ?_ (by show Array.size _ ≤ sizeLine; rw [sizeLine_eq]; simp)))) rfl)) hsw)
  refine wpAny_items_cons (List_ (wpAny_items_nil (wpAny_newObj_type ?_ (by show Array.size _ ≤ sizeLine; rw [sizeLine_eq]; simp)))) rfl
  refine wpAny_items_cons (List_ (wpAny_items_nil (wpAny_newObj_type ?_ (by show Array.size _ ≤ sizeLine; rw [sizeLine_eq]; simp)))) rfl
  refine wpAny_items_nil (wpAny_newObj_type ?_ (by show Array.size _ ≤ sizeLine; rw [sizeLine_eq]; simp))
  have N0 := (S.newlist0 (x := R) (vs := #[]) (tk := s.toks) (n := 0) hRσ).1
  generalize hH0 : s.heap.push { cls := .type "list", data := .seq #[] 0 } = H0 at N0
  have N1 := (N0.newlist0 (x := R) (vs := #[]) (tk := s.toks) (n := 0) hRσ).1
  dsimp only at N1
  generalize hH1 : H0.push { cls := .type "list", data := .seq #[] 0 } = H1 at N1
  have N2 := (N1.newlist0 (x := R) (vs := #[]) (tk := s.toks) (n := 0) hRσ).1
  dsimp only at N2
  generalize hH2 : H1.push { cls := .type "list", data := .seq #[] 0 } = H2 at N2
  have N3 := (N2.newlist0 (x := R) (vs := #[.ref s.heap.objs.size, .ref H0.objs.size, .ref H1.objs.size]) (tk := s.toks) (n := 0) hRσ).1
  dsimp only at N3
  generalize hH3 : H2.push { cls := .type "list", data := .seq #[.ref s.heap.objs.size, .ref H0.objs.size, .ref H1.objs.size] 0 } = H3 at N3
  have z0 : H0.objs.size = s.heap.objs.size + 1 := by rw [← hH0, Heap.size_push]
  have z1 : H1.objs.size = H0.objs.size + 1 := by rw [← hH1, Heap.size_push]
  have z2 : H2.objs.size = H1.objs.size + 1 := by rw [← hH2, Heap.size_push]
  have l0 : H3.PlainList s.heap.objs.size #[] := ⟨0, by
    rw [← hH3]; refine Heap.get?_push_of_some _ ?_; rw [← hH2]; refine Heap.get?_push_of_some _ ?_; rw [← hH1]; refine Heap.get?_push_of_some _ ?_; rw [← hH0]; exact Heap.get?_push_size _ rfl⟩
  have l1 : H3.PlainList H0.objs.size #[] := ⟨0, by
    rw [← hH3]; refine Heap.get?_push_of_some _ ?_; rw [← hH2]; refine Heap.get?_push_of_some _ ?_; rw [← hH1]; exact Heap.get?_push_size _ rfl⟩
  have l2 : H3.PlainList H1.objs.size #[] := ⟨0, by
    rw [← hH3]; refine Heap.get?_push_of_some _ ?_; rw [← hH2]; exact Heap.get?_push_size _ rfl⟩
  have l3 : H3.PlainList H2.objs.size #[.ref s.heap.objs.size, .ref H0.objs.size, .ref H1.objs.size] := ⟨0, by rw [← hH3]; exact Heap.get?_push_size _ rfl⟩
  have goal := fun (Q : Unit → Shared → Prop) (E : Value → Shared → Prop) h => N3.put (x := R) (v := .ref H2.objs.size) (A := A) (Q := Q) (E := E) kR h
  subst hH0 hH1 hH2 hH3
  refine goal _ _ fun s' m' cm' S' V kp kl => ?_
  have S'' := S'.sub (ρ' := ρ) (σ' := σ) (fun x d q => by
    rw [del_lookup]
    have : (x == R) = false := by simp only [beq_eq_false_iff_ne]; rintro rfl; rw [hRρ] at q; cases q
    rw [this]; simpa using q) (fun x d q => by
    rw [del_lookup]
    have : (x == R) = false := by simp only [beq_eq_false_iff_ne]; rintro rfl; rw [hRσ] at q; cases q
    rw [this]; simpa using q)
  have G := Grid.start (μ := μ₀) (ν := ν) (kk := kk) (vv := vv) V (kl _ _ l3) (kl _ _ l0) (kl _ _ l1) (kl _ _ l2) z0 z1 z2
  refine wpAny_execs_cons (wpAny_mono (for_grid kk vv hi hs hRσ hRd kF hFσ hFρ (by simpa using hRF) hidx hk3 he hz hip hline hst hint hbase hw S'' rfl G) (fun f s5 h5 => ?_) fun _ _ e => e)
  obtain ⟨rfl, h5⟩ := h5
  exact hn s₀ μ₀ s5 h5 E
end
end Mine

end PartB27
section PartP04
open PySem PySem.W PyProof.Rows
namespace Mine
def labs04 : List (List Nat) := [[97], [66], [55], [55, 55, 10], [1639], [], local5, [76, 79, 67, 65, 76], [120, 108, 111, 99, 97, 108], [55, 97]]
def bad04 : List (List Nat) := [[], [55], [55, 55, 10]]
theorem labs04_facts : ∀ p ∈ labs04, 46 ∉ p ∧ (∀ k ∈ p, pc k = true) ∧ p.length ≤ 6 ∧ bad04.contains p = (p == [] || isNum p) := by decide +kernel
structure Row4 (R : List (List Nat)) : Prop where
  ne : R ≠ []
  len : R.length ≤ 80
  mem : ∀ p ∈ R, p ∈ labs04
theorem Row4.dot {R} (h : Row4 R) : ∀ p ∈ R, 46 ∉ p := fun p hp => (labs04_facts p (h.mem p hp)).1
theorem Row4.pos {R} (h : Row4 R) : 1 ≤ R.length := List.length_pos_iff.mpr h.ne
theorem Row4.drop {R} (h : Row4 R) {i : Nat} (hi : i < R.length) : Row4 (R.drop i) := ⟨by simp; omega, by simp; have := h.len; omega, fun p hp => h.mem p (List.mem_of_mem_drop hp)⟩
theorem Row4.pcs {R} (h : Row4 R) : ∀ k ∈ dots R, pc k = true := pc_dots fun p hp => (labs04_facts p (h.mem p hp)).2.1
theorem Row4.dlen {R} (h : Row4 R) : (dots R).length ≤ 560 := dots_bound' (B := 6) (n := 80) (fun p hp => (labs04_facts p (h.mem p hp)).2.2.1) h.len
theorem Row4.last {R} (h : Row4 R) : bad04.contains (R.getLastD []) = (R.getLastD [] == [] || isNum (R.getLastD [])) := (labs04_facts _ (h.mem _ (lastD_mem h.ne))).2.2.2
def most04 (ps : List (List Nat)) : Nat := if ps.getLastD [] == local5 then ps.length - 1 else ps.length - 2
def empt04 (ps : List (List Nat)) : List Nat := (List.range (ps.length - 1)).filter fun k => ps.getD (1 + k) [] == []
def stay04 (ps : List (List Nat)) : Bool := ps.headD [] == [] || (decide (1 < ps.length) && bad04.contains (ps.getLastD []))
def climbs04 (ps : List (List Nat)) : Nat := if stay04 ps then 0 else match (empt04 ps).head? with | some k => 1 + k | none => most04 ps
theorem getD_last {ps : List (List Nat)} : ps.getD (ps.length - 1) [] = ps.getLastD [] := by
  rw [List.getLastD_eq_getLast?, List.getLast?_eq_getElem?, List.getD_eq_getElem?_getD]
theorem drop_head {ps : List (List Nat)} {i : Nat} : (ps.drop i).headD [] = ps.getD i [] := by
  rw [List.headD_eq_head?_getD, List.head?_drop, List.getD_eq_getElem?_getD]
theorem drop_getD {ps : List (List Nat)} {i j : Nat} : (ps.drop i).getD j [] = ps.getD (i + j) [] := by
  rw [List.getD_eq_getElem?_getD, List.getElem?_drop, List.getD_eq_getElem?_getD]
/-- how a host climbs after i steps -/
theorem climbs_at {ps : List (List Nat)} {i : Nat} (hi : i < ps.length) : climbs11 (ps.drop i) = (!(decide (ps.length - i < 2) || (ps.getD i [] == [] || (ps.getLastD [] == [] || isNum (ps.getLastD [])))) && (decide (2 < ps.length - i) || ps.getD (i + 1) [] == local5)) := by
  unfold climbs11
  rw [List.length_drop, drop_head, drop_last hi, drop_getD]
theorem climb_spec {ps : List (List Nat)} (H : Row4 ps) : climbs04 ps < ps.length ∧ (∀ i, i < climbs04 ps → climbs11 (ps.drop i) = true) ∧ climbs11 (ps.drop (climbs04 ps)) = false := by
  have hp := H.pos
  unfold climbs04
  cases hs : stay04 ps with
  | true =>
    rw [if_pos rfl]
    refine ⟨by omega, fun i hi => by omega, ?_⟩
    rw [climbs_at (by omega)]
    unfold stay04 at hs
    rw [H.last] at hs
    have e0 : ps.getD 0 [] = ps.headD [] := by cases ps <;> rfl
    rw [e0]
    rw [Bool.or_eq_true] at hs
    rcases hs with h | h
    · rw [h]; simp
    · rw [Bool.and_eq_true, decide_eq_true_eq] at h
      rw [h.2]; simp
  | false =>
    rw [if_neg (by simp)]
    unfold stay04 at hs
    rw [Bool.or_eq_false_iff] at hs
    obtain ⟨hh, hb⟩ := hs
    have e0 : ps.getD 0 [] = ps.headD [] := by cases ps <;> rfl
    by_cases h1 : ps.length = 1
    · have ee : empt04 ps = [] := by unfold empt04; rw [h1]; rfl
      rw [ee]
      show most04 ps < _ ∧ (∀ i, i < most04 ps → _) ∧ climbs11 (ps.drop (most04 ps)) = false
      have em : most04 ps = 0 := by unfold most04; rw [h1]; split <;> rfl
      rw [em]
      refine ⟨by omega, fun i hi => by omega, ?_⟩
      rw [climbs_at (by omega), h1]; simp
    · have h2 : 2 ≤ ps.length := by omega
      rw [decide_eq_true (by omega), Bool.true_and, H.last, Bool.or_eq_false_iff] at hb
      obtain ⟨hl, hn⟩ := hb
      have key : ∀ i, i < ps.length → climbs11 (ps.drop i) = (!(decide (ps.length - i < 2) || ps.getD i [] == []) && (decide (2 < ps.length - i) || ps.getD (i + 1) [] == local5)) := fun i hi => by
        rw [climbs_at hi, hl, hn]; simp
      cases hz : (empt04 ps).head? with
      | some k =>
        unfold empt04 at hz
        rw [List.head?_filter, List.find?_range_eq_some] at hz
        obtain ⟨hk, hkr, hkm⟩ := hz
        have hkr := List.mem_range.mp hkr
        show 1 + k < _ ∧ (∀ i, i < 1 + k → _) ∧ climbs11 (ps.drop (1 + k)) = false
        have hk1 : 1 + k ≠ ps.length - 1 := fun e => by
          rw [e, getD_last] at hk; rw [hk] at hl; cases hl
        refine ⟨by omega, fun i hi => ?_, ?_⟩
        · rw [key i (by omega), decide_eq_false (by omega), decide_eq_true (by omega)]
          have : (ps.getD i [] == []) = false := by
            cases i with
            | zero => rw [e0]; exact hh
            | succ j =>
              have := hkm j (by omega)
              rw [Nat.add_comm 1 j] at this
              simpa using this
          rw [this]; rfl
        · rw [key _ (by omega), hk]; simp
      | none =>
        unfold empt04 at hz
        rw [List.head?_filter, List.find?_eq_none] at hz
        have hne : ∀ i, i < ps.length → (ps.getD i [] == []) = false := fun i hi => by
          cases i with
          | zero => rw [e0]; exact hh
          | succ j =>
            have := hz j (List.mem_range.mpr (by omega))
            rw [Nat.add_comm 1 j] at this
            simpa using this
        show most04 ps < _ ∧ (∀ i, i < most04 ps → _) ∧ climbs11 (ps.drop (most04 ps)) = false
        unfold most04
        cases hloc : (ps.getLastD [] == local5) with
        | true =>
          rw [if_pos rfl]
          refine ⟨by omega, fun i hi => ?_, ?_⟩
          · rw [key i (by omega), hne i (by omega), decide_eq_false (by omega)]
            by_cases e : i + 1 = ps.length - 1
            · rw [e, getD_last, hloc]; simp
            · rw [decide_eq_true (by omega)]; rfl
          · rw [key _ (by omega), decide_eq_true (by omega)]; rfl
        | false =>
          rw [if_neg (by simp)]
          refine ⟨by omega, fun i hi => ?_, ?_⟩
          · rw [key i (by omega), hne i (by omega), decide_eq_false (by omega), decide_eq_true (by omega)]; rfl
          · rw [key _ (by omega), show ps.length - 2 + 1 = ps.length - 1 by omega, getD_last, hloc, decide_eq_false (show ¬ 2 < ps.length - (ps.length - 2) by omega)]; simp
/-- the way up: the texts of the ends -/
def way04 (ps : List (List Nat)) (n : Nat) : List (List Nat) := (List.range (n + 1)).map fun i => dots (ps.drop i)
theorem way_len (ps : List (List Nat)) (n : Nat) : (way04 ps n).length = n + 1 := by simp [way04]
theorem step04 {ps : List (List Nat)} (H : Row4 ps) {i : Nat} (hi : i < ps.length) : reachL (dots (ps.drop i)) = if climbs11 (ps.drop i) then 46 :: dots (ps.drop (i + 1)) else dots (ps.drop i) := by
  have := H.drop hi
  rw [rch11 this.ne this.dot, List.tail_drop]
theorem step_ne {ps : List (List Nat)} (H : Row4 ps) {i : Nat} (hi : i < ps.length) (hc : climbs11 (ps.drop i) = true) : (46 :: dots (ps.drop (i + 1)) == dots (ps.drop i)) = false := by
  rw [climbs_at hi] at hc
  simp only [Bool.and_eq_true, Bool.not_eq_true', Bool.or_eq_false_iff, decide_eq_false_iff_not] at hc
  have hp : ps.getD i [] ≠ [] := by simpa using hc.1.2.1
  have e : ps.drop i = ps.getD i [] :: ps.drop (i + 1) := by rw [getD_at' hi]; exact List.drop_eq_getElem_cons hi
  have hn : ps.drop (i + 1) ≠ [] := by simp; omega
  rw [beq_eq_false_iff_ne, e, dots_cons _ _ hn]
  intro q
  have := congrArg List.length q
  rw [List.length_cons, List.length_append, List.length_cons] at this
  exact hp (List.length_eq_zero_iff.mp (by omega))
/-- t pieces at the end of both -/
def comEnd (A B : List (List Nat)) (t : Nat) : Prop := t ≤ A.length ∧ t ≤ B.length ∧ sfx A t = sfx B t
theorem com_succ {A B : List (List Nat)} {t : Nat} (hA : t < A.length) (hB : t < B.length) : comEnd A B (t + 1) ↔ A.getD (A.length - 1 - t) [] = B.getD (B.length - 1 - t) [] ∧ comEnd A B t := by
  unfold comEnd
  rw [sfx_succ hA, sfx_succ hB, List.cons.injEq]
  constructor
  · rintro ⟨h1, h2, h3, h4⟩; exact ⟨h3, by omega, by omega, h4⟩
  · rintro ⟨h3, h1, h2, h4⟩; exact ⟨by omega, by omega, h3, h4⟩
theorem com_down {A B : List (List Nat)} : ∀ {t u : Nat}, comEnd A B t → u ≤ t → comEnd A B u
  | 0, u, h, hu => by have : u = 0 := by omega
                      subst this; exact h
  | t + 1, u, h, hu => by
    by_cases e : u = t + 1
    · subst e; exact h
    · exact com_down (((com_succ h.1 h.2.1).mp h).2) (by omega)
theorem drop_sfx {A : List (List Nat)} {i : Nat} (h : i ≤ A.length) : A.drop i = sfx A (A.length - i) := by unfold sfx; congr 1; omega
theorem mem_way {A B : List (List Nat)} (HA : Row4 A) (HB : Row4 B) {nB i : Nat} (hB : nB < B.length) (hi : i < A.length) {same : Nat} (hc : comEnd A B same) (hx : ∀ t, comEnd A B t → t ≤ same) :
    (way04 B nB).contains (dots (A.drop i)) = (decide (A.length - i ≤ same) && decide (B.length - nB ≤ A.length - i)) := by
  rw [Bool.eq_iff_iff, List.contains_iff_mem, Bool.and_eq_true, decide_eq_true_eq, decide_eq_true_eq]
  unfold way04
  rw [List.mem_map]
  have inj : ∀ j, j < B.length → (dots (B.drop j) = dots (A.drop i) ↔ B.drop j = A.drop i) := fun j hj => by
    have a := HB.drop hj; have b := HA.drop hi
    have := dots_inj a.ne b.ne a.dot b.dot
    rw [Bool.eq_iff_iff, beq_iff_eq, beq_iff_eq] at this
    exact this
  constructor
  · rintro ⟨j, hj, e⟩
    have hj := List.mem_range.mp hj
    rw [inj j (by omega)] at e
    have hl := congrArg List.length e
    simp at hl
    have hct : comEnd A B (A.length - i) := ⟨by omega, by omega, by rw [← drop_sfx (by omega), ← e, drop_sfx (by omega), hl]⟩
    exact ⟨hx _ hct, by omega⟩
  · rintro ⟨h1, h2⟩
    have hct := com_down hc h1
    refine ⟨B.length - (A.length - i), List.mem_range.mpr (by omega), ?_⟩
    rw [inj _ (by have := hct.2.1; omega), drop_sfx (by omega), drop_sfx (by omega), hct.2.2]
    congr 1
    have := hct.2.1; omega
/-- the first host on the one way that lies on the other -/
theorem first04 {A B : List (List Nat)} (HA : Row4 A) (HB : Row4 B) {nA nB : Nat} (hA : nA < A.length) (hB : nB < B.length) {same : Nat} (hc : comEnd A B same) (hx : ∀ t, comEnd A B t → t ≤ same) :
    ((way04 A nA).filter fun h => (way04 B nB).contains h).take 1 = if decide (A.length - nA ≤ same) && decide (B.length - nB ≤ same) then [dots (sfx A same)] else [] := by
  have e1 : (way04 A nA).filter (fun h => (way04 B nB).contains h) = ((List.range (nA + 1)).filter fun i => decide (A.length - i ≤ same) && decide (B.length - nB ≤ A.length - i)).map fun i => dots (A.drop i) := by
    show ((List.range (nA + 1)).map fun i => dots (A.drop i)).filter _ = _
    rw [List.filter_map]
    congr 1
    refine List.filter_congr fun i hi => ?_
    have hi := List.mem_range.mp hi
    exact mem_way HA HB hB (by omega) hc hx
  rw [e1, ← List.map_take]
  have hcA := hc.1; have hcB := hc.2.1
  generalize hf : (List.range (nA + 1)).filter (fun i => decide (A.length - i ≤ same) && decide (B.length - nB ≤ A.length - i)) = fl
  have hh : fl.head? = (List.range (nA + 1)).find? fun i => decide (A.length - i ≤ same) && decide (B.length - nB ≤ A.length - i) := by rw [← hf, List.head?_filter]
  by_cases h : A.length - nA ≤ same ∧ B.length - nB ≤ same
  · rw [decide_eq_true h.1, decide_eq_true h.2, Bool.true_and, if_pos rfl]
    have : fl.head? = some (A.length - same) := by
      rw [hh, List.find?_range_eq_some]
      refine ⟨by simp; omega, List.mem_range.mpr (by omega), fun j hj => ?_⟩
      rw [decide_eq_false (show ¬ A.length - j ≤ same by omega)]; rfl
    cases fl with
    | nil => cases this
    | cons x r => simp at this; subst this; rfl
  · rw [if_neg (by simpa using h)]
    have : fl.head? = none := by
      rw [hh, List.find?_eq_none]
      intro i hi
      have hi := List.mem_range.mp hi
      simp; intro h1
      omega
    cases fl with
    | nil => rfl
    | cons x r => cases this
theorem dm_long {a b : List Nat} (h : a.length < b.length) : dmL a b = false := by
  unfold dmL
  have e1 : (lowL a == lowL b) = false := by
    rw [beq_eq_false_iff_ne]; intro e; have := congrArg List.length e; rw [low_len, low_len] at this; omega
  have e2 : occ (lowL b) (lowL a).tail = false := by
    cases q : occ (lowL b) (lowL a).tail with
    | false => rfl
    | true =>
      obtain ⟨i, _, hp⟩ := (occ_iff _ _).mp q
      have := hp.length_le
      rw [low_len, List.length_drop, List.length_tail, low_len] at this; omega
  rw [e1, e2]; simp
theorem anyTail_end {S : List (List Nat)} (hS : S ≠ []) : ∀ (O : List (List Nat)), anyTail (prefD S) (O ++ S) = true := fun O => by
  refine anyTail_iff.mpr ⟨O.length, by simp; exact List.length_pos_iff.mpr hS, ?_⟩
  rw [List.drop_left]
  have := prefD_app (bs := S) (cs := []) hS
  rwa [List.append_nil] at this
/-- who is matched by the common end -/
theorem below04 {R : List (List Nat)} (H : Row4 R) {t : Nat} (h1 : 1 ≤ t) (ht : t ≤ R.length) (hc : R.length - t ≤ climbs04 R) : dmL (upL (dots R)) (46 :: dots (sfx R t)) = (decide (t < R.length) && !((dots (sfx R t)).head? == some 46)) := by
  by_cases e : t = R.length
  · subst e
    rw [sfx_all, dm_long (by rw [up_len]; simp)]; simp
  · rw [decide_eq_true (by omega), Bool.true_and]
    have hcl := (climb_spec H).2.1 0 (by omega)
    rw [climbs_at (by omega)] at hcl
    simp only [Bool.and_eq_true, Bool.not_eq_true', Bool.or_eq_false_iff, decide_eq_false_iff_not] at hcl
    obtain ⟨⟨hl2, hh, hle, hnum⟩, _⟩ := hcl
    have hS := sfx_ne h1 ht
    have hlast := sfx_last h1 ht
    have hdS : ∀ p ∈ sfx R t, 46 ∉ p := fun p hp => H.dot p (sfx_mem hp)
    have eR : R = R.take (R.length - t) ++ sfx R t := by unfold sfx; rw [List.take_append_drop]
    have hnlen : (R.take (R.length - t)).length = R.length - t := by rw [List.length_take]; omega
    obtain ⟨c, O, hO⟩ : ∃ c O, R.take (R.length - t) = c :: O := by
      cases q : R.take (R.length - t) with
      | nil => rw [q] at hnlen; simp at hnlen; omega
      | cons c O => exact ⟨c, O, rfl⟩
    have eR2 : R = c :: (O ++ sfx R t) := by rw [hO] at eR; exact eR
    have hc0 : c ≠ [] := by
      have : R.getD 0 [] = c := by rw [eR2]; rfl
      rw [this] at hh; simpa using hh
    have hu := up_free H.dot
    have hlu : ∀ l : List (List Nat), (l.map upL).map lowL = l.map lowL := fun l => by
      rw [List.map_map]; exact List.map_congr_left fun x _ => low_up x
    generalize hSd : sfx R t = S at *
    have hhdn : isHDN (dots (R.map lowL)) = true := by
      rw [isHDN_lowered (by omega) H.dot, hnum, hle]
      have : (R.headD [] == []) = false := by
        have : R.headD [] = R.getD 0 [] := by cases R <;> rfl
        rw [this]; exact hh
      rw [this]; rfl
    have hend : isHDN (dots (S.map lowL)) = !((dots S).head? == some 46) := by
      cases S with
      | nil => exact absurd rfl hS
      | cons q r =>
        rw [← hlast] at hnum hle
        rw [isHDN_rest hdS hnum hle]
        congr 1
        by_cases hq : q = []
        · subst hq
          cases r with
          | nil => simp at hle
          | cons x y => rw [dots_cons _ _ (by simp)]; rfl
        · rw [(dots_head r (hdS q (by simp)) hq).1]
          have h46 : 46 ∉ q := hdS q (by simp)
          cases q with
          | nil => exact absurd rfl hq
          | cons x y => simp; intro e; exact h46 (by simp [e])
    have hany : anyTail (prefD (S.map lowL)) ((O ++ S).map lowL) = true := by
      rw [List.map_append]; exact anyTail_end (by simpa using hS) _
    have hup : upL (dots R) = dots (upL c :: (O ++ S).map upL) := by rw [up_dots, eR2]; rfl
    have hcs : ∀ p ∈ (O ++ S).map upL, 46 ∉ p := fun p hp => hu p (by rw [eR2]; exact List.mem_cons_of_mem _ hp)
    rw [hup, dm_dot (by simpa [upL] using hc0) (hu _ (by rw [eR2]; simp)) hcs hS hdS, ← List.map_cons, hlu, hlu, ← eR2, hhdn, hany, hend]
    simp
end Mine

end PartP04
section PartL04
open PySem PySem.W PyProof.Rows
namespace Mine
noncomputable abbrev cx04 (w : World) (mg mb : Str → Option Value) : Cx := ⟨PySem.Challenge.rw_dm0154_04.row.prog, w, hd04.heap_39 w.params, mg, mb⟩
variable {w : World} {mg mb : Str → Option Value}

theorem pat04 : ∀ h, (cx04 w mg mb).K.In h → PatAt h 36 35 := fun h X =>
  ⟨⟨_, _, _, _, _, _, X 36 _ rfl⟩, ⟨_, _, _, X 35 _ rfl, rfl, by decide +kernel⟩⟩

theorem hdn04 (x : Str) (hx : x.length ≤ 2 ^ 20) : CallsTo (cx04 w mg mb) 43 1 [.str x] (.bool (isHDN x.cps.toList)) := by
  refine CallsTo.body1 (x := "text") ⟨⟨_, rfl, rfl⟩, rfl, rfl, rfl, rfl, rfl, rfl, rfl, rfl, fun L p hp => by cases hp⟩ (fun v => rfl) (fun L => .inl rfl) ?_
  intro L A hr
  refine Ex.ite (Tst.search (pt := 35) (p := 36) rfl rfl rfl pat04 (Ev.name rfl rfl) (by omega) rfl rfl) (fun h1 => ?_) (fun h1 => ?_)
  · exact Ex.ret Ev.bool (by simp [isHDN, h1])
  refine Ex.ite (Tst.cmp (Ev.name rfl rfl) Ev.str CmpOK.eq_str rfl) (fun h2 => ?_) (fun h2 => ?_)
  · refine Ex.ret Ev.bool ?_
    have : x = Str.ofString "" := by simpa using h2
    subst this
    rfl
  cases hl : x.cps.toList with
  | nil =>
    exfalso
    have : x = Str.ofString "" := by rw [← mkS_lst x, hl]; rfl
    rw [this] at h2; simp at h2
  | cons k l =>
    have i1 := item_lst x 0 k (by rw [pyIdx_zero, hl]; rfl)
    have i2 := item_lst x (-1) ((k :: l).getLast (by simp)) (by rw [pyIdx_last, hl, List.getLast?_eq_some_getLast])
    refine Ex.ite (Tst.or (Tst.cmp (Ev.item_str (Ev.name rfl rfl) Ev.int i1.2 (fits_small (by omega)) (fun _ _ => rfl)) Ev.str CmpOK.eq_str rfl) fun _ =>
      Tst.or (Tst.cmp (Ev.item_str (Ev.name rfl rfl) (Ev.neg Ev.int) i2.2 (fits_small (by omega)) (fun _ _ => rfl)) Ev.str CmpOK.eq_str rfl) fun _ => Tst.or_nil) (fun h3 => ?_) (fun h3 => ?_)
    all_goals
      rw [i1.1, i2.1, show Str.ofString "." = mkS [46] from rfl, mkS_inj, mkS_inj] at h3
      rw [hl] at h1
      refine Ex.ret Ev.bool ?_
      congr 2
      simp only [isHDN, h1]
      simp [List.getLast?_eq_some_getLast] at h3 ⊢
      first | exact h3 | (intro q; exact h3.resolve_left q)

theorem hdn04' (l : List Nat) (hl : l.length ≤ 2 ^ 20) : CallsTo (cx04 w mg mb) 43 1 [.str (mkS l)] (.bool (isHDN l)) := by
  have := hdn04 (w := w) (mg := mg) (mb := mb) (mkS l) (by rw [mkS_len]; exact hl)
  simpa using this

theorem reach04 (l : List Nat) (hl : l.length ≤ 2 ^ 20) : CallsTo (cx04 w mg mb) 57 2 [.str (mkS l)] (.str (mkS (reachL l))) := by
  refine CallsTo.body1 (x := "h") ⟨⟨_, rfl, rfl⟩, rfl, rfl, rfl, rfl, rfl, rfl, rfl, rfl, fun L p hp => by cases hp⟩ (fun v => rfl) (fun L => .inl rfl) ?_
  intro L A hr
  refine Ex.assign (Ev.meth1 (Ev.name rfl rfl) Ev.str Meth1OK.find rfl rfl rfl) (.inl rfl) rfl rfl ?_
  cases hs : splitD l with
  | nil => exact absurd hs (splitD_ne l)
  | cons p ps =>
    have hp : 46 ∉ p := split_free l p (by rw [hs]; exact List.mem_cons_self)
    cases ps with
    | nil =>
      have e : l = p := by rw [← dots_split l, hs]; rfl
      have er : reachL l = l := by unfold reachL; rw [hs]
      rw [er, e, lit_dot, find_free hp]
      refine Ex.ite (Tst.cmp (Ev.name rfl rfl) Ev.int CmpOK.ge_int rfl) (fun h => by simp at h) (fun _ => ?_)
      exact Ex.ret (Ev.name rfl rfl) rfl
    | cons q r =>
      have e : l = p ++ 46 :: dots (q :: r) := by rw [← dots_split l, hs]; rfl
      have hf : Txt.find (mkS l) (Str.ofString ".") = p.length := by rw [e, lit_dot, find_app hp]
      have hb : ((mkS l).cps.toList.drop (p.length + 1)) = dots (q :: r) := by
        show l.drop _ = _
        rw [e]; simp [List.drop_append]
      have hqr : ∀ x ∈ q :: r, 46 ∉ x := fun x hx => split_free l x (by rw [hs]; exact List.mem_cons_of_mem _ hx)
      rw [hf]
      refine Ex.ite (Tst.cmp (Ev.name rfl rfl) Ev.int CmpOK.ge_int rfl) (fun _ => ?_) (fun h => by simp at h)
      refine Ex.assign (Ev.slice_str (Ev.name rfl rfl) (.some (Ev.bin (Ev.name rfl rfl) Ev.int BinOK.add_int)) .none (fits_of hl (by omega))) (.inl rfl) rfl rfl ?_
      have hsl : Txt.slice (mkS l) (some ((p.length : Int) + 1)) none = mkS (dots (q :: r)) := by
        have := slice_from l (p.length + 1)
        rw [show l.drop (p.length + 1) = dots (q :: r) from hb] at this
        exact this
      rw [hsl]
      refine Ex.assign (Ev.meth1 (Ev.name rfl rfl) Ev.str Meth1OK.find rfl rfl rfl) (.inl rfl) rfl rfl ?_
      refine Ex.ite (Tst.and (b2 := !(r == []) || q == local5) (Tst.plain (Ev.call rfl rfl rfl rfl (.cons (Ev.name rfl rfl) .nil rfl) rfl hr (hdn04' l hl)) TruOK.bool (fun _ => rfl)) fun _ => ?_) (fun h => ?_) (fun h => ?_)
      · have hv : (decide (Txt.find (mkS (dots (q :: r))) (Str.ofString ".") ≥ 0) || (mkS (dots (q :: r)) == Str.ofString "local" || false)) = (!(r == []) || q == local5) := by
          rw [lit_dot]
          cases r with
          | nil =>
            rw [show dots [q] = q from rfl, find_free (hqr q List.mem_cons_self), show Str.ofString "local" = mkS local5 from rfl, mkS_inj]; simp
          | cons t r =>
            rw [dots_cons _ _ (List.cons_ne_nil _ _), find_app (hqr q List.mem_cons_self)]; simp
        rw [← hv]
        exact Tst.and (b2 := true) (Tst.or (Tst.cmp (Ev.name rfl rfl) Ev.int CmpOK.ge_int rfl) fun _ => Tst.or (Tst.cmp (Ev.name rfl rfl) Ev.str CmpOK.eq_str rfl) fun _ => Tst.or_nil) (fun _ => Tst.and_nil) |> fun t => by simpa using t
      · have er : reachL l = 46 :: dots (q :: r) := by unfold reachL; rw [hs]; simp only [h, if_true]
        rw [er]
        have hle : (dots (q :: r)).length ≤ l.length := by rw [← hb]; simp
        refine Ex.ret (Ev.bin Ev.str (Ev.name rfl rfl) (BinOK.add_str ?_)) ?_
        · rw [mkS_len (dots (q :: r)), sizeLine_eq]
          show 1 + _ ≤ _
          omega
        · rw [lit_dot, mkS_append]; rfl
      · have er : reachL l = l := by unfold reachL; rw [hs]; simp only [h]; rfl
        rw [er]
        exact Ex.ret (Ev.name rfl rfl) rfl

theorem dm04 (a b : List Nat) (ha : a.length ≤ 2 ^ 20) (hb : b.length ≤ 2 ^ 20) (pa : ∀ k ∈ a, pc k = true) (pb : ∀ k ∈ b, pc k = true) : CallsTo (cx04 w mg mb) 50 2 [.str (mkS a), .str (mkS b)] (.bool (dmL a b)) := by
  refine CallsTo.body2 (x := "A") (y := "B") ⟨⟨_, rfl, rfl⟩, rfl, rfl, rfl, rfl, rfl, rfl, rfl, rfl, fun L p hp => by cases hp⟩ (fun v w => rfl) rfl (fun L => .inl rfl) (fun L => .inl rfl) ?_
  intro L A hr
  have hla : (lowL a).length ≤ 2 ^ 20 := by rw [low_len]; exact ha
  have hlb : (lowL b).length ≤ 2 ^ 20 := by rw [low_len]; exact hb
  refine Ex.assign (Ev.to (Ev.meth0 (Ev.name rfl rfl) (Meth0OK.lower (by rw [low_mk pa]; exact fits_of hla (by omega))) rfl rfl) (by rw [low_mk pa])) (.inl rfl) rfl rfl ?_
  refine Ex.assign (Ev.to (Ev.meth0 (Ev.name rfl rfl) (Meth0OK.lower (by rw [low_mk pb]; exact fits_of hlb (by omega))) rfl rfl) (by rw [low_mk pb])) (.inl rfl) rfl rfl ?_
  unfold dmL
  generalize lowL a = a' at *
  generalize lowL b = b' at *
  refine Ex.ite (b := a' == b') (Tst.to (Tst.cmp (Ev.name rfl rfl) (Ev.name rfl rfl) CmpOK.eq_str rfl) mkS_inj) (fun h => ?_) (fun h => ?_)
  · exact Ex.ret Ev.bool (by rw [h]; rfl)
  rw [h, Bool.false_or]
  refine Ex.ite (Tst.not (Tst.plain (Ev.call rfl rfl rfl rfl (.cons (Ev.name rfl rfl) .nil rfl) rfl hr (hdn04' a' hla)) TruOK.bool (fun _ => rfl))) (fun h1 => ?_) (fun h1 => ?_)
  · exact Ex.ret Ev.bool (by rw [Bool.not_eq_true'] at h1; rw [h1]; rfl)
  rw [Bool.not_eq_false'] at h1
  rw [h1, Bool.true_and]
  have ha0 : a' ≠ [] := by rintro rfl; cases h1
  refine Ex.assign (Ev.meth1 (Ev.name rfl rfl) (Ev.name rfl rfl) Meth1OK.rfind rfl rfl rfl) (.inl rfl) rfl rfl ?_
  refine Ex.ite (b := !occ b' a'.tail) (Tst.to (Tst.or (Tst.cmp (Ev.name rfl rfl) (Ev.neg Ev.int) CmpOK.eq_int rfl) fun _ => Tst.or (Tst.cmp (Ev.name rfl rfl) Ev.int CmpOK.eq_int rfl) fun _ => Tst.or_nil) (by rw [Bool.or_false]; exact rfind_occ b' ha0)) (fun h2 => ?_) (fun h2 => ?_)
  · exact Ex.ret Ev.bool (by rw [Bool.not_eq_true'] at h2; rw [h2]; rfl)
  rw [Bool.not_eq_false'] at h2
  rw [h2, Bool.true_and]
  refine Ex.ite (b := !(b'.head? == some 46)) (Tst.not (Tst.to (Tst.plain (Ev.meth1 (Ev.name rfl rfl) Ev.str Meth1OK.startswith rfl rfl rfl) TruOK.bool (fun _ => rfl)) (by rw [lit_dot, starts_mk]; exact pref_one b'))) (fun h3 => ?_) (fun h3 => ?_)
  · exact Ex.ret Ev.bool (by rw [Bool.not_eq_true'] at h3; rw [h3]; rfl)
  rw [Bool.not_eq_false'] at h3
  rw [h3, Bool.true_and]
  have htl : b'.tail.length ≤ 2 ^ 20 := by simp; omega
  refine Ex.ite (Tst.not (Tst.plain (Ev.call rfl rfl rfl rfl (.cons (Ev.to (Ev.slice_str (Ev.name rfl rfl) (.some Ev.int) .none (fits_of hlb (by omega))) (d' := strD b'.tail) (by rw [← List.drop_one]; exact congrArg PyData.str (slice_from b' 1))) .nil rfl) rfl hr (hdn04' b'.tail htl)) TruOK.bool (fun _ => rfl))) (fun h4 => ?_) (fun h4 => ?_)
  · exact Ex.ret Ev.bool (by rw [Bool.not_eq_true'] at h4; rw [h4])
  · exact Ex.ret Ev.bool (by rw [Bool.not_eq_false'] at h4; rw [h4])

end Mine

end PartL04
section PartM04
open PySem PySem.W PyProof.Rows
namespace Mine
variable {w : World} {mg mb : Str → Option Value}
abbrev rowD4 (R : List (List Nat)) : PyData := .list (R.map strD)
theorem inj_rowD4 : ∀ a b : List (List Nat), rowD4 a = rowD4 b → a = b := fun a b h => by
  have h := PyData.list.inj h
  exact (List.map_inj_right (f := strD) (fun x y => inj_strD x y)).mp h
def kk04 : PyData → Nat
  | .int x => (x.fmod 3).toNat
  | _ => 0
def lab04 (x : Int) : List Nat := labs04.getD (x.fdiv 3).toNat []
def vv04 : PyData → PyData
  | .int x => strD (lab04 x)
  | _ => .none
def part04 (xs : List Int) (j : Nat) : List (List Nat) := (xs.filter fun x => (x.fmod 3).toNat == j).map lab04
theorem grid04 (xs : List Int) : gridOf kk04 vv04 (xs.map .int) = [(part04 xs 0).map strD, (part04 xs 1).map strD, (part04 xs 2).map strD] := by
  have h : ∀ j, ((xs.map PyData.int).filter fun d => kk04 d == j).map vv04 = (part04 xs j).map strD := fun j => by
    unfold part04
    rw [List.filter_map, List.map_map, List.map_map]; rfl
  unfold gridOf
  rw [h, h, h]
def orE (l : List (List Nat)) : List (List Nat) := if l.isEmpty then [[]] else l
def figs04 (ns : List Int) : List Int := (cellsL 30 40 ns).take 40
def row04 (ns : List Int) (j : Nat) : List (List Nat) := orE (part04 (figs04 ns) j ++ part04 (figs04 ns) 2)
theorem figs04_ok (ns : List Int) : (figs04 ns).length ≤ 40 ∧ ∀ k ∈ figs04 ns, 0 ≤ k ∧ k < 30 :=
  ⟨by unfold figs04; simp; omega, fun k hk => (cellsL_ok (by omega) 40 ns).2 k (List.mem_of_mem_take hk)⟩
theorem lab04_in {x : Int} (h : 0 ≤ x ∧ x < 30) : 0 ≤ x.fdiv 3 ∧ x.fdiv 3 < (labs04.length : Int) := by
  rw [Int.fdiv_eq_ediv_of_nonneg _ (by omega)]; show _ ∧ _ < (10 : Int); omega
theorem part04_ok {xs : List Int} (hl : xs.length ≤ 40) (h : ∀ k ∈ xs, 0 ≤ k ∧ k < 30) (j : Nat) : (part04 xs j).length ≤ 40 ∧ ∀ p ∈ part04 xs j, p ∈ labs04 := by
  unfold part04
  refine ⟨?_, fun p hp => ?_⟩
  · rw [List.length_map]; have := List.length_filter_le (fun x : Int => (x.fmod 3).toNat == j) xs; omega
  · obtain ⟨x, hx, rfl⟩ := List.mem_map.mp hp
    have := lab04_in (h x (List.mem_filter.mp hx).1)
    exact getD_mem (by omega)
theorem row04_ok (ns : List Int) (j : Nat) : Row4 (row04 ns j) := by
  obtain ⟨h1, h2⟩ := figs04_ok ns
  have a := part04_ok h1 h2 j
  have b := part04_ok h1 h2 2
  unfold row04
  generalize part04 (figs04 ns) j = A at a
  generalize part04 (figs04 ns) 2 = B at b
  cases hl : A ++ B with
  | nil => exact ⟨by simp [orE], by simp [orE], by simp [orE]; decide⟩
  | cons x r =>
    rw [← hl]
    have e : orE (A ++ B) = A ++ B := by rw [hl]; rfl
    rw [e]
    refine ⟨by rw [hl]; simp, by rw [List.length_append]; omega, fun p hp => ?_⟩
    rcases List.mem_append.mp hp with h | h
    · exact a.2 p h
    · exact b.2 p h
theorem rowsC04 (ns : List Int) (hn : ns.length ≤ 63) : CallsTo (cx04 w mg mb) 62 1 [.list (ns.map .int)] (.list [rowD4 (row04 ns 0), rowD4 (row04 ns 1)]) := by
  refine CallsTo.body1 (x := "script") ⟨⟨_, rfl, rfl⟩, rfl, rfl, rfl, rfl, rfl, rfl, rfl, rfl, fun L p hp => by repeat' (first | (cases hp; done) | rfl | (rcases hp with _ | ⟨_, hp⟩))⟩ (fun v => rfl) (fun L => .inl rfl) ?_
  intro L A hr
  refine Ex.assign (d := .list (labs04.map strD)) (Ev.list (.cons Ev.str (.cons Ev.str (.cons Ev.str (.cons Ev.str (.cons Ev.str (.cons Ev.str (.cons Ev.str (.cons Ev.str (.cons Ev.str (.cons Ev.str .nil rfl) rfl) rfl) rfl) rfl) rfl) rfl) rfl) rfl) rfl) (by decide +kernel)) (.inl rfl) rfl rfl ?_
  refine Ex.assignL .nil (by decide +kernel) (.inl rfl) rfl rfl rfl ?_
  refine Ex.cells (M := 30) (C := 40) (ns := ns) hr.1 hr.units rfl (by omega) (by decide) (by omega) (fun _ _ => Ev.int) (fun _ _ => Ev.int) (fun _ _ => Ev.int) (fun _ _ => Ev.int) (.inl rfl) (.inl rfl) rfl rfl rfl rfl rfl rfl rfl rfl rfl rfl rfl rfl (fun _ _ => ⟨rfl, rfl, trivial⟩) ?_
  obtain ⟨hc1, hc2⟩ := cellsL_ok (M := 30) (by omega) 40 ns
  refine Ex.freeze "spelled" rfl ?_
  obtain ⟨f1, f2⟩ := figs04_ok ns
  have zS : ((cellsL 30 40 ns).map PyData.int).length ≤ sizeLine := by rw [sizeLine_eq]; simp; omega
  refine Ex.grid (ds := (figs04 ns).map .int) kk04 vv04 (EvI.list hr.1 (Ev.to (EvL.slice (Ev.l (Ev.name rfl rfl)) EvP.none (EvP.some Ev.int) EvP.none (by simp) zS ⟨_, fun _ _ => rfl⟩) (congrArg PyData.list ((pick_to _ 40).trans (by unfold figs04; rw [List.map_take]))))) (fun _ => rfl) (.inr ⟨rfl, _, rfl⟩) rfl rfl rfl rfl rfl rfl rfl ?_ ?_ ?_ (by simp; omega) (fun _ _ => rfl) rfl rfl rfl rfl rfl rfl ?_
  · intro d hd
    obtain ⟨x, hx, rfl⟩ := List.mem_map.mp hd
    have := fmod_in x (n := 3) (by omega)
    exact Ev.to (Ev.bin (Ev.name rfl rfl) Ev.int (BinOK.mod_int rfl)) (by show PyData.int _ = .int (((x.fmod 3).toNat : Nat) : Int); congr 1; omega)
  · intro d hd
    obtain ⟨x, hx, rfl⟩ := List.mem_map.mp hd
    have := fmod_in x (n := 3) (by omega)
    show (x.fmod 3).toNat < 3
    omega
  · intro d hd
    obtain ⟨x, hx, rfl⟩ := List.mem_map.mp hd
    exact Ev.item_list (Ev.l (Ev.name rfl rfl)) (Ev.bin (Ev.name rfl rfl) Ev.int (BinOK.fdiv_int rfl (noPy (by decide) (by decide)))) (lab_at (L := labs04) (lab04_in (f2 x hx))) (by decide +kernel) (fun _ _ => rfl)
  rw [grid04]
  have a := part04_ok f1 f2
  have eR : ∀ j, row04 ns j = orE (part04 (figs04 ns) j ++ part04 (figs04 ns) 2) := fun j => rfl
  rw [eR, eR]
  have a0 := a 0; have a1 := a 1; have a2 := a 2
  generalize part04 (figs04 ns) 0 = g0 at *
  generalize part04 (figs04 ns) 1 = g1 at *
  generalize part04 (figs04 ns) 2 = g2 at *
  refine Ex.ret (Ev.to (Ev.mapT (α := List (List Nat)) (xs := [g0, g1]) (g := rowD4) [("rows", .list [rowD4 g0, rowD4 g1, rowD4 g2])] (fun r => rowD4 (orE (r ++ g2))) inj_rowD4 (EvI.list hr.1 (Ev.to (EvL.slice (ds := [rowD4 g0, rowD4 g1, rowD4 g2]) (Ev.l (Ev.name rfl rfl)) EvP.none (EvP.some Ev.int) EvP.none (by simp) (by rw [sizeLine_eq]; simp) ⟨_, fun _ _ => rfl⟩) (congrArg PyData.list (pick_to _ 2)))) (fun _ => rfl) rfl (by decide) rfl (by decide) rfl (fun C => FreeOK.cons FreeOK.nil rfl rfl rfl rfl ⟨_, rfl, rfl⟩)
    (fun r hr' C => ?_) (by rw [sizeLine_eq]; simp)) rfl) rfl
  have hrl : r.length ≤ 40 := by
    simp at hr'
    rcases hr' with rfl | rfl
    · exact a0.1
    · exact a1.1
  have zz : (r.map strD ++ g2.map strD).length ≤ sizeLine := by rw [sizeLine_eq]; simp; omega
  refine Ev.or (Ev.bin (Ev.name rfl rfl) (Ev.item_list (d := rowD4 g2) (Ev.l (Ev.name rfl rfl)) Ev.int rfl (by rw [sizeLine_eq]; simp) (fun _ _ => rfl)) (BinOK.add_list (by rw [sizeLine_eq]; simp; omega))) (TruOK.list zz) (fun h => ?_) (fun h => ?_)
  · have : (r ++ g2).isEmpty = false := by rw [← List.map_append, List.isEmpty_map] at h; simpa using h
    unfold orE; rw [this, ← List.map_append]; rfl
  · have : (r ++ g2).isEmpty = true := by rw [← List.map_append, List.isEmpty_map] at h; simpa using h
    unfold orE; rw [this, if_pos rfl]
    exact Ev.bool_one (Ev.list (.cons Ev.str .nil rfl) (by rw [sizeLine_eq]; simp))
end Mine

end PartM04
section PartN04
open PySem PySem.W PyProof.Rows
namespace Mine
variable {w : World} {mg mb : Str → Option Value}
theorem bad_pc : ∀ y ∈ bad04, ∀ k ∈ y, pc k = true := by decide +kernel
theorem bad_ok : ∀ y ∈ bad04, okL y := fun y hy => okL_pc (bad_pc y hy)
theorem Row4.okm {R} (h : Row4 R) {p : List Nat} (hp : p ∈ R) : okL p := okL_pc (labs04_facts p (h.mem p hp)).2.1
theorem Row4.size {R} (h : Row4 R) : (R.map strD).length ≤ sizeLine := by rw [sizeLine_eq]; simp; have := h.len; omega
theorem climbsC04 (ps : List (List Nat)) (H : Row4 ps) : CallsTo (cx04 w mg mb) 67 1 [rowD4 ps] (natD (climbs04 ps)) := by
  refine CallsTo.body1 (x := "row") ⟨⟨_, rfl, rfl⟩, rfl, rfl, rfl, rfl, rfl, rfl, rfl, rfl, fun L p hp => by repeat' (first | (cases hp; done) | rfl | (rcases hp with _ | ⟨_, hp⟩))⟩ (fun v => rfl) (fun L => .inr ⟨rfl, rfl⟩) ?_
  intro L A hr
  have zR := H.size
  have hp := H.pos
  have hl80 := H.len
  have eL := lastD_last H.ne
  refine Ex.ite (b := stay04 ps) (Tst.to (Tst.or (Tst.cmp (Ev.item_list (Ev.l (Ev.name rfl rfl)) Ev.int (headD_zero H.ne) zR (fun _ _ => rfl)) Ev.str CmpOK.eq_str rfl) fun _ => Tst.or (Tst.and (Tst.cmp (Ev.to (Ev.blt rfl rfl rfl rfl (by decide) (.cons (Ev.name rfl rfl) .nil rfl) rfl rfl (BltTo.len_list zR)) (d' := natD ps.length) (by rw [List.length_map])) Ev.int (CmpOK.gtN (b := 1)) rfl) fun _ => Tst.and (Tst.cmp (Ev.item_list (Ev.l (Ev.name rfl rfl)) (Ev.neg Ev.int) eL zR (fun _ _ => rfl)) (Ev.list (ds := bad04.map strD) (.cons Ev.str (.cons Ev.str (.cons Ev.str .nil rfl) rfl) rfl) (by decide +kernel)) (CmpOK.in_strs (H.okm (lastD_mem H.ne)) bad_ok hr.units) rfl) fun _ => Tst.and_nil) fun _ => Tst.or_nil) ?_) (fun h => ?_) (fun h => ?_)
  · rw [Bool.and_true, Bool.or_false, lit_nil, mkS_inj]; rfl
  · unfold climbs04; rw [h, if_pos rfl]
    exact Ex.ret Ev.int rfl
  refine Ex.assign (d := natD (most04 ps)) (Ev.ifexp (b := ps.getLastD [] == local5) (Tst.to (Tst.cmp (Ev.item_list (Ev.l (Ev.name rfl rfl)) (Ev.neg Ev.int) eL zR (fun _ _ => rfl)) Ev.str CmpOK.eq_str rfl) (by rw [show Str.ofString "local" = mkS local5 from rfl, mkS_inj])) (fun h => ?_) (fun h => ?_)) (.inl rfl) rfl rfl ?_
  · unfold most04; rw [h, if_pos rfl]
    exact Ev.subN (b := 1) (Ev.to (Ev.blt rfl rfl rfl rfl (by decide) (.cons (Ev.name rfl rfl) .nil rfl) rfl rfl (BltTo.len_list zR)) (d' := natD ps.length) (by rw [List.length_map])) Ev.int (by omega)
  · unfold most04; rw [h, if_neg (by simp)]
    exact Ev.to (Ev.blt rfl rfl rfl rfl (by decide) (.cons Ev.int (.cons (Ev.bin (Ev.to (Ev.blt rfl rfl rfl rfl (by decide) (.cons (Ev.name rfl rfl) .nil rfl) rfl rfl (BltTo.len_list zR)) (d' := natD ps.length) (by rw [List.length_map])) Ev.int BinOK.sub_int) .nil rfl) rfl) rfl rfl (BltTo.max_two hr.1)) (by show PyData.int _ = .int _; congr 1; omega)
  have hel : (empt04 ps).length ≤ ps.length := by
    unfold empt04
    have := List.length_filter_le (fun k => ps.getD (1 + k) [] == []) (List.range (ps.length - 1)); rw [List.length_range] at this; omega
  refine Ex.ret (Ev.item_list (Ev.l (Ev.bin (Ev.compT (α := Nat) (xs := List.range (ps.length - 1)) (g := fun (k : Nat) => .int (1 + (k : Int))) [("row", rowD4 ps)] (fun k => ps.getD (1 + k) [] == []) (fun (k : Nat) => .int (1 + (k : Int))) inj_range
      (EvI.to (EvI.range2 hr.1 rfl rfl rfl rfl (by decide) Ev.int (Ev.to (Ev.blt rfl rfl rfl rfl (by decide) (.cons (Ev.name rfl rfl) .nil rfl) rfl rfl (BltTo.len_list zR)) (d' := .int (ps.length : Int)) (by rw [List.length_map])) rfl (by omega) (by omega)) (by unfold rangeD; rw [show ((ps.length : Int) - 1).toNat = ps.length - 1 by omega])) (fun _ => rfl) rfl (by decide) rfl (by decide) rfl (fun C => FreeOK.cons FreeOK.nil rfl rfl rfl rfl ⟨_, rfl, rfl⟩)
      (fun k hk C => TstAll.one (Tst.to (Tst.cmp (Ev.item_list (Ev.l (Ev.name rfl rfl)) (Ev.to (Ev.name rfl rfl) (d' := natD (1 + k)) (by congr 1)) (getD_at (ps := ps) (by have := List.mem_range.mp hk; omega)) zR (fun _ _ => rfl)) Ev.str CmpOK.eq_str rfl) (by rw [lit_nil, mkS_inj])))
      (fun k hk _ C => Ev.name rfl rfl) (by rw [sizeLine_eq]; simp; omega)) (Ev.list (.cons (Ev.name rfl rfl) .nil rfl) (by rw [sizeLine_eq]; simp)) (BinOK.add_list (by
        rw [List.length_map]; show (empt04 ps).length + 1 ≤ _; rw [sizeLine_eq]; omega)))) Ev.int ?_ (by
        rw [List.length_append, List.length_map]; show (empt04 ps).length + 1 ≤ _; rw [sizeLine_eq]; omega) (fun _ _ => rfl)) rfl
  show pyIdx ((empt04 ps).map (fun (k : Nat) => PyData.int (1 + (k : Int))) ++ [natD (most04 ps)]) 0 = _
  unfold climbs04
  rw [h, if_neg (by simp), pyIdx_zero]
  cases empt04 ps with
  | nil => rfl
  | cons k r => show some (PyData.int _) = some (.int _); congr 2
theorem way_last (ps : List (List Nat)) (i : Nat) : (way04 ps i).getLastD [] = dots (ps.drop i) := by
  unfold way04; rw [List.getLastD_eq_getLast?, List.range_succ, List.map_append, List.getLast?_append]; rfl
theorem way_succ (ps : List (List Nat)) (i : Nat) : way04 ps (i + 1) = way04 ps i ++ [dots (ps.drop (i + 1))] := by
  unfold way04; rw [List.range_succ, List.map_append]; rfl
theorem wayC04 (ps : List (List Nat)) (H : Row4 ps) : CallsTo (cx04 w mg mb) 74 3 [strD (dots ps)] (rowD4 (way04 ps (climbs04 ps))) := by
  refine CallsTo.body1 (x := "host") ⟨⟨_, rfl, rfl⟩, rfl, rfl, rfl, rfl, rfl, rfl, rfl, rfl, fun L p hp => by cases hp⟩ (fun v => rfl) (fun L => .inl rfl) ?_
  intro L A hr
  obtain ⟨n1, n2, n3⟩ := climb_spec H
  generalize climbs04 ps = n at n1 n2 n3
  have hdl := H.dlen
  have hl80 := H.len
  have hdn : ps.length ≤ (dots ps).length + 1 := by have := dots_len ps H.ne; omega
  refine Ex.assignL (ds := [strD (dots ps)]) (.cons (Ev.name rfl rfl) .nil rfl) (by rw [sizeLine_eq]; simp) (.inl rfl) rfl rfl rfl ?_
  let B : Rho := [("host", strD (dots ps))]
  refine Ex.for (ds := (List.range ((dots ps).length + 1)).map natD) (EvI.rangeN (n := (dots ps).length + 1) hr.1 rfl rfl rfl rfl (by decide) (Ev.addN (b := 1) (Ev.to (Ev.blt rfl rfl rfl rfl (by decide) (.cons (Ev.name rfl rfl) .nil rfl) rfl rfl (BltTo.len_str (fits_of hdl (by omega)))) (d' := natD (dots ps).length) (by rw [mkS_len])) Ev.int) rfl (by omega)) (fun _ => rfl) (fun _ _ => rfl)
    (fun i ρ' σ' => ρ' = B ∧ σ' = ([("way", (way04 ps i).map strD)] : Sig) ∧ i ≤ n) (fun ρ' σ' => ∃ ρ1, ρ' = B ++ ρ1 ∧ σ' = ([("way", (way04 ps n).map strD)] : Sig)) (fun _ => False) ⟨rfl, rfl, by omega⟩ ?_ ?_ ?_ (fun _ h => h.elim)
  · rintro i d _ _ hd ⟨rfl, rfl, hin⟩
    obtain ⟨hi, rfl⟩ := rangeN_get hd
    refine ⟨_, Asg.name (.inl rfl) rfl, ?_⟩
    have zW : ((way04 ps i).map strD).length ≤ sizeLine := by rw [sizeLine_eq, List.length_map, way_len]; omega
    have eW : pyIdx ((way04 ps i).map strD) (-1) = some (strD (dots (ps.drop i))) := by
      rw [lastD_last (by intro e; have := congrArg List.length e; rw [way_len] at this; simp at this), way_last]
    have hil : i < ps.length := by omega
    have Hd := H.drop hil
    have hst := step04 H hil
    have hdd := Hd.dlen
    refine Ex.assign (d := strD (reachL (dots (ps.drop i)))) (Ev.call rfl rfl rfl rfl (.cons (Ev.item_list (EvL.name rfl rfl) (Ev.neg Ev.int) eW zW (fun _ _ => rfl)) .nil rfl) rfl (hr.mono (by omega)) (reach04 _ (by omega))) (.inl rfl) rfl rfl ?_
    refine Ex.ite (b := reachL (dots (ps.drop i)) == dots (ps.drop i)) (Tst.to (Tst.cmp (Ev.name rfl rfl) (Ev.item_list (EvL.name rfl rfl) (Ev.neg Ev.int) eW zW (fun _ _ => rfl)) CmpOK.eq_str rfl) mkS_inj) (fun h => ?_) (fun h => ?_)
    · have : i = n := by
        by_cases e : i = n
        · exact e
        · have hc := n2 i (by omega)
          rw [hst, hc, if_pos rfl, step_ne H hil hc] at h; cases h
      subst this
      exact Ex.brk ⟨[("k", natD i), ("up", strD (reachL (dots (ps.drop i))))], rfl, rfl⟩
    · have hlt : i < n := by
        by_cases e : i = n
        · subst e; rw [hst, n3, if_neg (by simp)] at h; simp at h
        · omega
      have hc := n2 i hlt
      rw [hst, hc, if_pos rfl]
      have hsl1 : Txt.slice (mkS (46 :: dots (ps.drop (i + 1)))) (some 1) none = mkS (dots (ps.drop (i + 1))) := by rw [show (1 : Int) = ((1 : Nat) : Int) from rfl, slice_from]; rfl
      have hd1 := (H.drop (i := i + 1) (by omega)).dlen
      refine Ex.append rfl (Ev.to (Ev.slice_str (Ev.name rfl rfl) (EvP.some Ev.int) EvP.none (fits_of (n := 600) (by simp; omega) (by omega))) (congrArg PyData.str hsl1)) zW rfl rfl rfl rfl rfl ?_
      refine Ex.sub B ([("way", (way04 ps (i + 1)).map strD)] : Sig) ⟨rfl, trivial⟩ ⟨?_, trivial⟩ (Ex.nil ⟨rfl, rfl, by omega⟩)
      rw [way_succ, List.map_append]; rfl
  · rintro _ _ ⟨rfl, rfl, hin⟩
    rw [List.length_map, List.length_range] at hin
    omega
  · rintro _ _ ⟨ρ1, rfl, rfl⟩
    refine Ex.freeze "way" rfl ?_
    exact Ex.ret (Ev.name (look_here _ _ _) rfl) rfl
end Mine

end PartN04
section PartO04
open PySem PySem.W PyProof.Rows
namespace Mine
variable {w : World} {mg mb : Str → Option Value}
theorem CmpOK.geN {c : Cx} {A : Around} {a b : Nat} : CmpOK c A .GtE (natD a) (natD b) (decide (b ≤ a)) := by
  have := CmpOK.ge_int (c := c) (A := A) (a := (a : Int)) (b := (b : Int))
  rwa [show decide ((a : Int) ≥ (b : Int)) = decide (b ≤ a) by rw [decide_eq_decide]; omega] at this
theorem CmpOK.ne_ints_same {c : Cx} {A : Around} {ns : List Int} (hr : A.units + 100 < cLine) : CmpOK c A .NotEq (.list (ns.map .int)) (.list (ns.map .int)) false := by
  have e : PyData.eqv (.list (ns.map .int)) (.list (ns.map .int)) = true := eqv_ints ns
  have := CmpOK.ne (c := c) (A := A) (d1 := .list (ns.map .int)) (d2 := .list (ns.map .int)) (canLay_ints ns) (canLay_ints ns) (by
    have : PyData.depth (.list (ns.map .int)) = 0 + 1 := by show PyData.depthAll _ + 1 = _; rw [depth_ints]
    rw [this]; omega)
  rw [e] at this
  exact this
theorem neg_at4 {G : List (List Nat)} {m : Nat} (h : m < G.length) : pyIdx (G.map strD) (-1 - (m : Int)) = some (strD (G.getD (G.length - 1 - m) [])) := by
  unfold pyIdx
  rw [if_neg (by omega), if_pos (by rw [List.length_map]; omega), List.length_map, show (-1 - (m : Int) + (G.length : Int)).toNat = G.length - 1 - m by omega, List.getElem?_map, List.getElem?_eq_getElem (by omega), getD_at' (by omega)]; rfl
theorem take_head (l : List Nat) : (l.take 1 == [46]) = (l.head? == some 46) := by
  cases l with
  | nil => rfl
  | cons x r => simp
theorem Row4.join {R} (h : Row4 R) : (R.map (·.length)).sum + R.length ≤ 16777216 := join_ok (B := 6) (n := 80) (fun p hp => (labs04_facts p (h.mem p hp)).2.2.1) h.len (by omega)
theorem way_ok {R} (H : Row4 R) {n : Nat} (hn : n < R.length) : ∀ l ∈ way04 R n, okL l := fun l hl => by
  obtain ⟨i, hi, rfl⟩ := List.mem_map.mp hl
  have hi := List.mem_range.mp hi
  exact okL_pc (H.drop (by omega)).pcs
theorem law04 (ns : List Int) (hn : ns.length ≤ 63) : CallsTo (cx04 w mg mb) 79 4 [.list (ns.map .int)] (.bool true) := by
  refine CallsTo.body1 (x := "script") ⟨⟨_, rfl, rfl⟩, rfl, rfl, rfl, rfl, rfl, rfl, rfl, rfl, fun L p hp => by repeat' (first | (cases hp; done) | rfl | (rcases hp with _ | ⟨_, hp⟩))⟩ (fun v => rfl) (fun L => .inl rfl) ?_
  intro L Ar hr
  refine Ex.assignU (Ev.call rfl rfl rfl rfl (.cons (Ev.name rfl rfl) .nil rfl) rfl (hr.mono (by omega)) (rowsC04 ns hn)) hr.1 (.inl rfl) (.inl rfl) rfl rfl rfl rfl ?_
  have HA := row04_ok ns 0
  have HB := row04_ok ns 1
  generalize row04 ns 0 = A at HA
  generalize row04 ns 1 = B at HB
  obtain ⟨a1, a2, a3⟩ := climb_spec HA
  obtain ⟨b1, b2, b3⟩ := climb_spec HB
  have cA := climbsC04 (w := w) (mg := mg) (mb := mb) A HA
  have cB := climbsC04 (w := w) (mg := mg) (mb := mb) B HB
  have zA := HA.size
  have zB := HB.size
  have A80 := HA.len
  have B80 := HB.len
  refine Ex.assignT (d1 := rowD4 (way04 A (climbs04 A))) (d2 := rowD4 (way04 B (climbs04 B))) (Ev.tuple (.cons (Ev.call rfl rfl rfl rfl (.cons (Ev.meth1 Ev.str (Ev.name rfl rfl) (Meth1OK.join_dot HA.join) rfl rfl rfl) .nil rfl) rfl (hr.mono (by omega)) (wayC04 A HA)) (.cons (Ev.call rfl rfl rfl rfl (.cons (Ev.meth1 Ev.str (Ev.name rfl rfl) (Meth1OK.join_dot HB.join) rfl rfl rfl) .nil rfl) rfl (hr.mono (by omega)) (wayC04 B HB)) .nil rfl) rfl) (by rw [sizeLine_eq]; simp)) hr.1 (.inl rfl) (.inr ⟨rfl, _, rfl⟩) rfl rfl rfl rfl ?_
  have zWA : ((way04 A (climbs04 A)).map strD).length ≤ sizeLine := by rw [sizeLine_eq, List.length_map, way_len]; omega
  have zWB : ((way04 B (climbs04 B)).map strD).length ≤ sizeLine := by rw [sizeLine_eq, List.length_map, way_len]; omega
  refine Ex.ite (b := false) (Tst.cmp (Ev.to (Ev.list (.cons (Ev.to (Ev.blt rfl rfl rfl rfl (by decide) (.cons (Ev.name rfl rfl) .nil rfl) rfl rfl (BltTo.len_list zWA)) (d' := natD (1 + climbs04 A)) (by rw [List.length_map, way_len, Nat.add_comm])) (.cons (Ev.to (Ev.blt rfl rfl rfl rfl (by decide) (.cons (Ev.name rfl rfl) .nil rfl) rfl rfl (BltTo.len_list zWB)) (d' := natD (1 + climbs04 B)) (by rw [List.length_map, way_len, Nat.add_comm])) .nil rfl) rfl) (by rw [sizeLine_eq]; simp)) (d' := .list ([((1 + climbs04 A : Nat) : Int), ((1 + climbs04 B : Nat) : Int)].map .int)) rfl)
    (Ev.to (Ev.list (.cons (Ev.addN (a := 1) Ev.int (Ev.call rfl rfl rfl rfl (.cons (Ev.name rfl rfl) .nil rfl) rfl (hr.mono (by omega)) cA)) (.cons (Ev.addN (a := 1) Ev.int (Ev.call rfl rfl rfl rfl (.cons (Ev.name rfl rfl) .nil rfl) rfl (hr.mono (by omega)) cB)) .nil rfl) rfl) (by rw [sizeLine_eq]; simp)) (d' := .list ([((1 + climbs04 A : Nat) : Int), ((1 + climbs04 B : Nat) : Int)].map .int)) rfl) (CmpOK.ne_ints_same hr.units) rfl) (fun h => by cases h) (fun _ => ?_)
  refine Ex.assign (d := natD 0) Ev.int (.inl rfl) rfl rfl ?_
  let C : Nat → Rho := fun t => [("script", .list (ns.map .int)), ("one", rowD4 A), ("two", rowD4 B), ("first", rowD4 (way04 A (climbs04 A))), ("second", rowD4 (way04 B (climbs04 B))), ("same", natD t)]
  refine Ex.while (fun n ρ' σ' => ∃ t, ρ' = C t ∧ σ' = ([] : Sig) ∧ comEnd A B t ∧ n = min A.length B.length - t) (fun ρ' σ' => ∃ t, ρ' = C t ∧ σ' = ([] : Sig) ∧ comEnd A B t ∧ ∀ u, comEnd A B u → u ≤ t) (fun _ => False) (min A.length B.length) ⟨0, rfl, rfl, ⟨by omega, by omega, by unfold sfx; simp⟩, by omega⟩ ?_ ?_ (fun _ h => h.elim)
  · rintro n _ _ ⟨t, rfl, rfl, hc, rfl⟩
    have hcA := hc.1; have hcB := hc.2.1
    refine ⟨decide (t < min A.length B.length) && (A.getD (A.length - 1 - t) [] == B.getD (B.length - 1 - t) []), Tst.to (Tst.and (b1 := decide (t < min A.length B.length)) (Tst.cmp (Ev.name rfl rfl) (Ev.to (Ev.blt rfl rfl rfl rfl (by decide) (.cons (Ev.to (Ev.blt rfl rfl rfl rfl (by decide) (.cons (Ev.name rfl rfl) .nil rfl) rfl rfl (BltTo.len_list zA)) (d' := .int (A.length : Int)) (by rw [List.length_map])) (.cons (Ev.to (Ev.blt rfl rfl rfl rfl (by decide) (.cons (Ev.name rfl rfl) .nil rfl) rfl rfl (BltTo.len_list zB)) (d' := .int (B.length : Int)) (by rw [List.length_map])) .nil rfl) rfl) rfl rfl (BltTo.min_two hr.1)) (d' := natD (min A.length B.length)) (by show PyData.int _ = .int _; congr 1; omega)) CmpOK.ltN rfl) fun q => Tst.and (Tst.cmp (Ev.item_list (Ev.l (Ev.name rfl rfl)) (Ev.bin (Ev.neg Ev.int) (Ev.name rfl rfl) BinOK.sub_int) (neg_at4 (by rw [decide_eq_true_eq] at q; omega)) zA (fun _ _ => rfl)) (Ev.item_list (Ev.l (Ev.name rfl rfl)) (Ev.bin (Ev.neg Ev.int) (Ev.name rfl rfl) BinOK.sub_int) (neg_at4 (by rw [decide_eq_true_eq] at q; omega)) zB (fun _ _ => rfl)) CmpOK.eq_str rfl) fun _ => Tst.and_nil) (by rw [Bool.and_true, mkS_inj]), fun hb => ?_, fun hb => ?_⟩
    · refine ⟨t, rfl, rfl, hc, fun u hu => ?_⟩
      by_cases hlt : t < u
      · exfalso
        have hu1 := hu.1; have hu2 := hu.2.1
        have := (com_succ (by omega) (by omega)).mp (com_down hu (u := t + 1) (by omega))
        rw [decide_eq_true (by omega), this.1] at hb
        simp at hb
      · omega
    · rw [Bool.and_eq_true, decide_eq_true_eq] at hb
      refine Ex.assign (Ev.addN (b := 1) (Ev.name rfl rfl) Ev.int) (.inl rfl) rfl rfl ?_
      exact Ex.nil ⟨min A.length B.length - (t + 1), by omega, t + 1, rfl, rfl, (com_succ (by omega) (by omega)).mpr ⟨by simpa using hb.2, hc⟩, rfl⟩
  rintro _ _ ⟨t, rfl, rfl, hc, hx⟩
  have hcA := hc.1; have hcB := hc.2.1
  have hf := first04 HA HB a1 b1 hc hx
  refine Ex.assign (d := .list (([] : List (List Nat)).map strD)) (Ev.list .nil (by decide +kernel)) (.inl rfl) rfl rfl ?_
  let bb := decide (A.length - climbs04 A ≤ t) && decide (B.length - climbs04 B ≤ t)
  let due : List (List Nat) := if bb then [dots (sfx A t)] else []
  have hf : ((way04 A (climbs04 A)).filter fun h => (way04 B (climbs04 B)).contains h).take 1 = due := hf
  refine Ex.iteJ (b := bb) (C t ++ ([("due", .list (due.map strD))] : Rho)) [] (Tst.to (Tst.and (Tst.cmp (Ev.name rfl rfl) (Ev.subN (Ev.to (Ev.blt rfl rfl rfl rfl (by decide) (.cons (Ev.name rfl rfl) .nil rfl) rfl rfl (BltTo.len_list zA)) (d' := natD A.length) (by rw [List.length_map])) (Ev.call rfl rfl rfl rfl (.cons (Ev.name rfl rfl) .nil rfl) rfl (hr.mono (by omega)) cA) (by omega)) CmpOK.geN rfl) fun _ => Tst.and (Tst.cmp (Ev.name rfl rfl) (Ev.subN (Ev.to (Ev.blt rfl rfl rfl rfl (by decide) (.cons (Ev.name rfl rfl) .nil rfl) rfl rfl (BltTo.len_list zB)) (d' := natD B.length) (by rw [List.length_map])) (Ev.call rfl rfl rfl rfl (.cons (Ev.name rfl rfl) .nil rfl) rfl (hr.mono (by omega)) cB) (by omega)) CmpOK.geN rfl) fun _ => Tst.and_nil) (by rw [Bool.and_true])) (fun h => ?_) (fun h => ?_) ?_
  · have ed : due = [dots (sfx A t)] := by show (if bb then _ else _) = _; rw [h, if_pos rfl]
    have JS : ((sfx A t).map (·.length)).sum + (sfx A t).length ≤ 16777216 := join_ok (B := 6) (n := 80) (fun p hp => (labs04_facts p (HA.mem p (sfx_mem hp))).2.2.1) (by rw [sfx_len hcA]; omega) (by omega)
    refine Ex.assign (d := .list (due.map strD)) (Ev.to (Ev.list (.cons (Ev.meth1 Ev.str (Ev.to (EvL.slice (Ev.l (Ev.name rfl rfl)) (EvP.some (Ev.subN (Ev.to (Ev.blt rfl rfl rfl rfl (by decide) (.cons (Ev.name rfl rfl) .nil rfl) rfl rfl (BltTo.len_list zA)) (d' := natD A.length) (by rw [List.length_map])) (Ev.name rfl rfl) hcA)) EvP.none EvP.none (by simp) zA ⟨_, fun _ _ => rfl⟩) (d' := .list ((sfx A t).map strD)) (by rw [pick_from]; unfold sfx; rw [List.map_drop])) (Meth1OK.join_dot JS) rfl rfl rfl) .nil rfl) (by rw [sizeLine_eq]; simp)) (by rw [ed]; rfl)) (.inl rfl) rfl rfl (Ex.nil ⟨rfl, rfl, rfl⟩)
  · have ed : due = [] := by show (if bb then _ else _) = _; rw [h]; rfl
    refine Ex.nil ⟨rfl, ?_, rfl⟩
    rw [ed]; rfl
  have okW := way_ok HB b1
  have okV := way_ok HA a1
  have okF : ∀ l ∈ (((way04 A (climbs04 A)).filter fun h => (way04 B (climbs04 B)).contains h).take 1), okL l := fun l hl => okV l (List.mem_filter.mp (List.mem_of_mem_take hl)).1
  have zF : (((way04 A (climbs04 A)).filter fun h => (way04 B (climbs04 B)).contains h).map strD).length ≤ sizeLine := by
    have := List.length_filter_le (fun h => (way04 B (climbs04 B)).contains h) (way04 A (climbs04 A))
    rw [way_len] at this
    rw [sizeLine_eq, List.length_map]; omega
  refine Ex.ite (b := false) (Tst.to (Tst.cmp (Ev.to (EvL.slice (Ev.l (Ev.compT (α := List Nat) (xs := way04 A (climbs04 A)) (g := strD) [("second", rowD4 (way04 B (climbs04 B)))] (fun h => (way04 B (climbs04 B)).contains h) strD inj_strD (EvI.list hr.1 (Ev.name rfl rfl)) (fun _ => rfl) rfl (by decide) rfl (by decide) rfl (fun C => FreeOK.cons FreeOK.nil rfl rfl rfl rfl ⟨_, rfl, rfl⟩)
      (fun h hh C => TstAll.one (Tst.cmp (Ev.name rfl rfl) (Ev.name rfl rfl) (CmpOK.in_strs (okV h hh) okW hr.units) rfl)) (fun h hh _ C => Ev.name rfl rfl) (by simpa using zWA))) EvP.none (EvP.some Ev.int) EvP.none (by simp) zF ⟨_, fun _ _ => rfl⟩) (d' := .list ((((way04 A (climbs04 A)).filter fun h => (way04 B (climbs04 B)).contains h).take 1).map strD)) (congrArg PyData.list ((pick_to _ 1).trans List.map_take.symm))) (Ev.name rfl rfl) (CmpOK.ne_strs okF (by rw [← hf]; exact okF) hr.units) rfl) (by rw [hf]; simp)) (fun h => by cases h) (fun _ => ?_)
  let D : Rho := C t ++ ([("due", .list (due.map strD))] : Rho)
  refine Ex.for (ds := due.map strD) (EvI.list hr.1 (Ev.name rfl rfl)) (fun _ => rfl) (fun _ _ => rfl)
    (fun i ρ' σ' => ρ' = D ∧ σ' = ([] : Sig)) (fun ρ' σ' => ρ' = D ∧ σ' = ([] : Sig)) (fun r => r = .bool true) ⟨rfl, rfl⟩ ?_ (fun _ _ h => h) ?_ (fun _ h => by rw [h])
  · rintro i d _ _ hd ⟨rfl, rfl⟩
    have hbb : bb = true ∧ d = strD (dots (sfx A t)) := by
      by_cases hb : bb = true
      · have ed : due = [dots (sfx A t)] := by show (if bb then _ else _) = _; rw [hb, if_pos rfl]
        rw [ed] at hd
        match i with
        | 0 => simp at hd; exact ⟨hb, hd.symm⟩
        | i + 1 => simp at hd
      · have ed : due = [] := by show (if bb then _ else _) = _; rw [if_neg hb]
        rw [ed] at hd; simp at hd
    obtain ⟨hbb, rfl⟩ := hbb
    have hbA : A.length - climbs04 A ≤ t ∧ B.length - climbs04 B ≤ t := by simpa [bb] using hbb
    refine ⟨_, Asg.name (.inl rfl) rfl, ?_⟩
    have ht1 : 1 ≤ t := by omega
    have htl : (dots (sfx A t)).length ≤ 560 := dots_bound' (B := 6) (n := 80) (fun p hp => (labs04_facts p (HA.mem p (sfx_mem hp))).2.2.1) (by rw [sfx_len hcA]; omega)
    have htp : ∀ k ∈ dots (sfx A t), pc k = true := pc_dots fun p hp => (labs04_facts p (HA.mem p (sfx_mem hp))).2.1
    let D2 : Rho := D ++ ([("top", strD (dots (sfx A t)))] : Rho)
    refine Ex.for (ds := [rowD4 A, rowD4 B]) (EvI.tuple hr.1 (Ev.tuple (.cons (Ev.name rfl rfl) (.cons (Ev.name rfl rfl) .nil rfl) rfl) (by rw [sizeLine_eq]; simp))) (fun _ => rfl) (fun _ _ => rfl)
      (fun i ρ' σ' => ρ' = D2 ∧ σ' = ([] : Sig)) (fun ρ' σ' => ρ' = D2 ∧ σ' = ([] : Sig)) (fun r => r = .bool true) ⟨rfl, rfl⟩ ?_ (fun _ _ h => h) ?_ (fun _ h => h)
    · rintro j d _ _ hd ⟨rfl, rfl⟩
      obtain ⟨R, hR, rfl, hsf, htR, hcR⟩ : ∃ R, Row4 R ∧ d = rowD4 R ∧ sfx R t = sfx A t ∧ t ≤ R.length ∧ R.length - t ≤ climbs04 R := by
        match j with
        | 0 => simp at hd; exact ⟨A, HA, hd.symm, rfl, hcA, by omega⟩
        | 1 => simp at hd; exact ⟨B, HB, hd.symm, hc.2.2.symm, hcB, by omega⟩
        | j + 2 => simp at hd
      refine ⟨_, Asg.name (.inl rfl) rfl, ?_⟩
      have zR := hR.size
      have hbl := below04 hR ht1 htR hcR
      rw [hsf] at hbl
      refine Ex.assign (d := .bool (decide (t < R.length) && !((dots (sfx A t)).head? == some 46))) (Ev.toB (Ev.andB (Ev.cmp (Ev.to (Ev.blt rfl rfl rfl rfl (by decide) (.cons (Ev.name rfl rfl) .nil rfl) rfl rfl (BltTo.len_list zR)) (d' := natD R.length) (by rw [List.length_map])) (Ev.name rfl rfl) CmpOK.gtN rfl) fun _ => Ev.bool_one (Ev.cmp (Ev.to (Ev.slice_str (Ev.name rfl rfl) EvP.none (EvP.some Ev.int) (fits_of htl (by omega))) (congrArg PyData.str (slice_to _ 1))) Ev.str CmpOK.ne_str rfl)) (by rw [lit_dot, mkS_inj, take_head])) (.inl rfl) rfl rfl ?_
      have uz : (upL (dots R)).length ≤ 2 ^ 20 := by rw [up_len]; have := hR.dlen; omega
      refine Ex.ite (b := false) (Tst.to (Tst.cmp (Ev.call rfl rfl rfl rfl (.cons (Ev.to (Ev.meth0 (Ev.meth1 Ev.str (Ev.name rfl rfl) (Meth1OK.join_dot hR.join) rfl rfl rfl) (Meth0OK.upper (by rw [up_mk hR.pcs]; exact fits_of uz (by omega))) rfl rfl) (d' := strD (upL (dots R))) (by rw [up_mk hR.pcs])) (.cons (Ev.to (Ev.bin Ev.str (Ev.name rfl rfl) (BinOK.add_str (by rw [mkS_len (dots (sfx A t)), sizeLine_eq]; show 1 + _ ≤ _; omega))) (d' := strD (46 :: dots (sfx A t))) (by rw [lit_dot, mkS_append]; rfl)) .nil rfl) rfl) rfl (hr.mono (by omega)) (dm04 _ _ uz (by simp; omega) (pc_upL hR.pcs) (pc_cons htp))) (Ev.name rfl rfl) CmpOK.isNot_bool rfl) (by rw [hbl]; simp)) (fun h => by cases h) (fun _ => ?_)
      exact Ex.sub D2 [] ⟨rfl, rfl, rfl, rfl, rfl, rfl, rfl, rfl, trivial⟩ trivial (Ex.nil ⟨rfl, rfl⟩)
    · rintro _ _ ⟨rfl, rfl⟩
      exact Ex.sub D [] ⟨rfl, rfl, rfl, rfl, rfl, rfl, rfl, trivial⟩ trivial (Ex.nil ⟨rfl, rfl⟩)
  · rintro _ _ ⟨rfl, rfl⟩
    exact Ex.ret Ev.bool rfl
end Mine

end PartO04
section PartW04c
open PySem PySem.W PyProof.Rows
theorem PySem.Challenge.cw_dm0154_04_holds : PySem.Challenge.rw_dm0154_04.Holds :=
  Mine.hd04 (by
  intro w s₀ s₁ mg mb G Y fa o pm cd doc dV kV ho hd hcd hD hmg hg args vals as hpre hlay hrd hwl hlo
  have KX := kIn_of Y
  refine Ground.open G ?_
  intro T B D TE TW
  wrow_args hpre hlay hrd hwl hlo
  refine enter_call ?_
  refine codeAny_mono ?_ (fun _ _ g => GoodW.toG g)
  have hfa := (mg_of (n := Str.ofString "law") KX T.g rfl).symm.trans hmg
  cases hfa
  rename_i ns _ _ _ _ _ _ _ _ _ _ _ _ _ r0 _ _ hc _
  refine Mine.law04 ns (by omega) callerA s₁ _ [] ⟨rfl, by decide, by decide⟩ (Mine.gk_of KX T) Mine.Live.nil (Mine.RdAll.cons ⟨_, r0⟩ Mine.RdAll.nil) _ fun v h' tk k r => ?_
  rw [r.bool_inv]
  exact Mine.law_good k hg)

end PartW04c
