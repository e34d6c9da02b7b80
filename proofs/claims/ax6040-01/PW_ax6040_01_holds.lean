import PyProof.Rows.All
import OpenK.ZGo
import PySem.Challenge.RW_ax6040_01
set_option Elab.async false

-- part Hz
section
open PySem PySem.W PyProof.Rows
set_option Elab.async false
set_option maxRecDepth 100000
set_option maxHeartbeats 0
namespace Mine
local macro_rules | `(tactic| k_head) => `(tactic| z_head)
open_top hz for PySem.Challenge.rw_ax6040_01
end Mine
end

-- part W0
section
open PySem PySem.W PyProof.Rows
set_option Elab.async false
set_option linter.unusedVariables false
namespace Mine

inductive AV where
  | none | bool (b : Bool) | int (i : Int) | str (x : Str)
  | tup (l : List AV) | lst (l : List AV) | link (u p t : Str) | rng (n : Nat) | mt (x : Str) (sp : List Int) | raw (v : Value)

mutual
def VR (V : List Addr) (h : Heap) : AV → Value → Prop
  | .none, v => v = .none
  | .bool b, v => v = .bool b
  | .int i, v => ∃ t, v = .int i t
  | .str x, v => ∃ t, v = .str x t
  | .tup l, v => ∃ a vs n, v = .ref a ∧ a ∉ V ∧ h.get? a = some { cls := .type "tuple", data := .seq vs.toArray n } ∧ VRs V h l vs
  | .lst l, v => ∃ a vs n, v = .ref a ∧ a ∉ V ∧ h.get? a = some { cls := .type "list", data := .seq vs.toArray n } ∧ VRs V h l vs
  | .link u p t, v => ∃ a vs n dx, v = .ref a ∧ a ∉ V ∧ h.get? a = some { cls := .ref 204, dict := some dx, data := .seq vs.toArray n } ∧ dx ∉ V ∧ h.get? dx = some { cls := .type "dict", data := .dict #[] } ∧ ∃ t1 t2 t3, vs = [.str u t1, .str p t2, .str t t3]
  | .rng n, v => ∃ a t1 t2 t3, v = .ref a ∧ a ∉ V ∧ h.get? a = some { cls := .type "range", data := .fields #[.int 0 t1, .int n t2, .int 1 t3] }
  | .mt x sp, v => ∃ a tpl tx f1 f2 f3 f4 vs n, v = .ref a ∧ a ∉ V ∧ h.get? a = some { cls := .type "re.Match", data := .fields #[.str x tx, f1, f2, f3, f4, .ref tpl] } ∧ tpl ∉ V ∧ h.get? tpl = some { cls := .type "tuple", data := .seq vs n } ∧ vs.map Builtin.Re.reRawOf = sp.toArray
  | .raw v', v => v = v'
def VRs (V : List Addr) (h : Heap) : List AV → List Value → Prop
  | [], vs => vs = []
  | a :: r, vs => ∃ v vr, vs = v :: vr ∧ VR V h a v ∧ VRs V h r vr
end

mutual
theorem VR.keeps {V V' : List Addr} {h h' : Heap} (k : ∀ b o, b ∉ V → h.get? b = some o → h'.get? b = some o ∧ b ∉ V') : ∀ (a : AV) (v : Value), VR V h a v → VR V' h' a v
  | .none, v, x => x
  | .bool b, v, x => x
  | .int i, v, x => x
  | .str i, v, x => x
  | .raw i, v, x => x
  | .mt x sp, v, ⟨a, tpl, tx, f1, f2, f3, f4, vs, n, e, ha, ho, hb, ho2, r⟩ => ⟨a, tpl, tx, f1, f2, f3, f4, vs, n, e, (k _ _ ha ho).2, (k _ _ ha ho).1, (k _ _ hb ho2).2, (k _ _ hb ho2).1, r⟩
  | .rng n, v, ⟨a, t1, t2, t3, e, ha, ho⟩ => ⟨a, t1, t2, t3, e, (k _ _ ha ho).2, (k _ _ ha ho).1⟩
  | .tup l, v, ⟨a, vs, n, e, ha, ho, hl⟩ => ⟨a, vs, n, e, (k _ _ ha ho).2, (k _ _ ha ho).1, VRs.keeps k l vs hl⟩
  | .lst l, v, ⟨a, vs, n, e, ha, ho, hl⟩ => ⟨a, vs, n, e, (k _ _ ha ho).2, (k _ _ ha ho).1, VRs.keeps k l vs hl⟩
  | .link u p t, v, ⟨a, vs, n, dx, e, ha, ho, hd, hdo, hl⟩ => ⟨a, vs, n, dx, e, (k _ _ ha ho).2, (k _ _ ha ho).1, (k _ _ hd hdo).2, (k _ _ hd hdo).1, hl⟩
theorem VRs.keeps {V V' : List Addr} {h h' : Heap} (k : ∀ b o, b ∉ V → h.get? b = some o → h'.get? b = some o ∧ b ∉ V') : ∀ (l : List AV) (vs : List Value), VRs V h l vs → VRs V' h' l vs
  | [], vs, x => x
  | a :: r, vs, ⟨v, vr, e, x, y⟩ => ⟨v, vr, e, VR.keeps k a v x, VRs.keeps k r vr y⟩
end

theorem VRs.length {V : List Addr} {h : Heap} : ∀ {l : List AV} {vs : List Value}, VRs V h l vs → vs.length = l.length
  | [], vs, x => by cases x; rfl
  | a :: r, vs, ⟨v, vr, e, x, y⟩ => by subst e; simp [VRs.length y]

theorem VRs.get {V : List Addr} {h : Heap} : ∀ {l : List AV} {vs : List Value} {i : Nat} {a : AV}, VRs V h l vs → l[i]? = some a → ∃ v, vs[i]? = some v ∧ VR V h a v
  | a :: r, vs, 0, b, ⟨v, vr, e, x, y⟩, hi => by subst e; simp at hi; subst hi; exact ⟨v, rfl, x⟩
  | a :: r, vs, i + 1, b, ⟨v, vr, e, x, y⟩, hi => by subst e; simpa using VRs.get y (by simpa using hi)

/-- what a step may do: all objects outside D stand, old generators too -/
def GX (a b : Array GenState) : Prop := (∀ i, i < a.size → b[i]? = a[i]?) ∧ (AllBare a → AllBare b)
theorem GX.refl (a : Array GenState) : GX a a := ⟨fun _ _ => rfl, id⟩
theorem GX.size {a b : Array GenState} (x : GX a b) : a.size ≤ b.size := by
  rcases Nat.lt_or_ge b.size a.size with h | h
  · have := x.1 b.size h
    simp [h] at this
  · exact h
theorem GX.trans {a b c : Array GenState} (x : GX a b) (y : GX b c) : GX a c :=
  ⟨fun i hi => (y.1 i (Nat.lt_of_lt_of_le hi x.size)).trans (x.1 i hi), fun h => y.2 (x.2 h)⟩

structure Stp (D : List Addr) (s s' : Shared) : Prop where
  keep : ∀ b o, b ∉ D → s.heap.get? b = some o → s'.heap.get? b = some o
  there : ∀ b o, s.heap.get? b = some o → ∃ o', s'.heap.get? b = some o'
  gens : GX s.gens s'.gens
  os : s'.os = s.os

theorem Stp.refl (D : List Addr) (s : Shared) : Stp D s s := ⟨fun _ _ _ e => e, fun _ o e => ⟨o, e⟩, .refl _, rfl⟩
theorem Stp.trans {D : List Addr} {a b c : Shared} (x : Stp D a b) (y : Stp D b c) : Stp D a c :=
  ⟨fun p o hp e => y.keep p o hp (x.keep p o hp e), fun b o e => (let ⟨o', e'⟩ := x.there b o e; y.there b o' e'), x.gens.trans y.gens, y.os.trans x.os⟩
theorem Stp.mono {D D' : List Addr} {a b : Shared} (x : Stp D a b) (h : ∀ d ∈ D, d ∈ D') : Stp D' a b :=
  ⟨fun p o hp e => x.keep p o (fun hd => hp (h p hd)) e, x.there, x.gens, x.os⟩
theorem Stp.toks {D : List Addr} (s : Shared) (t : Nat) : Stp D s { s with toks := t } := ⟨fun _ _ _ e => e, fun _ o e => ⟨o, e⟩, .refl _, rfl⟩
theorem Stp.push {D : List Addr} (s : Shared) (o : Obj) : Stp D s { s with heap := s.heap.push o } :=
  ⟨fun _ _ _ e => Heap.get?_push_of_some o e, fun _ o' e => ⟨o', Heap.get?_push_of_some o e⟩, .refl _, rfl⟩

structure Cx where
  prog : Program
  w : World
  K : Frag
  A : Around
  env : Env
  own : List Addr
  outer : List Addr
  D : List Addr
def Cx.O (c : Cx) : List Addr := c.own ++ c.outer
def Cx.V (c : Cx) : List Addr := c.O ++ c.D
def Cx.M (c : Cx) : Model := model c.prog c.w

def GB (O : List Addr) (G : Heap → Prop) (h : Heap) : Prop := ∀ h', (∀ b o, b ∉ O → h.get? b = some o → h'.get? b = some o) → G h'
theorem GB.here {O G h} (x : GB O G h) : G h := x h fun _ _ _ e => e
theorem GB.keeps {O G h h'} (x : GB O G h) (k : ∀ b o, b ∉ O → h.get? b = some o → h'.get? b = some o) : GB O G h' :=
  fun h'' k' => x h'' fun b o hb e => k' b o hb (k b o hb e)

/-- the ground that each place of a walk stands on -/
structure Gd (K : Frag) (V : List Addr) (s : Shared) : Prop where
  k : K.In s.heap
  nl : s.heap.NoLimit
  hi : ∀ v ∈ V, K.lookup v = none ∧ v ≠ cStatics
  lt : ∀ v ∈ V, ∃ o, s.heap.get? v = some o

theorem Gd.step {K V D s s'} (x : Gd K V s) (y : Stp D s s') (h : ∀ d ∈ D, d ∈ V) : Gd K V s' where
  k := fun a o e => y.keep a o (fun hd => by have := (x.hi a (h a hd)).1; rw [this] at e; cases e) (x.k a o e)
  nl := let ⟨mc, ⟨o, es, ep, ho, r⟩, q⟩ := x.nl; ⟨mc, ⟨o, es, ep, y.keep _ _ (fun hd => (x.hi _ (h _ hd)).2 rfl) ho, r⟩, q⟩
  hi := x.hi
  lt := fun v hv => let ⟨o, e⟩ := x.lt v hv; y.there v o e
theorem Gd.fresh {K V s} (x : Gd K V s) : s.heap.objs.size ∉ V := fun hv => let ⟨_, e⟩ := x.lt _ hv; Nat.lt_irrefl _ (Heap.lt_size e)

structure AOk (A : Around) (n : Nat) : Prop where
  handled : A.handled = none
  depth : A.depth + n < recursionLimit
  units : A.units + 8 * n + 40 < cLine
theorem AOk.mono {A n m} (x : AOk A n) (h : m ≤ n) : AOk A m := ⟨x.handled, by have := x.depth; omega, by have := x.units; omega⟩
theorem AOk.room {A n} (x : AOk A n) : A.depth < recursionLimit := by have := x.depth; omega
theorem AOk.u {A n} (x : AOk A n) : A.units < cLine := by have := x.units; omega
theorem AOk.in1 {A n} (x : AOk A (n + 1)) : AOk A.in1 n := ⟨x.handled, by have := x.depth; show A.depth + n < _; omega, by have := x.units; show A.units + 1 + 8 * n + 40 < _; omega⟩
theorem AOk.deeper {A n e} (x : AOk A (n + 1)) : AOk (A.deeper e) n := ⟨x.handled, by have := x.depth; show A.depth + 1 + n < _; omega, by have := x.units; show A.units + 3 + 8 * n + 40 < _; omega⟩

abbrev LM := List (Str × AV)

structure At (c : Cx) (m mc : LM) (G : Heap → Prop) (s : Shared) : Prop where
  loc : ∃ f, s.heap.Ns c.env.locals f ∧ ∀ x a, m.lookup x = some a → ∃ v, f x = some v ∧ VR c.V s.heap a v
  cel : ∀ x a, mc.lookup x = some a → ∃ b v, c.env.cells.lookup x = some b ∧ b ∉ c.D ∧ s.heap.IsCell b (some v) ∧ VR c.V s.heap a v
  locD : c.env.locals ∉ c.D
  g : GB c.O G s.heap
  gd : Gd c.K c.V s

abbrev NoE : Value → Shared → Prop := fun _ _ => False

theorem Cx.D_sub (c : Cx) : ∀ d ∈ c.D, d ∈ c.V := fun d h => List.mem_append_right _ h

theorem VR.step {c : Cx} {s s' : Shared} {a : AV} {v : Value} (x : VR c.V s.heap a v) (y : Stp c.D s s') : VR c.V s'.heap a v :=
  VR.keeps (fun b o hb e => ⟨y.keep b o (fun h => hb (c.D_sub b h)) e, hb⟩) a v x
theorem VRs.step {c : Cx} {s s' : Shared} {a : List AV} {v : List Value} (x : VRs c.V s.heap a v) (y : Stp c.D s s') : VRs c.V s'.heap a v :=
  VRs.keeps (fun b o hb e => ⟨y.keep b o (fun h => hb (c.D_sub b h)) e, hb⟩) a v x

/-- after a step that may turn D: all stands but the ghost's word, which comes anew -/
theorem At.step {c m mc G G' s s'} (x : At c m mc G s) (y : Stp c.D s s') (g : GB c.O G' s'.heap) : At c m mc G' s' where
  loc := let ⟨f, ⟨o, es, ep, ho, r⟩, h⟩ := x.loc
    ⟨f, ⟨o, es, ep, y.keep _ _ x.locD ho, r⟩, fun n a e => let ⟨v, e1, e2⟩ := h n a e; ⟨v, e1, e2.step y⟩⟩
  cel := fun n a e => let ⟨b, v, h1, h2, ⟨o, ho, hd⟩, h3⟩ := x.cel n a e; ⟨b, v, h1, h2, ⟨o, y.keep _ _ h2 ho, hd⟩, h3.step y⟩
  locD := x.locD
  g := g
  gd := x.gd.step y c.D_sub

/-- after a step that turns nothing -/
theorem At.pure {c m mc G s s'} (x : At c m mc G s) (y : Stp [] s s') : At c m mc G s' :=
  x.step (y.mono (by simp)) (x.g.keeps fun b o _ e => y.keep b o (by simp) e)

abbrev AK := AV → (Heap → Prop) → Prop

def TJ (c : Cx) (m mc : LM) (G : Heap → Prop) (t : Sem Value) (K : AK) : Prop :=
  ∀ s, At c m mc G s → wpAny c.M c.A t (fun v s' => ∃ a G', VR c.V s'.heap a v ∧ At c m mc G' s' ∧ Stp c.D s s' ∧ K a G') NoE s
def BJ (c : Cx) (m mc : LM) (G : Heap → Prop) (t : Sem Bool) (K : Bool → (Heap → Prop) → Prop) : Prop :=
  ∀ s, At c m mc G s → wpAny c.M c.A t (fun b s' => ∃ G', At c m mc G' s' ∧ Stp c.D s s' ∧ K b G') NoE s
def LJ (c : Cx) (m mc : LM) (G : Heap → Prop) (t : Sem (List Value)) (K : List AV → (Heap → Prop) → Prop) : Prop :=
  ∀ s, At c m mc G s → wpAny c.M c.A t (fun vs s' => ∃ as G', VRs c.V s'.heap as vs ∧ At c m mc G' s' ∧ Stp c.D s s' ∧ K as G') NoE s

def OJ (c : Cx) (m mc : LM) (G : Heap → Prop) (as : List AV) (t : List Value → Sem Value) (K : AK) : Prop :=
  ∀ vs s, At c m mc G s → VRs c.V s.heap as vs → wpAny c.M c.A (t vs) (fun v s' => ∃ a G', VR c.V s'.heap a v ∧ At c m mc G' s' ∧ Stp c.D s s' ∧ K a G') NoE s

structure EV (c : Cx) (m mc : LM) (G : Heap → Prop) (e : Expr) (K : AK) : Prop where
  run : TJ c m mc G (eval e c.env) K
structure BT (c : Cx) (m mc : LM) (G : Heap → Prop) (e : Expr) (K : Bool → (Heap → Prop) → Prop) : Prop where
  run : BJ c m mc G (isTrue e c.env (eval e c.env)) K
structure EA (c : Cx) (m mc : LM) (G : Heap → Prop) (pos : Pos) (es : List Expr) (K : List AV → (Heap → Prop) → Prop) : Prop where
  run : LJ c m mc G (spliced (backTo pos (starEach es c.env))) K
def two (t : Value → Value → Sem Value) (vs : List Value) : Sem Value := match vs with | [v, u] => t v u | _ => unsupported ""
structure OB (c : Cx) (m mc : LM) (G : Heap → Prop) (op : Operator) (a b : AV) (K : AK) : Prop where
  run : OJ c m mc G [a, b] (two (binaryOp op)) K
structure OC (c : Cx) (m mc : LM) (G : Heap → Prop) (op : CmpOp) (a b : AV) (K : AK) : Prop where
  run : OJ c m mc G [a, b] (two (compareOp op)) K
structure OS (c : Cx) (m mc : LM) (G : Heap → Prop) (value slice : Expr) (a b : AV) (K : AK) : Prop where
  run : OJ c m mc G [a, b] (two (subscriptTail value slice)) K
structure OF (c : Cx) (m mc : LM) (G : Heap → Prop) (f : Value) (as : List AV) (K : AK) : Prop where
  run : OJ c m mc G as (fun vs => call f vs []) K

theorem wpAny_imp {α : Type} {M : Model} {A : Around} {t : Sem α} {Q Q' : α → Shared → Prop} {s : Shared} (h : wpAny M A t Q NoE s) (hQ : ∀ a s', Q a s' → Q' a s') : wpAny M A t Q' NoE s :=
  wpAny_mono h hQ fun _ _ x => x

section
variable {c : Cx} {m mc : LM} {G : Heap → Prop} {K : AK}

theorem EV.mono {e : Expr} {K' : AK} (h : EV c m mc G e K) (hk : ∀ a G', K a G' → K' a G') : EV c m mc G e K' :=
  ⟨fun s x => wpAny_imp (h.run s x) fun _ _ ⟨a, G', h1, h2, h3, h4⟩ => ⟨a, G', h1, h2, h3, hk a G' h4⟩⟩

theorem EV.local {x : Str} {p : Pos} {a : AV} (hk : c.env.scope.kind = .function) (hl : c.env.kindOf x = some .local) (hm : m.lookup x = some a) (k : K a G)
    (hd : (x == ("__debug__" : Str)) = false) : EV c m mc G (.Name x p) K := ⟨fun s h => by
  obtain ⟨f, hn, hf⟩ := h.loc
  obtain ⟨v, e, r⟩ := hf x a hm
  exact wpAny_Name (wpAny_loadName_local hk hl hn e ⟨a, G, r, h, .refl _ _, k⟩) hd⟩

theorem EV.cell {x : Str} {p : Pos} {a : AV} (hk : c.env.scope.kind = .function) (hl : c.env.kindOf x = some .cell) (hm : mc.lookup x = some a) (k : K a G)
    (hd : (x == ("__debug__" : Str)) = false) : EV c m mc G (.Name x p) K := ⟨fun s h => by
  obtain ⟨b, v, hb, _, hv, r⟩ := h.cel x a hm
  exact wpAny_Name (wpAny_loadName_cell hk hl hb hv ⟨a, G, r, h, .refl _ _, k⟩) hd⟩

theorem EV.free {x : Str} {p : Pos} {a : AV} (hk : c.env.scope.kind = .function) (hl : c.env.kindOf x = some .free) (hm : mc.lookup x = some a) (k : K a G)
    (hd : (x == ("__debug__" : Str)) = false) (hn : (x == ("__classdict__" : Str)) = false) : EV c m mc G (.Name x p) K := ⟨fun s h => by
  obtain ⟨b, v, hb, _, hv, r⟩ := h.cel x a hm
  exact wpAny_Name (wpAny_loadName_free hk hl hb hv ⟨a, G, r, h, .refl _ _, k⟩ hn) hd⟩

theorem EV.global {x : Str} {p : Pos} {v : Value} {a : AV} (e : peek c.K ⟨c.prog, c.w.params⟩ (loadName c.env x) = some v) (hv : ∀ s, Gd c.K c.V s → VR c.V s.heap a v) (k : K a G)
    (hd : (x == ("__debug__" : Str)) = false) : EV c m mc G (.Name x p) K := ⟨fun s h =>
  wpAny_Name ((Looks.of_peek (M := c.M) h.gd.k e).here ⟨a, G, hv s h.gd, h, .refl _ _, k⟩) hd⟩
/-- a top name whose value we keep as it is -/
theorem EV.top {x : Str} {p : Pos} (v : Value) (e : peek c.K ⟨c.prog, c.w.params⟩ (loadName c.env x) = some v) (hd : (x == ("__debug__" : Str)) = false) (k : K (.raw v) G) : EV c m mc G (.Name x p) K :=
  EV.global (a := .raw v) e (fun _ _ => rfl) k hd

theorem EV.int {i : Int} {k : Nat} {p : Pos} (hk : K (.int i) G) : EV c m mc G (.Constant (.int i) k p) K := ⟨fun s h =>
  wpAny_Constant_int ⟨.int i, G, ⟨_, rfl⟩, h.pure (.toks ..), .toks .., hk⟩⟩
theorem EV.str {i : Str} {k : Nat} {p : Pos} (hk : K (.str i) G) : EV c m mc G (.Constant (.str i) k p) K := ⟨fun s h =>
  Calls.Constant_str ⟨.str i, G, ⟨_, rfl⟩, h.pure (.toks ..), .toks .., hk⟩⟩
theorem EV.none {k : Nat} {p : Pos} (hk : K .none G) : EV c m mc G (.Constant .none k p) K := ⟨fun s h =>
  fun _ _ _ => ⟨.none, G, rfl, h, .refl _ _, hk⟩⟩
theorem EV.bool {b : Bool} {k : Nat} {p : Pos} (hk : K (.bool b) G) : EV c m mc G (.Constant (.bool b) k p) K := ⟨fun s h =>
  fun _ _ _ => ⟨.bool b, G, rfl, h, .refl _ _, hk⟩⟩

theorem EV.binop {l r : Expr} {op : Operator} {pos : Pos}
    (h : EV c m mc G l fun a G1 => EV c m mc G1 r fun b G2 => OB c m mc G2 op a b K) : EV c m mc G (.BinOp l op r pos) K := ⟨fun s x =>
  wpAny_BinOp (wpAny_imp (h.run s x) fun v s1 ⟨a, G1, ra, x1, y1, h1⟩ => wpAny_imp (h1.run s1 x1) fun u s2 ⟨b, G2, rb, x2, y2, h2⟩ =>
    wpAny_imp (h2.run [v, u] s2 x2 ⟨v, _, rfl, ra.step y2, u, _, rfl, rb, rfl⟩) fun z s3 ⟨d, G3, rd, x3, y3, h3⟩ => ⟨d, G3, rd, x3, y1.trans (y2.trans y3), h3⟩)⟩
end
end Mine
end

-- part W1
section
open PySem PySem.W PyProof.Rows
set_option Elab.async false
set_option linter.unusedVariables false
namespace Mine

inductive FA where
  | next | brk | cont | ret (a : AV)
def FRel (V : List Addr) (h : Heap) : FA → Flow → Prop
  | .next, f => f = .next
  | .brk, f => f = .brk
  | .cont, f => f = .cont
  | .ret a, f => ∃ v, f = .ret v ∧ VR V h a v

theorem FRel.keeps {V V' : List Addr} {h h' : Heap} (k : ∀ b o, b ∉ V → h.get? b = some o → h'.get? b = some o ∧ b ∉ V') : ∀ (a : FA) (v : Flow), FRel V h a v → FRel V' h' a v
  | .next, _, x => x
  | .brk, _, x => x
  | .cont, _, x => x
  | .ret a, _, ⟨v, e, x⟩ => ⟨v, e, VR.keeps k a v x⟩

abbrev FK := FA → LM → LM → (Heap → Prop) → Prop

def FJ (c : Cx) (m mc : LM) (G : Heap → Prop) (t : Sem Flow) (KF : FK) : Prop :=
  ∀ s, At c m mc G s → wpAny c.M c.A t (fun f s' => ∃ fa m' mc' G', FRel c.V s'.heap fa f ∧ At c m' mc' G' s' ∧ Stp (c.own ++ c.D) s s' ∧ KF fa m' mc' G') NoE s
structure XS (c : Cx) (m mc : LM) (G : Heap → Prop) (ss : List Stmt) (KF : FK) : Prop where
  run : FJ c m mc G (execs ss c.env) KF
structure X1 (c : Cx) (m mc : LM) (G : Heap → Prop) (st : Stmt) (KF : FK) : Prop where
  run : FJ c m mc G (exec st c.env) KF

/-- the contract of a call -/
def CT (prog : Program) (w : World) (K : Frag) (n : Nat) (D : List Addr) (f : Value) (as : List AV) (G : Heap → Prop) (KK : AK) : Prop :=
  ∀ A, AOk A n → ∀ O vs s, Gd K (O ++ D) s → (∀ d ∈ D, d ∉ O) → GB O G s.heap → VRs (O ++ D) s.heap as vs →
    codeAny (model prog w) A (.call f ⟨vs, []⟩) (fun r s' => ∃ v a G', r = .ok (.ret v) ∧ VR (O ++ D) s'.heap a v ∧ GB O G' s'.heap ∧ Stp D s s' ∧ KK a G') s

theorem CT.mono {prog w K n n' D f as G KK} {KK' : AK} (h : CT prog w K n D f as G KK) (hn : n ≤ n') (hk : ∀ a G', KK a G' → KK' a G') : CT prog w K n' D f as G KK' :=
  fun A hA O vs s g d gb r => fun Γ p e hΓ => by
    have := h A (hA.mono hn) O vs s g d gb r
    exact (codeAny_mono this fun r' s' ⟨v, a, G', h1, h2, h3, h4, h5⟩ => ⟨v, a, G', h1, h2, h3, h4, hk a G' h5⟩) Γ p e hΓ

structure CxOk (c : Cx) (n : Nat) : Prop where
  a : AOk c.A n
  d : ∀ d ∈ c.D, d ∉ c.O

section
variable {c : Cx} {m mc : LM} {G : Heap → Prop} {K : AK}

theorem OF.ct {f : Value} {as : List AV} {n : Nat} (ok : CxOk c n) (h : CT c.prog c.w c.K n c.D f as G K) : OF c m mc G f as K := ⟨fun vs s x r => by
  refine wpAny_call (codeAny_mono (h c.A ok.a c.O vs s x.gd ok.d x.g r) fun r' s' ⟨v, a, G', h1, h2, h3, h4, h5⟩ => ?_)
  subst h1
  exact ⟨a, G', h2, x.step h4 h3, h4, h5⟩⟩

theorem EA.nil {pos : Pos} {K : List AV → (Heap → Prop) → Prop} (k : K [] G) : EA c m mc G pos [] K := ⟨fun s x => Calls.spliced_nil ⟨[], G, rfl, x, .refl _ _, k⟩⟩
theorem EA.cons {pos : Pos} {e : Expr} {es : List Expr} {K : List AV → (Heap → Prop) → Prop} (h : EV c m mc G e fun a G1 => EA c m mc G1 pos es fun as G2 => K (a :: as) G2)
    (he : starEach (e :: es) c.env = (false, eval e c.env) :: starEach es c.env := by rfl) : EA c m mc G pos (e :: es) K := ⟨fun s x => by
  rw [he]
  exact Calls.spliced_cons (wpAny_imp (h.run s x) fun v s1 ⟨a, G1, ra, x1, y1, h1⟩ => wpAny_imp (h1.run s1 x1) fun vs s2 ⟨as, G2, rs, x2, y2, h2⟩ =>
    ⟨a :: as, G2, ⟨v, vs, rfl, ra.step y2, rs⟩, x2, y1.trans y2, h2⟩)⟩

/-- a call of a name: the value f is one of the top's functions -/
theorem EV.callN {id : Str} {p pos : Pos} {e1 : Expr} {args : List Expr} (f : Addr) (hf : peek c.K ⟨c.prog, c.w.params⟩ (loadName c.env id) = some (.ref f)) (hk : fnIn c.K f = true)
    (hd : (id == ("__debug__" : Str)) = false)
    (h : EA c m mc G pos (e1 :: args) fun as G1 => OF c m mc G1 (.ref f) as K)
    (he : starEach (e1 :: args) c.env = (false, eval e1 c.env) :: starEach args c.env := by rfl) : EV c m mc G (.Call (.Name id p) (e1 :: args) [] pos) K := ⟨fun s x => by
  rw [arm_eval_Call_Name']
  refine wpAny_bind (wpAny_Name ((Looks.of_peek (M := c.M) x.gd.k hf).here ?_) hd)
  unfold fnIn at hk
  split at hk
  · rename_i oc od fd osl ho
    refine Calls.callWith_function (o := ⟨oc, od, .func fd, osl⟩) (fd := fd) ?_
    have h' := h.run s x
    rw [he] at h' ⊢
    refine Calls.evalArgs_plain (wpAny_imp h' ?_)
    rintro vs s2 ⟨as, G2, rs, x2, y2, h2⟩
    refine ⟨⟨x2.gd.k _ _ ho, rfl⟩, wpAny_imp (h2.run vs s2 x2 rs) ?_⟩
    rintro u s3 ⟨b, G3, rb, x3, y3, h3⟩
    exact ⟨b, G3, rb, x3, y2.trans y3, h3⟩
  · cases hk⟩

/-- a call of a built-in function -/
theorem EV.callB {id : Str} {p pos : Pos} {e1 : Expr} {args : List Expr} (bi : String) (hf : peek c.K ⟨c.prog, c.w.params⟩ (loadName c.env id) = some (.builtin bi))
    (hd : (id == ("__debug__" : Str)) = false) (hplain : (backTo pos (starEach (e1 :: args) c.env)).any (·.1) = false)
    (h : EA c m mc G pos (e1 :: args) fun as G1 => OF c m mc G1 (.builtin bi) as K)
    (he : starEach (e1 :: args) c.env = (false, eval e1 c.env) :: starEach args c.env := by rfl) : EV c m mc G (.Call (.Name id p) (e1 :: args) [] pos) K := ⟨fun s x => by
  rw [arm_eval_Call_Name']
  refine wpAny_bind (wpAny_Name ((Looks.of_peek (M := c.M) x.gd.k hf).here ?_) hd)
  refine Calls.callWith_builtin hplain ?_
  have h' := h.run s x
  rw [he] at h' ⊢
  refine Calls.evalArgs_plain (wpAny_imp h' ?_)
  rintro vs s2 ⟨as, G2, rs, x2, y2, h2⟩
  refine wpAny_imp (h2.run vs s2 x2 rs) ?_
  rintro u s3 ⟨b, G3, rb, x3, y3, h3⟩
  exact ⟨b, G3, rb, x3, y2.trans y3, h3⟩⟩

theorem EV.tuple {elts : List Expr} {k : Nat} {pos : Pos} (h : EA c m mc G pos elts fun as G1 => as.length ≤ sizeLine ∧ K (.tup as) G1) : EV c m mc G (.Tuple elts k pos) K := ⟨fun s x =>
  wpAny_Tuple (wpAny_imp (h.run s x) fun vs s1 ⟨as, G1, rs, x1, y1, hz, h1⟩ => by
    have hn : s1.heap.objs.size ∉ c.V := x1.gd.fresh
    refine ⟨by rw [rs.length]; exact hz, .tup as, G1, ⟨_, vs, 0, rfl, hn, Heap.get?_push_size _ rfl, VRs.step rs (.push ..)⟩, x1.pure (.push ..), y1.trans (.push ..), h1⟩)⟩

theorem EV.sub {value slice : Expr} {pos : Pos}
    (h : EV c m mc G value fun a G1 => EV c m mc G1 slice fun b G2 => OS c m mc G2 value slice a b K) : EV c m mc G (.Subscript value slice pos) K := ⟨fun s x =>
  Subscript_ (wpAny_imp (h.run s x) fun v s1 ⟨a, G1, ra, x1, y1, h1⟩ => wpAny_imp (h1.run s1 x1) fun u s2 ⟨b, G2, rb, x2, y2, h2⟩ =>
    wpAny_imp (h2.run [v, u] s2 x2 ⟨v, _, rfl, ra.step y2, u, _, rfl, rb, rfl⟩) fun z s3 ⟨d, G3, rd, x3, y3, h3⟩ => ⟨d, G3, rd, x3, y1.trans (y2.trans y3), h3⟩)⟩

theorem OS.tup {value slice : Expr} {l : List AV} {i : Int} {j : Nat} {a : AV} (hlo : -(2 ^ 63) ≤ i) (hhi : i < 2 ^ 63) (hj : seqIndex? i l.length = some j) (ha : l[j]? = some a) (k : K a G)
    (hs : ∀ t u, subscripted slice false (.ref t) (.int i u) = operate [.ref t, .int i u] (getItem (.ref t) (.int i u)) := by intro t u; with_unfolding_all rfl) :
    OS c m mc G value slice (.tup l) (.int i) K := ⟨fun vs s x r => by
  obtain ⟨v, vr, rfl, r1, u, ur, rfl, r2, rfl⟩ := r
  obtain ⟨b, vs, n, rfl, hb, ho, hl⟩ := r1
  obtain ⟨t, rfl⟩ := r2
  obtain ⟨v, hv, rv⟩ := hl.get ha
  exact item_tupleT ⟨_, ho, rfl, n, rfl⟩ hlo hhi (by rw [hl.length]; exact hj) hv ⟨a, G, rv, x, .refl _ _, k⟩ (hs _ _)⟩

theorem OB.add_str {x y : Str} (hz : (x ++ y).length ≤ sizeLine) (k : K (.str (x ++ y)) G) : OB c m mc G .Add (.str x) (.str y) K := ⟨fun vs s h r => by
  obtain ⟨v, vr, rfl, ⟨t, rfl⟩, u, ur, rfl, ⟨t', rfl⟩, rfl⟩ := r
  refine PySem.P.add_str ?_
  split
  · rename_i e
    have : x ++ y = y := by
      obtain ⟨⟨x⟩⟩ := x; obtain ⟨⟨y⟩⟩ := y
      have : x = [] := by cases x <;> simp_all [Str.length]
      subst this
      show Str.mk _ = _
      simp
    rw [this] at k
    exact ⟨.str y, G, ⟨_, rfl⟩, h, .refl _ _, k⟩
  · split
    · rename_i e
      have : x ++ y = x := by
        obtain ⟨⟨x⟩⟩ := x; obtain ⟨⟨y⟩⟩ := y
        have : y = [] := by cases y <;> simp_all [Str.length]
        subst this
        show Str.mk _ = _
        simp
      rw [this] at k
      exact ⟨.str x, G, ⟨_, rfl⟩, h, .refl _ _, k⟩
    · exact ⟨hz, .str (x ++ y), G, ⟨_, rfl⟩, h.pure (.toks ..), .toks .., k⟩⟩
end

section
variable {c : Cx} {m mc : LM} {G : Heap → Prop} {KF : FK}

theorem Stp.own {c : Cx} {s s'} (y : Stp c.D s s') : Stp (c.own ++ c.D) s s' := y.mono fun d h => List.mem_append_right _ h

theorem XS.nil (k : KF .next m mc G) : XS c m mc G [] KF := ⟨fun s x => wpAny_execs_nil ⟨.next, m, mc, G, rfl, x, .refl _ _, k⟩⟩

def andThen (c : Cx) (rest : List Stmt) (KF : FK) : FK := fun fa m' mc' G' => match fa with
  | .next => XS c m' mc' G' rest KF
  | fa => KF fa m' mc' G'

theorem Cx.own_sub (c : Cx) : ∀ d ∈ c.own ++ c.D, d ∈ c.V := fun d h => by
  rcases List.mem_append.mp h with h | h
  · exact List.mem_append_left _ (List.mem_append_left _ h)
  · exact c.D_sub d h

theorem VR.stepO {c : Cx} {s s' : Shared} {a : AV} {v : Value} (x : VR c.V s.heap a v) (y : Stp (c.own ++ c.D) s s') : VR c.V s'.heap a v :=
  VR.keeps (fun b o hb e => ⟨y.keep b o (fun h => hb (c.own_sub b h)) e, hb⟩) a v x

theorem XS.cons {st : Stmt} {rest : List Stmt} (h : X1 c m mc G st (andThen c rest KF)) : XS c m mc G (st :: rest) KF := ⟨fun s x => by
  refine wpAny_execs_cons (wpAny_imp (h.run s x) ?_)
  rintro f s1 ⟨fa, m', mc', G', rf, x1, y1, h1⟩
  cases fa with
  | next =>
    cases rf
    refine wpAny_imp (h1.run s1 x1) ?_
    rintro f2 s2 ⟨fb, m2, mc2, G2, rf2, x2, y2, h2⟩
    exact ⟨fb, m2, mc2, G2, rf2, x2, y1.trans y2, h2⟩
  | brk => cases rf; exact ⟨.brk, m', mc', G', rfl, x1, y1, h1⟩
  | cont => cases rf; exact ⟨.cont, m', mc', G', rfl, x1, y1, h1⟩
  | ret a => obtain ⟨v, rfl, rv⟩ := rf; exact ⟨.ret a, m', mc', G', ⟨v, rfl, rv⟩, x1, y1, h1⟩⟩

theorem X1.ret {e : Expr} {pos : Pos} (h : EV c m mc G e fun a G' => KF (.ret a) m mc G') : X1 c m mc G (.Return (some e) pos) KF := ⟨fun s x =>
  wpAny_Return_some (wpAny_imp (h.run s x) fun v s1 ⟨a, G1, ra, x1, y1, h1⟩ => ⟨.ret a, m, mc, G1, ⟨v, rfl, ra⟩, x1, y1.own, h1⟩)⟩

theorem X1.iff {test : Expr} {body orelse : List Stmt} {pos : Pos} (h : BT c m mc G test fun b G' => (b = true → XS c m mc G' body KF) ∧ (b = false → XS c m mc G' orelse KF)) :
    X1 c m mc G (.If test body orelse pos) KF := ⟨fun s x => by
  refine wpAny_If (wpAny_imp (h.run s x) ?_)
  rintro b s1 ⟨G1, x1, y1, h1, h2⟩
  cases b with
  | true =>
    refine wpAny_imp ((h1 rfl).run s1 x1) ?_
    rintro f2 s2 ⟨fb, m2, mc2, G2, rf2, x2, y2, h2⟩
    exact ⟨fb, m2, mc2, G2, rf2, x2, y1.own.trans y2, h2⟩
  | false =>
    refine wpAny_imp ((h2 rfl).run s1 x1) ?_
    rintro f2 s2 ⟨fb, m2, mc2, G2, rf2, x2, y2, h2⟩
    exact ⟨fb, m2, mc2, G2, rf2, x2, y1.own.trans y2, h2⟩⟩

/-- storing a local -/
theorem At.store {s : Shared} {x : Str} {a : AV} {v : Value} {Q : Unit → Shared → Prop} (h : At c m mc G s) (r : VR c.V s.heap a v) (hl : c.env.kindOf x = some .local) (ho : c.env.locals ∈ c.own)
    (hcl : ∀ p ∈ c.env.cells, p.2 ≠ c.env.locals)
    (hp : (c.env.scope.kind == .class || (c.env.scope.kind == .module && c.env.locals != c.env.globals)) = false)
    (k : ∀ s', At c ((x, a) :: m) mc G s' → Stp (c.own ++ c.D) s s' → Q () s') : wpAny c.M c.A (storeName c.env x v) Q NoE s := by
  obtain ⟨f, hn, hf⟩ := h.loc
  refine wpAny_storeName_local hl hn (fun h' hn' hs' => ?_) hp
  have keep : ∀ b o, b ≠ c.env.locals → s.heap.get? b = some o → h'.get? b = some o := hs'.extBut
  have y : Stp (c.own ++ c.D) s { s with heap := h', toks := s.toks + 1 } := ⟨fun b o hb e => keep b o (fun e' => hb (e' ▸ List.mem_append_left _ ho)) e, fun b o e => (by
    by_cases q : b = c.env.locals
    · subst q; obtain ⟨o', es, ep, e', _⟩ := hn'; exact ⟨o', e'⟩
    · exact ⟨o, keep b o q e⟩), .refl _, rfl⟩
  refine k _ ⟨⟨_, hn', fun z b e => ?_⟩, fun n b e => ?_, h.locD, h.g.keeps fun b o hb e => keep b o (fun e' => hb (e' ▸ List.mem_append_left _ ho)) e, h.gd.step y c.own_sub⟩ y
  · rw [List.lookup_cons] at e
    dsimp only
    cases q : z == x with
    | true => rw [q] at e; cases e; rw [if_pos (beq_iff_eq.mp q)]; exact ⟨v, rfl, r.stepO y⟩
    | false =>
      rw [q] at e
      rw [if_neg (fun h => by simp [h] at q)]
      obtain ⟨u, e1, e2⟩ := hf z b e
      exact ⟨u, e1, e2.stepO ‹_›⟩
  · obtain ⟨b', u, h1, h2, ⟨o, ho', hd⟩, h3⟩ := h.cel n b e
    exact ⟨b', u, h1, h2, ⟨o, keep _ _ (hcl _ (mem_of_lookup h1)) ho', hd⟩, h3.stepO y⟩

structure EnvOk (c : Cx) : Prop where
  own : c.env.locals ∈ c.own
  cells : ∀ p ∈ c.env.cells, p.2 ≠ c.env.locals
  kind : c.env.scope.kind = .function

theorem X1.assign {x : Str} {xp pos : Pos} {e : Expr} (E : EnvOk c) (hl : c.env.kindOf x = some .local) (hs : swapsWith e (some (.Name x xp)) pos.line c.env = pure false)
    (h : EV c m mc G e fun a G' => KF .next ((x, a) :: m) mc G') : X1 c m mc G (.Assign [.Name x xp] e pos) KF := ⟨fun s h0 => by
  refine wpAny_Assign_Name (wpAny_imp (h.run s h0) ?_) hs
  rintro v s1 ⟨a, G1, ra, x1, y1, h1⟩
  exact x1.store ra hl E.own E.cells (by rw [E.kind]; rfl) fun s2 x2 y2 => ⟨.next, _, _, _, rfl, x2, y1.own.trans y2, h1⟩⟩
end
end Mine
end

-- part W2
section
open PySem PySem.W PyProof.Rows
set_option Elab.async false
set_option linter.unusedVariables false
namespace Mine

theorem lookup_rel {V : List Addr} {h : Heap} : ∀ (ns : List Str) (as : List AV) (vs : List Value) (m1 : LM) (m2 : List (Str × Value)), VRs V h as vs →
    (∀ x a, m1.lookup x = some a → ∃ v, m2.lookup x = some v ∧ VR V h a v) →
    ∀ x a, ((ns.zip as).reverse ++ m1).lookup x = some a → ∃ v, ((ns.zip vs).reverse ++ m2).lookup x = some v ∧ VR V h a v
  | [], as, vs, m1, m2, r, k => by simpa using k
  | n :: ns, [], vs, m1, m2, r, k => by cases r; simpa using k
  | n :: ns, a :: as, vs, m1, m2, ⟨v, vr, e, x, y⟩, k => by
    subst e
    simp only [List.zip_cons_cons, List.reverse_cons, List.append_assoc, List.cons_append, List.nil_append]
    refine lookup_rel ns as vr _ _ y ?_
    intro z b hb
    rw [List.lookup_cons] at hb ⊢
    cases q : z == n with
    | true => rw [q] at hb; cases hb; exact ⟨v, rfl, x⟩
    | false => rw [q] at hb; exact k z b hb

theorem Stp.grow {D : List Addr} {s s' : Shared} (k : ∀ b o, s.heap.get? b = some o → s'.heap.get? b = some o) (g : s'.gens = s.gens) (o : s'.os = s.os) : Stp D s s' :=
  ⟨fun b o _ e => k b o e, fun b o e => ⟨o, k b o e⟩, by rw [g]; exact .refl _, o⟩

def cxOf (prog : Program) (w : World) (K : Frag) (A : Around) (env : Env) (O D : List Addr) : Cx := ⟨prog, w, K, A, env, [env.locals], O, D⟩

theorem CT.def {prog : Program} {w : World} {K : Frag} {n : Nat} {D : List Addr} {f : Addr} {as : List AV} {G : Heap → Prop} {KK : AK} {fd : FuncData} {o : Obj} {body : List Stmt} {names : List Str}
    (ho : K.lookup f = some o) (hd : o.data = .func fd) (hb : fd.body = .stmts body) (hcd : codeIn K fd.code fd.qualname = true)
    (hbind : ∀ (vs : List Value) (s : Shared) (V : List Addr), K.In s.heap → VRs V s.heap as vs → BindsTo s fd ⟨vs, []⟩ (names.zip vs))
    (hcell : ∀ x ∈ fd.scope.names, x.2 ≠ .cell) (hloc : ∀ x ∈ names, fd.scope.names.lookup x = some .local)
    (hco : fd.scope.isCoroutine = false) (hgen : fd.scope.isGenerator = false) (hk : fd.scope.kind = .function) (hclo : fd.closure = [])
    (h : ∀ A L O, AOk A n → (∀ d ∈ D, d ∉ L :: O) → XS (cxOf prog w K A (callEnv fd L f) O D) (names.zip as).reverse [] G body
      (fun fa _ _ G' => match fa with | .ret a => KK a G' | .next => KK .none G' | _ => False)) : CT prog w K (n + 1) D (.ref f) as G KK := by
  intro A hA O vs s gd hD gb hr
  refine codeAny_call_def (binds := names.zip vs) hA.room (gd.k _ _ ho) hd gd.nl (codeRec_of gd.k hcd) hb (hbind vs s _ gd.k hr) hcell (fun x hx => hloc x.1 (List.of_mem_zip hx).1) (fun h₀ hns hkeep => ?_) hco hgen hk
  have hlt : ∀ v ∈ O ++ D, v < s.heap.objs.size := fun v hv => let ⟨_, e⟩ := gd.lt v hv; Heap.lt_size e
  have hA' : AOk (A.deeper (callEnv fd s.heap.objs.size f)) n := hA.deeper
  have hsz : s.heap.objs.size < h₀.objs.size := hns.lt
  have hDO : ∀ d ∈ D, d ∉ s.heap.objs.size :: O := fun d hd' hm => by
    rcases List.mem_cons.mp hm with e | hm
    · exact Nat.ne_of_lt (hlt d (List.mem_append_right _ hd')) e
    · exact hD d hd' hm
  have key : ∀ b o, s.heap.get? b = some o → b ≠ s.heap.objs.size := fun b o e => Nat.ne_of_lt (Heap.lt_size e)
  have st0 : Stp D s { s with heap := h₀, toks := s.toks + (names.zip vs).length } := Stp.grow hkeep rfl rfl
  have gb0 : GB (s.heap.objs.size :: O) G h₀ := fun h' k => gb h' fun b o' hb e => k b o' (fun hm => by
    rcases List.mem_cons.mp hm with e' | hm
    · exact key b o' e e'
    · exact hb hm) (hkeep b o' e)
  have hrV : ∀ {a v}, VR (O ++ D) s.heap a v → VR (cxOf prog w K (A.deeper (callEnv fd s.heap.objs.size f)) (callEnv fd s.heap.objs.size f) O D).V h₀ a v := fun {a v} r =>
    VR.keeps (fun b o' hb e => ⟨hkeep b o' e, fun hm => by
      rcases List.mem_append.mp hm with hm | hm
      · rcases List.mem_cons.mp hm with e' | hm
        · exact key b o' e e'
        · exact hb (List.mem_append_left _ hm)
      · exact hb (List.mem_append_right _ hm)⟩) a v r
  have at0 : At (cxOf prog w K (A.deeper (callEnv fd s.heap.objs.size f)) (callEnv fd s.heap.objs.size f) O D) (names.zip as).reverse [] G { s with heap := h₀, toks := s.toks + (names.zip vs).length } := by
    refine ⟨⟨_, hns, fun x a e => ?_⟩, fun x a e => by simp at e, fun hm => hDO _ hm (List.mem_cons_self ..), gb0, ?_⟩
    · have := lookup_rel (V := O ++ D) (h := s.heap) names as vs [] [] hr (fun _ _ e => by simp at e) x a (by simpa using e)
      obtain ⟨v, h1, h2⟩ := this
      exact ⟨v, by simpa using h1, hrV h2⟩
    · have hin : ∀ v ∈ (cxOf prog w K (A.deeper (callEnv fd s.heap.objs.size f)) (callEnv fd s.heap.objs.size f) O D).V, v = s.heap.objs.size ∨ v ∈ O ++ D := fun v hv => by
        rcases List.mem_append.mp hv with hm | hm
        · rcases List.mem_cons.mp hm with e | hm
          · exact .inl e
          · exact .inr (List.mem_append_left _ hm)
        · exact .inr (List.mem_append_right _ hm)
      have nlt : cStatics < s.heap.objs.size := let ⟨_, hn, _⟩ := gd.nl; hn.lt
      refine ⟨fun a o' e => hkeep _ _ (gd.k a o' e), gd.nl.keeps hkeep, fun v hv => ?_, fun v hv => ?_⟩
      · rcases hin v hv with rfl | hv
        · refine ⟨?_, Nat.ne_of_gt nlt⟩
          cases q : K.lookup s.heap.objs.size with
          | none => exact q
          | some o' => exact absurd (Heap.lt_size (gd.k _ _ q)) (Nat.lt_irrefl _)
        · exact gd.hi v hv
      · rcases hin v hv with rfl | hv
        · obtain ⟨o', _, _, e', _⟩ := hns; exact ⟨o', e'⟩
        · obtain ⟨o', e'⟩ := gd.lt v hv; exact ⟨o', hkeep _ _ e'⟩
  have main := (h _ s.heap.objs.size O hA' hDO).run _ at0
  refine wpAny_mono main ?_ (fun _ _ x => x.elim)
  rintro fl s' ⟨fa, m', mc', G', rf, x', y', kk⟩
  have stp : Stp D s s' := by
    refine ⟨fun b o' hb e => y'.keep b o' (fun hm => ?_) (hkeep b o' e), fun b o' e => y'.there b o' (hkeep b o' e), y'.gens, y'.os⟩
    rcases List.mem_append.mp hm with hm | hm
    · exact key b o' e (List.mem_singleton.mp hm)
    · exact hb hm
  have gb' : GB O G' s'.heap := fun h' k => x'.g h' fun b o' hb e => k b o' (fun hm => hb (List.mem_cons_of_mem _ hm)) e
  have back : ∀ {a v}, VR (cxOf prog w K (A.deeper (callEnv fd s.heap.objs.size f)) (callEnv fd s.heap.objs.size f) O D).V s'.heap a v → VR (O ++ D) s'.heap a v := fun {a v} r =>
    VR.keeps (fun b o' hb e => ⟨e, fun hm => hb (by
      rcases List.mem_append.mp hm with hm | hm
      · exact List.mem_append_left _ (List.mem_cons_of_mem _ hm)
      · exact List.mem_append_right _ hm)⟩) a v r
  cases fa with
  | next => cases rf; exact ⟨_, .none, G', rfl, rfl, gb', stp, kk⟩
  | brk => exact kk.elim
  | cont => exact kk.elim
  | ret a => obtain ⟨v, rfl, rv⟩ := rf; exact ⟨v, a, G', rfl, back rv, gb', stp, kk⟩

theorem cxOf_ok {prog w K A fd L f O D n} (hA : AOk A n) (hD : ∀ d ∈ D, d ∉ L :: O) : CxOk (cxOf prog w K A (callEnv fd L f) O D) n := ⟨hA, hD⟩
theorem cxOf_env {prog w K A fd L f O D} (hk : fd.scope.kind = .function) (hc : fd.closure = []) : EnvOk (cxOf prog w K A (callEnv fd L f) O D) where
  own := List.mem_singleton.mpr rfl
  cells := fun p hp => by
    rw [show (cxOf prog w K A (callEnv fd L f) O D).env.cells = fd.closure from rfl, hc] at hp
    exact absurd hp (List.not_mem_nil)
  kind := hk
end Mine
end

-- part W3
section
open PySem PySem.W PyProof.Rows PySem.SeqAt
set_option Elab.async false
set_option linter.unusedVariables false
namespace Mine

/-- equality of plain values -/
def seq : AV → AV → Bool
  | .none, .none => true
  | .int i, .int j => i == j
  | .str x, .str y => x == y
  | _, _ => false
def AV.sc : AV → Bool
  | .none => true | .int _ => true | .str _ => true | _ => false

theorem eqAt_sc {A : Around} {s : Shared} {V : List Addr} {a b : AV} {v u : Value} (ha : a.sc = true) (hb : b.sc = true) (ra : VR V s.heap a v) (rb : VR V s.heap b u) : EqAt A s v u (seq a b) := by
  cases a <;> cases b <;> simp only [AV.sc, Bool.false_eq_true] at ha hb
  · cases ra; cases rb; exact .same _
  · cases ra; obtain ⟨t, rfl⟩ := rb; exact .none_int _ _
  · cases ra; obtain ⟨t, rfl⟩ := rb; exact .none_str _ _
  · obtain ⟨t, rfl⟩ := ra; cases rb; exact .int_none _ _
  · obtain ⟨t, rfl⟩ := ra; obtain ⟨t', rfl⟩ := rb; exact .int_int _ _ _ _
  · obtain ⟨t, rfl⟩ := ra; obtain ⟨t', rfl⟩ := rb; exact .int_str _ _ _ _
  · obtain ⟨t, rfl⟩ := ra; cases rb; exact .str_none _ _
  · obtain ⟨t, rfl⟩ := ra; obtain ⟨t', rfl⟩ := rb; exact .str_int _ _ _ _
  · obtain ⟨t, rfl⟩ := ra; obtain ⟨t', rfl⟩ := rb; exact .str_str _ _ _ _

def eqs (l r : List AV) : Bool := ((List.range (min l.length r.length)).all fun j => seq (l[j]?.getD .none) (r[j]?.getD .none)) && l.length == r.length
def eqT : AV → AV → Bool
  | .tup l, .tup r => eqs l r
  | .lst l, .lst r => eqs l r
  | a, b => seq a b
def AV.ok : AV → Bool
  | .tup l => l.all AV.sc
  | a => a.sc

theorem VRs.getElem {V : List Addr} {h : Heap} {l : List AV} {vs : List Value} {i : Nat} (x : VRs V h l vs) (hi : i < vs.toArray.size) : VR V h (l[i]?.getD .none) vs.toArray[i] := by
  have hi' : i < vs.length := by simpa using hi
  have hl : i < l.length := x.length ▸ hi'
  obtain ⟨v, e, r⟩ := x.get (List.getElem?_eq_getElem hl)
  rw [List.getElem?_eq_getElem hi'] at e
  cases e
  rw [List.getElem?_eq_getElem hl]
  simpa using r

theorem all_sc {l : List AV} {i : Nat} (h : l.all AV.sc = true) : (l[i]?.getD .none).sc = true := by
  cases q : l[i]? with
  | none => rfl
  | some a => exact List.all_eq_true.mp h a (List.mem_of_getElem? q)

theorem rcAt_ok {A : Around} {s : Shared} {V : List Addr} {a b : AV} {v u : Value} (ha : a.ok = true) (hb : b.ok = true) (hu : A.units < cLine) (ra : VR V s.heap a v) (rb : VR V s.heap b u) :
    RcAt A s v u (eqT a b) ∧ RcNeAt A s v u (!(eqT a b)) := by
  cases a <;> cases b <;> first | (simp only [AV.ok, AV.sc, Bool.false_eq_true] at ha hb; done) | skip
  · cases ra; cases rb; exact ⟨.none_none, .none_none⟩
  · cases ra; obtain ⟨t, rfl⟩ := rb; exact ⟨.none_int _ _, .none_int _ _⟩
  · cases ra; obtain ⟨t, rfl⟩ := rb; exact ⟨.none_str _ _, .none_str _ _⟩
  · cases ra; obtain ⟨p, vs, n, rfl, _, ho, _⟩ := rb; exact ⟨.none_tuple ⟨_, ho, rfl, n, rfl⟩ hu, .none_tuple ⟨_, ho, rfl, n, rfl⟩ hu⟩
  · obtain ⟨t, rfl⟩ := ra; cases rb; exact ⟨.int_none _ _, .int_none _ _⟩
  · obtain ⟨t, rfl⟩ := ra; obtain ⟨t', rfl⟩ := rb; exact ⟨.int_int _ _ _ _, .int_int _ _ _ _⟩
  · obtain ⟨t, rfl⟩ := ra; obtain ⟨t', rfl⟩ := rb; exact ⟨.int_str _ _ _ _, .int_str _ _ _ _⟩
  · obtain ⟨t, rfl⟩ := ra; obtain ⟨p, vs, n, rfl, _, ho, _⟩ := rb; exact ⟨.int_tuple _ _ ⟨_, ho, rfl, n, rfl⟩ hu, .int_tuple _ _ ⟨_, ho, rfl, n, rfl⟩ hu⟩
  · obtain ⟨t, rfl⟩ := ra; cases rb; exact ⟨.str_none _ _, .str_none _ _⟩
  · obtain ⟨t, rfl⟩ := ra; obtain ⟨t', rfl⟩ := rb; exact ⟨.str_int _ _ _ _, .str_int _ _ _ _⟩
  · obtain ⟨t, rfl⟩ := ra; obtain ⟨t', rfl⟩ := rb; exact ⟨.str_str _ _ _ _, .str_str _ _ _ _⟩
  · obtain ⟨t, rfl⟩ := ra; obtain ⟨p, vs, n, rfl, _, ho, _⟩ := rb; exact ⟨.str_tuple _ _ ⟨_, ho, rfl, n, rfl⟩ hu, .str_tuple _ _ ⟨_, ho, rfl, n, rfl⟩ hu⟩
  · cases rb; obtain ⟨p, vs, n, rfl, _, ho, _⟩ := ra; exact ⟨.tuple_none ⟨_, ho, rfl, n, rfl⟩ hu, .tuple_none ⟨_, ho, rfl, n, rfl⟩ hu⟩
  · obtain ⟨t, rfl⟩ := rb; obtain ⟨p, vs, n, rfl, _, ho, _⟩ := ra; exact ⟨.tuple_int _ _ ⟨_, ho, rfl, n, rfl⟩ hu, .tuple_int _ _ ⟨_, ho, rfl, n, rfl⟩ hu⟩
  · obtain ⟨t, rfl⟩ := rb; obtain ⟨p, vs, n, rfl, _, ho, _⟩ := ra; exact ⟨.tuple_str _ _ ⟨_, ho, rfl, n, rfl⟩ hu, .tuple_str _ _ ⟨_, ho, rfl, n, rfl⟩ hu⟩
  · rename_i l r
    obtain ⟨p, vs, n, rfl, _, ho, hl⟩ := ra
    obtain ⟨q, us, k, rfl, _, ho', hr⟩ := rb
    have hall : ∀ j (h1 : j < vs.toArray.size) (h2 : j < us.toArray.size), EqAt A.in1 s vs.toArray[j] us.toArray[j] (seq (l[j]?.getD .none) (r[j]?.getD .none)) := fun j h1 h2 =>
      eqAt_sc (all_sc ha) (all_sc hb) (hl.getElem h1) (hr.getElem h2)
    have e : eqT (.tup l) (.tup r) = ((List.range (min vs.toArray.size us.toArray.size)).all (fun j => seq (l[j]?.getD .none) (r[j]?.getD .none)) && vs.toArray.size == us.toArray.size) := by
      simp only [eqT, eqs, List.size_toArray, hl.length, hr.length]
    rw [e]
    exact ⟨.tuples ⟨_, ho, rfl, n, rfl⟩ ⟨_, ho', rfl, k, rfl⟩ hu hall, .tuples ⟨_, ho, rfl, n, rfl⟩ ⟨_, ho', rfl, k, rfl⟩ hu hall⟩

section
variable {c : Cx} {m mc : LM} {G : Heap → Prop} {K : AK}

theorem OJ.of {as : List AV} {t : List Value → Sem Value} {a : AV}
    (h : ∀ vs s Q, At c m mc G s → VRs c.V s.heap as vs → (∀ v s', VR c.V s'.heap a v → Stp [] s s' → Q v s') → wpAny c.M c.A (t vs) Q NoE s) (k : K a G) : OJ c m mc G as t K := fun vs s x r =>
  h vs s _ x r fun v s' rv y => ⟨a, G, rv, x.pure y, y.mono (by simp), k⟩

theorem OJ.of2 {a1 a2 : AV} {t : Value → Value → Sem Value} {a : AV}
    (h : ∀ v1 v2 s Q, At c m mc G s → VR c.V s.heap a1 v1 → VR c.V s.heap a2 v2 → (∀ v s', VR c.V s'.heap a v → Stp [] s s' → Q v s') → wpAny c.M c.A (t v1 v2) Q NoE s) (k : K a G) :
    OJ c m mc G [a1, a2] (two t) K := OJ.of (fun vs s Q x r k => by
  obtain ⟨v, vr, rfl, r1, u, ur, rfl, r2, rfl⟩ := r
  exact h v u s Q x r1 r2 k) k

theorem EV.cmp {l r : Expr} {op : CmpOp} {pos : Pos} (h : EV c m mc G l fun a G1 => EV c m mc G1 r fun b G2 => OC c m mc G2 op a b K)
    (hm : behindInMarks op r = false := by with_unfolding_all rfl) : EV c m mc G (.Compare l [op] [r] pos) K := ⟨fun s x =>
  wpAny_Compare1 (wpAny_imp (h.run s x) fun v s1 ⟨a, G1, ra, x1, y1, h1⟩ => wpAny_imp (h1.run s1 x1) fun u s2 ⟨b, G2, rb, x2, y2, h2⟩ =>
    wpAny_imp (h2.run [v, u] s2 x2 ⟨v, _, rfl, ra.step y2, u, _, rfl, rb, rfl⟩) fun z s3 ⟨d, G3, rd, x3, y3, h3⟩ => ⟨d, G3, rd, x3, y1.trans (y2.trans y3), h3⟩) hm⟩

theorem OC.eq {n : Nat} {a b : AV} (ok : CxOk c n) (ha : a.ok = true) (hb : b.ok = true) (k : K (.bool (eqT a b)) G) : OC c m mc G .Eq (a) (b) K :=
  ⟨OJ.of2 (a := .bool (eqT a b)) (fun v u s Q x r1 r2 k => (rcAt_ok ha hb ok.a.u r1 r2).1 c.prog c.w _ Q (k _ _ rfl (.refl _ _))) k⟩
theorem OC.ne {n : Nat} {a b : AV} (ok : CxOk c n) (ha : a.ok = true) (hb : b.ok = true) (k : K (.bool (!(eqT a b))) G) : OC c m mc G .NotEq (a) (b) K :=
  ⟨OJ.of2 (a := .bool (!(eqT a b))) (fun v u s Q x r1 r2 k => (rcAt_ok ha hb ok.a.u r1 r2).2 c.prog c.w _ Q (k _ _ rfl (.refl _ _))) k⟩

theorem OC.lt {i j : Int} (k : K (.bool (decide (i < j))) G) : OC c m mc G .Lt (.int i) (.int j) K :=
  ⟨OJ.of2 (fun v u s Q x r1 r2 k => by obtain ⟨t, rfl⟩ := r1; obtain ⟨t', rfl⟩ := r2; exact PySem.P.lt_int (k _ _ rfl (.refl _ _))) k⟩
theorem OC.le {i j : Int} (k : K (.bool (decide (i ≤ j))) G) : OC c m mc G .LtE (.int i) (.int j) K :=
  ⟨OJ.of2 (fun v u s Q x r1 r2 k => by obtain ⟨t, rfl⟩ := r1; obtain ⟨t', rfl⟩ := r2; exact PySem.P.le_int (k _ _ rfl (.refl _ _))) k⟩
theorem OC.gt {i j : Int} (k : K (.bool (decide (i > j))) G) : OC c m mc G .Gt (.int i) (.int j) K :=
  ⟨OJ.of2 (fun v u s Q x r1 r2 k => by obtain ⟨t, rfl⟩ := r1; obtain ⟨t', rfl⟩ := r2; exact PySem.P.gt_int (k _ _ rfl (.refl _ _))) k⟩
theorem OC.ge {i j : Int} (k : K (.bool (decide (i ≥ j))) G) : OC c m mc G .GtE (.int i) (.int j) K :=
  ⟨OJ.of2 (fun v u s Q x r1 r2 k => by obtain ⟨t, rfl⟩ := r1; obtain ⟨t', rfl⟩ := r2; exact PySem.P.ge_int (k _ _ rfl (.refl _ _))) k⟩
theorem OB.add {i j : Int} (k : K (.int (i + j)) G) : OB c m mc G .Add (.int i) (.int j) K :=
  ⟨OJ.of2 (fun v u s Q x r1 r2 k => by obtain ⟨t, rfl⟩ := r1; obtain ⟨t', rfl⟩ := r2; exact PySem.P.add_int (k _ _ ⟨_, rfl⟩ (.toks _ _))) k⟩
theorem OB.mul {i j : Int} (hm : IntMulOk i j) (k : K (.int (i * j)) G) : OB c m mc G .Mult (.int i) (.int j) K :=
  ⟨OJ.of2 (fun v u s Q x r1 r2 k => by obtain ⟨t, rfl⟩ := r1; obtain ⟨t', rfl⟩ := r2; exact PySem.P.mul_int (k _ _ ⟨_, rfl⟩ (.toks _ _)) hm) k⟩
theorem OB.mod {i j : Int} (hj : j ≠ 0) (k : K (.int (i.fmod j)) G) : OB c m mc G .Mod (.int i) (.int j) K :=
  ⟨OJ.of2 (fun v u s Q x r1 r2 k => by obtain ⟨t, rfl⟩ := r1; obtain ⟨t', rfl⟩ := r2; exact mod_int hj (k _ _ ⟨_, rfl⟩ (.toks _ _))) k⟩
theorem OB.fdiv {n : Nat} {i j : Int} (ok : CxOk c n) (hj : j ≠ 0) (hp : Builtin.divisionGoesByPylong i j = false) (k : K (.int (i.fdiv j)) G) : OB c m mc G .FloorDiv (.int i) (.int j) K :=
  ⟨OJ.of2 (fun v u s Q x r1 r2 k => by
    obtain ⟨t, rfl⟩ := r1; obtain ⟨t', rfl⟩ := r2
    exact floordiv_int_or ok.a.handled (fun h => absurd h hj) (fun _ => k _ _ ⟨_, rfl⟩ (.toks _ _)) fun _ => .inl hp) k⟩

def AV.isNone : AV → Option Bool
  | .none => some true
  | .raw (.ref _) => some false
  | .raw _ => Option.none
  | _ => some false
theorem OC.isNone {a : AV} {b : Bool} (ha : a.isNone = some b) (k : K (.bool b) G) : OC c m mc G .Is (a) (.none) K :=
  ⟨OJ.of2 (fun v u s Q x r1 r2 k => by
    cases r2
    cases a with
    | none => cases ha; cases r1; exact wpAny_is_self rfl (k _ _ rfl (.refl _ _))
    | raw v' => cases v' <;> cases ha; cases r1; exact is_ref_none (k _ _ rfl (.refl _ _))
    | bool b => cases ha; cases r1; exact is_bool_none (k _ _ rfl (.refl _ _))
    | int i => cases ha; obtain ⟨t, rfl⟩ := r1; exact is_int_none (k _ _ rfl (.refl _ _))
    | str i => cases ha; obtain ⟨t, rfl⟩ := r1; exact is_str_none (k _ _ rfl (.refl _ _))
    | tup l => cases ha; obtain ⟨p, vs, n, rfl, _⟩ := r1; exact is_ref_none (k _ _ rfl (.refl _ _))
    | lst l => cases ha; obtain ⟨p, vs, n, rfl, _⟩ := r1; exact is_ref_none (k _ _ rfl (.refl _ _))
    | link u p t => cases ha; obtain ⟨p, vs, n, dx, rfl, _⟩ := r1; exact is_ref_none (k _ _ rfl (.refl _ _))
    | rng n => cases ha; obtain ⟨p, t1, t2, t3, rfl, _⟩ := r1; exact is_ref_none (k _ _ rfl (.refl _ _))
    | mt x sp => cases ha; obtain ⟨p, tpl, tx, f1, f2, f3, f4, vs, n, rfl, _⟩ := r1; exact is_ref_none (k _ _ rfl (.refl _ _))) k⟩
theorem OC.isNotNone {a : AV} {b : Bool} (ha : a.isNone = some b) (k : K (.bool (!b)) G) : OC c m mc G .IsNot (a) (.none) K :=
  ⟨OJ.of2 (fun v u s Q x r1 r2 k => by
    cases r2
    have other : ∀ p : Addr, wpAny c.M c.A (compareOp .IsNot (.ref p) .none) (fun v s' => v = .bool true ∧ s' = s) NoE s := fun p => wpAny_isNot_other rfl (by intro h; cases h) ⟨rfl, rfl⟩
    cases a with
    | none => cases ha; cases r1; exact wpAny_isNot_self rfl (k _ _ rfl (.refl _ _))
    | raw v' => cases v' <;> cases ha; cases r1; exact wpAny_isNot_other rfl (by intro h; cases h) (k _ _ rfl (.refl _ _))
    | bool b => cases ha; cases r1; exact wpAny_isNot_other rfl (by intro h; cases h) (k _ _ rfl (.refl _ _))
    | int i => cases ha; obtain ⟨t, rfl⟩ := r1; exact wpAny_isNot_other rfl (by intro h; cases h) (k _ _ rfl (.refl _ _))
    | str i => cases ha; obtain ⟨t, rfl⟩ := r1; exact wpAny_isNot_other rfl (by intro h; cases h) (k _ _ rfl (.refl _ _))
    | tup l => cases ha; obtain ⟨p, vs, n, rfl, _⟩ := r1; exact wpAny_isNot_other rfl (by intro h; cases h) (k _ _ rfl (.refl _ _))
    | lst l => cases ha; obtain ⟨p, vs, n, rfl, _⟩ := r1; exact wpAny_isNot_other rfl (by intro h; cases h) (k _ _ rfl (.refl _ _))
    | link u p t => cases ha; obtain ⟨p, vs, n, dx, rfl, _⟩ := r1; exact wpAny_isNot_other rfl (by intro h; cases h) (k _ _ rfl (.refl _ _))
    | rng n => cases ha; obtain ⟨p, t1, t2, t3, rfl, _⟩ := r1; exact wpAny_isNot_other rfl (by intro h; cases h) (k _ _ rfl (.refl _ _))
    | mt x sp => cases ha; obtain ⟨p, tpl, tx, f1, f2, f3, f4, vs, n, rfl, _⟩ := r1; exact wpAny_isNot_other rfl (by intro h; cases h) (k _ _ rfl (.refl _ _))) k⟩

/-- truth -/
def AV.truth : AV → Option Bool
  | .none => some false
  | .bool b => some b
  | .int i => some (i != 0)
  | .str x => some ((x.length : Int) != 0)
  | .mt _ _ => some true
  | _ => Option.none
theorem mt_bool : typeLookup (.type "re.Match") "__bool__" = pure Option.none := by rw [typeLookup_type, builtinLookup_eq_fast]; kernel_rfl
theorem mt_len : typeLookup (.type "re.Match") "__len__" = pure Option.none := by rw [typeLookup_type, builtinLookup_eq_fast]; kernel_rfl
theorem truth_ok {a : AV} {b : Bool} {v : Value} {s : Shared} {Q : Bool → Shared → Prop} (ha : a.truth = some b) (hz : ∀ x, a = .str x → x.length ≤ sizeLine) (r : VR c.V s.heap a v) (h : ∀ s', Stp [] s s' → Q b s') : wpAny c.M c.A (truthy v) Q NoE s := by
  cases a <;> cases ha
  · cases r; exact truthy_none (h _ (.refl _ _))
  · cases r; exact wpAny_truthy_bool (h _ (.refl _ _))
  · obtain ⟨t, rfl⟩ := r; exact PySem.P.truthy_int (h _ (.refl _ _))
  · rename_i x
    obtain ⟨t, rfl⟩ := r
    exact PySem.P.truthy_str (by have := hz x rfl; unfold sizeLine at this; omega) (h _ (.toks _ _))
  · obtain ⟨p, tpl, tx, f1, f2, f3, f4, vs, n, rfl, _, ho, _⟩ := r
    unfold truthy
    refine wpAny_bind (m := callSpecial? (.ref p) (Str.ofString "__bool__")) ?_
    unfold callSpecial? specialOf
    refine wpAny_bind (wpAny_bind (wpAny_bind (wpAny_load ho (wpAny_pure (wpAny_of_eq mt_bool ?_)))))
    refine wpAny_pure ?_
    refine wpAny_bind (m := specialOf (.ref p) (Str.ofString "__len__")) ?_
    unfold specialOf
    refine wpAny_bind (m := typeOf (.ref p)) (wpAny_bind (wpAny_load ho (wpAny_pure (wpAny_of_eq mt_len ?_))))
    rw [if_pos (show (Option.none : Option Value).isNone = true from rfl)]
    exact wpAny_pure (h _ (.refl _ _))

theorem BT.plain {e : Expr} {K : Bool → (Heap → Prop) → Prop} (h : EV c m mc G e fun a G' => ∃ b, a.truth = some b ∧ (∀ x, a = .str x → x.length ≤ sizeLine) ∧ K b G')
    (he : isTrue e c.env (eval e c.env) = (do let v ← eval e c.env; standAt e.pos; holding [v] (truthy v)) := by rfl) : BT c m mc G e K := ⟨fun s x =>
  isTrue_plain (wpAny_imp (h.run s x) fun v s1 ⟨a, G1, ra, x1, y1, b, hb, hz, h1⟩ => truth_ok hb hz ra fun s2 y2 => ⟨G1, x1.pure y2, y1.trans (y2.mono (by simp)), h1⟩) he⟩

theorem BT.cmp {l r : Expr} {op : CmpOp} {pos : Pos} {K : Bool → (Heap → Prop) → Prop}
    (h : EV c m mc G l fun a G1 => EV c m mc G1 r fun b G2 => OC c m mc G2 op a b fun d G3 => ∃ b, d = .bool b ∧ K b G3)
    (hm : behindInMarks op r = false := by with_unfolding_all rfl) : BT c m mc G (.Compare l [op] [r] pos) K := ⟨fun s x =>
  wpAny_isTrue_Compare1 (wpAny_imp (h.run s x) fun v s1 ⟨a, G1, ra, x1, y1, h1⟩ => wpAny_imp (h1.run s1 x1) fun u s2 ⟨b, G2, rb, x2, y2, h2⟩ =>
    wpAny_imp (h2.run [v, u] s2 x2 ⟨v, _, rfl, ra.step y2, u, _, rfl, rb, rfl⟩) fun z s3 ⟨d, G3, rd, x3, y3, q, e, h3⟩ => by
      subst e; cases rd
      exact wpAny_truthy_bool ⟨G3, x3, y1.trans (y2.trans y3), h3⟩) hm⟩

theorem BT.not {x : Expr} {pos : Pos} {K : Bool → (Heap → Prop) → Prop} (h : BT c m mc G x fun b G' => K (!b) G') : BT c m mc G (.UnaryOp .Not x pos) K := ⟨fun s h0 =>
  isTrue_not (wpAny_imp (h.run s h0) fun b s1 ⟨G1, x1, y1, h1⟩ => ⟨G1, x1, y1, h1⟩)⟩

theorem EV.ifexp {test body orelse : Expr} {pos : Pos} (h : BT c m mc G test fun b G' => (b = true → EV c m mc G' body K) ∧ (b = false → EV c m mc G' orelse K)) : EV c m mc G (.IfExp test body orelse pos) K := ⟨fun s x => by
  refine wpAny_IfExp (wpAny_imp (h.run s x) ?_)
  rintro b s1 ⟨G1, x1, y1, h1, h2⟩
  cases b with
  | true =>
    refine wpAny_imp ((h1 rfl).run s1 x1) ?_
    rintro f2 s2 ⟨a, G2, ra, x2, y2, h2⟩
    exact ⟨a, G2, ra, x2, y1.trans y2, h2⟩
  | false =>
    refine wpAny_imp ((h2 rfl).run s1 x1) ?_
    rintro f2 s2 ⟨a, G2, ra, x2, y2, h2⟩
    exact ⟨a, G2, ra, x2, y1.trans y2, h2⟩⟩

theorem EV.localI {x y : Str} {p : Pos} {a : AV} (i : Nat) (hm : m[i]? = some (y, a)) (hf : (x == y && (m.take i).all fun q => !(x == q.1)) = true) (hk : c.env.scope.kind = .function) (hl : c.env.kindOf x = some .local)
    (k : K a G) (hd : (x == ("__debug__" : Str)) = false) : EV c m mc G (.Name x p) K := by
  refine EV.local hk hl ?_ k hd
  simp only [Bool.and_eq_true, beq_iff_eq] at hf
  obtain ⟨rfl, h2⟩ := hf
  clear hl hk hd
  induction m generalizing i with
  | nil => simp at hm
  | cons q r ih =>
    cases i with
    | zero => simp at hm; subst hm; simp
    | succ i =>
      simp only [List.take_succ_cons, List.all_cons, Bool.and_eq_true, Bool.not_eq_true'] at h2
      obtain ⟨q1, q2⟩ := q
      rw [List.lookup_cons, h2.1]
      exact ih i h2.2 (by simpa using hm)
theorem EV.cellI {x y : Str} {p : Pos} {a : AV} (i : Nat) (hm : mc[i]? = some (y, a)) (hf : (x == y && (mc.take i).all fun q => !(x == q.1)) = true) (hk : c.env.scope.kind = .function) (hl : c.env.kindOf x = some .cell)
    (k : K a G) (hd : (x == ("__debug__" : Str)) = false) : EV c m mc G (.Name x p) K := by
  refine EV.cell hk hl ?_ k hd
  simp only [Bool.and_eq_true, beq_iff_eq] at hf
  obtain ⟨rfl, h2⟩ := hf
  clear hl hk hd
  induction mc generalizing i with
  | nil => simp at hm
  | cons q r ih =>
    cases i with
    | zero => simp at hm; subst hm; simp
    | succ i =>
      simp only [List.take_succ_cons, List.all_cons, Bool.and_eq_true, Bool.not_eq_true'] at h2
      obtain ⟨q1, q2⟩ := q
      rw [List.lookup_cons, h2.1]
      exact ih i h2.2 (by simpa using hm)
theorem EV.freeI {x y : Str} {p : Pos} {a : AV} (i : Nat) (hm : mc[i]? = some (y, a)) (hf : (x == y && (mc.take i).all fun q => !(x == q.1)) = true) (hk : c.env.scope.kind = .function) (hl : c.env.kindOf x = some .free)
    (k : K a G) (hd : (x == ("__debug__" : Str)) = false) (hn : (x == ("__classdict__" : Str)) = false) : EV c m mc G (.Name x p) K := by
  refine EV.free hk hl ?_ k hd hn
  simp only [Bool.and_eq_true, beq_iff_eq] at hf
  obtain ⟨rfl, h2⟩ := hf
  clear hl hk hd hn
  induction mc generalizing i with
  | nil => simp at hm
  | cons q r ih =>
    cases i with
    | zero => simp at hm; subst hm; simp
    | succ i =>
      simp only [List.take_succ_cons, List.all_cons, Bool.and_eq_true, Bool.not_eq_true'] at h2
      obtain ⟨q1, q2⟩ := q
      rw [List.lookup_cons, h2.1]
      exact ih i h2.2 (by simpa using hm)
end
end Mine
end

-- part W4
section
open PySem PySem.W PyProof.Rows PySem.SeqAt
set_option Elab.async false
set_option linter.unusedVariables false
namespace Mine

structure Loc (F : List Addr) (R : Heap → Prop) : Prop where
  loc : ∀ h h', (∀ b ∈ F, ∀ o, h.get? b = some o → h'.get? b = some o) → R h → R h'
theorem Loc.gb {F O R h} (x : Loc F R) (d : ∀ b ∈ F, b ∉ O) (r : R h) : GB O R h := fun h' k => x.loc h h' (fun b hb o e => k b o (d b hb) e) r
theorem Loc.and {F F' R R'} (x : Loc F R) (y : Loc F' R') : Loc (F ++ F') (fun h => R h ∧ R' h) :=
  ⟨fun h h' k r => ⟨x.loc h h' (fun b hb => k b (List.mem_append_left _ hb)) r.1, y.loc h h' (fun b hb => k b (List.mem_append_right _ hb)) r.2⟩⟩
theorem Loc.true : Loc [] (fun _ => True) := ⟨fun _ _ _ _ => trivial⟩

def LObj (vs : List Value) (n : Nat) : Obj := { cls := .type "list", data := .seq vs.toArray n }

/-- the draw: a list of the script's rest and a seed -/
def DR (d l : Addr) (ns : List Int) (seed : Int) (h : Heap) : Prop :=
  (∃ t, h.IsList d #[.ref l, .int seed t]) ∧ ∃ vs n, h.get? l = some (LObj vs n) ∧ VRs [] h (ns.map .int) vs

theorem ints_any {V V' h h'} : ∀ {ns : List Int} {vs : List Value}, VRs V h (ns.map .int) vs → VRs V' h' (ns.map .int) vs
  | [], _, x => x
  | _ :: _, _, ⟨v, vr, e, x, y⟩ => ⟨v, vr, e, x, ints_any y⟩

theorem DR.loc (d l ns seed) : Loc [d, l] (DR d l ns seed) := ⟨fun h h' k ⟨⟨t, o, e, q⟩, vs, n', e', r⟩ =>
  ⟨⟨t, o, k d (by simp) _ e, q⟩, vs, n', k l (by simp) _ e', ints_any r⟩⟩

section
variable {c : Cx} {m mc : LM} {G : Heap → Prop} {K : AK}

theorem EV.list {elts : List Expr} {pos : Pos} (h : EA c m mc G pos elts fun as G1 => as.length ≤ sizeLine ∧ K (.lst as) G1) : EV c m mc G (.List elts pos) K := ⟨fun s x =>
  wpAny_List (wpAny_imp (h.run s x) fun vs s1 ⟨as, G1, rs, x1, y1, hz, h1⟩ => by
    have hn : s1.heap.objs.size ∉ c.V := x1.gd.fresh
    refine ⟨by rw [rs.length]; exact hz, .lst as, G1, ⟨_, vs, 0, rfl, hn, Heap.get?_push_size _ rfl, VRs.step rs (.push ..)⟩, x1.pure (.push ..), y1.trans (.push ..), h1⟩)⟩

/-- an item of a list that the ghost tells of -/
theorem OS.rawl {value slice : Expr} {d : Addr} {i : Int} {a : AV} (h0 : 0 ≤ i) (hhi : i < 2 ^ 63)
    (hG : ∀ s, At c m mc G s → ∃ (vs : List Value) (v : Value), s.heap.IsList d vs.toArray ∧ vs[i.toNat]? = some v ∧ VR c.V s.heap a v) (k : K a G)
    (hs : ∀ t u, subscripted slice false (.ref t) (.int i u) = operate [.ref t, .int i u] (getItem (.ref t) (.int i u)) := by intro t u; with_unfolding_all rfl) :
    OS c m mc G value slice (.raw (.ref d)) (.int i) K := ⟨fun vs s x r => by
  obtain ⟨v, vr, rfl, r1, u, ur, rfl, r2, rfl⟩ := r
  cases r1
  obtain ⟨t, rfl⟩ := r2
  obtain ⟨vs, v, hl, hv, rv⟩ := hG s x
  exact tail_any hl.typeIs slot_list_getitem.lookup (wpAny_getItem_list hl h0 hhi (by simpa using hv) ⟨a, G, rv, x, .refl _ _, k⟩) (hs _ _)⟩

theorem OS.lst {value slice : Expr} {l : List AV} {i : Int} {a : AV} (h0 : 0 ≤ i) (hhi : i < 2 ^ 63) (ha : l[i.toNat]? = some a) (k : K a G)
    (hs : ∀ t u, subscripted slice false (.ref t) (.int i u) = operate [.ref t, .int i u] (getItem (.ref t) (.int i u)) := by intro t u; with_unfolding_all rfl) :
    OS c m mc G value slice (.lst l) (.int i) K := ⟨fun vs s x r => by
  obtain ⟨v, vr, rfl, r1, u, ur, rfl, r2, rfl⟩ := r
  obtain ⟨b, vs, n, rfl, hb, ho, hl⟩ := r1
  obtain ⟨t, rfl⟩ := r2
  obtain ⟨v, hv, rv⟩ := hl.get ha
  have hl : s.heap.IsList b vs.toArray := ⟨_, ho, rfl, n, rfl⟩
  exact tail_any hl.typeIs slot_list_getitem.lookup (wpAny_getItem_list hl h0 hhi (by simpa using hv) ⟨a, G, rv, x, .refl _ _, k⟩) (hs _ _)⟩

/-- a list that the ghost tells of, against a fresh empty one -/
theorem OC.neNil {n : Nat} {d : Addr} {ns : List Int} (ok : CxOk c n) (hG : ∀ s, At c m mc G s → ∃ vs : List Value, s.heap.IsList d vs.toArray ∧ vs.length = ns.length) (k : K (.bool (!ns.isEmpty)) G) :
    OC c m mc G .NotEq (.raw (.ref d)) (.lst []) K := ⟨fun vs s x r => by
  obtain ⟨v, vr, rfl, r1, u, ur, rfl, r2, rfl⟩ := r
  cases r1
  obtain ⟨b, us, n', rfl, hb, ho', hl'⟩ := r2
  cases hl'
  obtain ⟨vs, ho, hl⟩ := hG s x
  show wpAny c.M c.A (compareOp .NotEq (.ref d) (.ref b)) _ NoE s
  cases ns with
  | nil =>
    have : vs = [] := List.length_eq_zero_iff.mp hl
    subst this
    exact RcNeAt.lists (e := fun _ => true) ho ⟨_, ho', rfl, n', rfl⟩ rfl ok.a.u (fun j h1 _ => absurd h1 (by simp)) c.prog c.w _ _ ⟨.bool false, G, rfl, x, .refl _ _, k⟩
  | cons i ns =>
    exact RcNeAt.lists_lengths ho ⟨_, ho', rfl, n', rfl⟩ (by simp [hl]) ok.a.u c.prog c.w _ _ ⟨.bool true, G, rfl, x, .refl _ _, k⟩⟩

theorem Stp.upd {c : Cx} {s : Shared} {l : Addr} (f : Obj → Obj) (hf : ∀ o, s.heap.get? l = some o → (f o).isFreed = false) (hl : l ∈ c.D) : Stp c.D s { s with heap := s.heap.update l f } :=
  ⟨fun b o hb e => (Heap.get?_update_other _ _ fun (q : l = b) => hb (q ▸ hl)).trans e, fun b o e => (by
    by_cases q : b = l
    · subst q
      cases hz : (f o).isFreed with
      | false => exact ⟨_, Heap.get?_update_self f e hz⟩
      | true => exact absurd hz (by rw [hf o e]; decide)
    · exact ⟨o, (Heap.get?_update_other _ _ (Ne.symm q)).trans e⟩), .refl _, rfl⟩

/-- a call of a method of a built-in class -/
structure CW (c : Cx) (m mc : LM) (G : Heap → Prop) (pos : Pos) (id : String) (a : AV) (args : List Expr) (K : AK) : Prop where
  run : ∀ v s, At c m mc G s → VR c.V s.heap a v → wpAny c.M c.A (callWith pos (.builtin id) [v] (backTo pos (starEach args c.env)) []) (fun v s' => ∃ a G', VR c.V s'.heap a v ∧ At c m mc G' s' ∧ Stp c.D s s' ∧ K a G') NoE s

theorem EV.meth {o : Expr} {name : Str} {apos pos : Pos} {args : List Expr} (T id : String)
    (hbase : attributeBase o name c.env (eval o c.env) = eval o c.env)
    (hfew : ((backTo pos (starEach args c.env)).all (fun x => !x.1) && (backToKw pos (keywordEach [] c.env)).all (fun x => x.1.isSome)
      && decide (args.length + ([] : List Keyword).length + (if ([] : List Keyword).isEmpty then 0 else 1) < 30)) = true)
    (hline : (apos.endLine == pos.line) = true)
    (pa : PlainAttrs T) (slot : Slot T name id) (hty : typeOf (.builtin id) = pure (.type "method_descriptor"))
    (h : EV c m mc G o fun a G1 => (∀ v s, At c m mc G1 s → VR c.V s.heap a v → s.TypeIs v T ∧ (∀ p, v = .ref p → ∃ ob, s.heap.get? p = some ob ∧ ob.dict = Option.none)) ∧ CW c m mc G1 pos id a args K) :
    EV c m mc G (.Call (.Attribute o name apos) args [] pos) K := ⟨fun s x =>
  wpAny_Call_method hbase hfew hline pa slot hty (wpAny_imp (h.run s x) fun v s1 ⟨a, G1, ra, x1, y1, ht, h1⟩ =>
    ⟨(ht v s1 x1 ra).1, (ht v s1 x1 ra).2, wpAny_imp (h1.run v s1 x1 ra) fun u s2 ⟨b, G2, rb, x2, y2, h2⟩ => ⟨b, G2, rb, x2, y1.trans y2, h2⟩⟩)⟩

theorem CW.pop0 {pos p : Pos} {k : Nat} {l : Addr} {a : AV} {G' : Heap → Prop} (hl : l ∈ c.D)
    (hG : ∀ s, At c m mc G s → ∃ v vs n, s.heap.get? l = some (LObj (v :: vs) n) ∧ (v :: vs).length ≤ sizeLine ∧ VR c.V s.heap a v ∧
      ∀ h' n', h'.get? l = some (LObj vs n') → (∀ b o, b ≠ l → s.heap.get? b = some o → h'.get? b = some o) → GB c.O G' h') (hk : K a G') :
    CW c m mc G pos "list.pop" (.raw (.ref l)) [.Constant (.int 0) k p] K := ⟨fun v s x r => by
  cases r
  have hb : backTo pos (starEach [.Constant (.int 0) k p] c.env) = [(false, eval (.Constant (.int 0) k p) c.env)] := rfl
  rw [hb]
  refine PySem.P.pop_at_list ?_
  refine wpAny_Constant_int ?_
  have x' := x.pure (Stp.toks s (s.toks + 1))
  obtain ⟨v, vs, n, ho, hz, rv, g⟩ := hG _ x'
  refine ⟨(v :: vs).toArray, n, 0, s.toks, 0, v, by simpa using hz, rfl, ho, by decide, by simp [seqIndex?], by simp, ?_⟩
  have hfr : ∀ o, s.heap.get? l = some o → (Obj.mapSeq (fun xs => xs.eraseIdxIfInBounds 0) o).isFreed = false := fun o e => by rw [show s.heap.get? l = some (LObj (v :: vs) n) from ho] at e; cases e; rfl
  have st : Stp c.D s { s with heap := s.heap.update l (Obj.mapSeq fun xs => xs.eraseIdxIfInBounds 0), toks := s.toks + 1 } := (Stp.toks s (s.toks + 1)).trans (Stp.upd (c := c) (s := { s with toks := s.toks + 1 }) _ hfr hl)
  refine ⟨a, G', VR.step rv (Stp.upd (c := c) (s := { s with toks := s.toks + 1 }) _ hfr hl), x.step st (g _ (if vs.length == vs.length + 1 then n else n + 1) ?_ fun b o hb e => (Heap.get?_update_other _ _ (Ne.symm hb)).trans e), st, hk⟩
  have := PySem.IsL.update (f := fun xs => xs.eraseIdxIfInBounds 0) (show PySem.IsL _ l (v :: vs).toArray n from ho)
  rw [show ((v :: vs).toArray.eraseIdxIfInBounds 0) = vs.toArray by simp [Array.eraseIdxIfInBounds]] at this
  simpa [LObj] using this⟩

theorem GB.sub {O G h h'} (x : GB O G h) (k : ∀ b o, h.get? b = some o → h'.get? b = some o) : GB O G h' := x.keeps fun b o _ => k b o
end
section
variable {c : Cx} {m mc : LM} {G : Heap → Prop} {KF : FK}
theorem X1.setL {o i value : Expr} {pos' pos : Pos} (hs : swapsWith value (some (.Subscript o i pos')) pos.line c.env = pure false)
    (h : EV c m mc G value fun a G1 => EV c m mc G1 o fun b G2 => EV c m mc G2 i fun k G3 => ∃ d j G', b = .raw (.ref d) ∧ k = .int j ∧ d ∈ c.D ∧ 0 ≤ j ∧ j < 2 ^ 63 ∧
      (∀ s v, At c m mc G3 s → VR c.V s.heap a v → ∃ vs : Array Value, s.heap.IsList d vs ∧ j < vs.size ∧ ∀ h', h'.IsList d (vs.setIfInBounds j.toNat v) → (∀ b o, b ≠ d → s.heap.get? b = some o → h'.get? b = some o) → GB c.O G' h') ∧ KF .next m mc G') :
    X1 c m mc G (.Assign [.Subscript o i pos'] value pos) KF := ⟨fun s x => by
  refine wpAny_Assign_Subscript (wpAny_imp (h.run s x) ?_) hs
  rintro v s1 ⟨a, G1, ra, x1, y1, h1⟩
  refine wpAny_imp (h1.run s1 x1) ?_
  rintro ov s2 ⟨b, G2, rb, x2, y2, h2⟩
  refine wpAny_imp (h2.run s2 x2) ?_
  rintro iv s3 ⟨k, G3, rk, x3, y3, d, j, G', rfl, rfl, hd, h0, hj, hG, hk⟩
  cases rb
  obtain ⟨t, rfl⟩ := rk
  obtain ⟨vs, hl, hlt, g⟩ := hG s3 v x3 ((ra.step y2).step y3)
  refine wpAny_setItem_list hl h0 hj hlt fun h' hl' hb => ?_
  have st : Stp c.D s3 { s3 with heap := h' } := ⟨fun b o hb' e => hb.extBut b o (fun q => hb' (q ▸ hd)) e, fun b o e => (by
    by_cases q : b = d
    · subst q; obtain ⟨o', e', _⟩ := hl'; exact ⟨o', e'⟩
    · exact ⟨o, hb.extBut b o q e⟩), .refl _, rfl⟩
  exact ⟨.next, m, mc, G', rfl, x3.step st (g h' hl' fun b o hn e => hb.extBut b o hn e), (y1.trans (y2.trans (y3.trans st))).own, hk⟩⟩
end
end Mine
end

-- part W4b
section
open PySem PySem.W PyProof.Rows PySem.SeqAt
set_option Elab.async false
set_option linter.unusedVariables false
namespace Mine

def strOf : Value → Option Str
  | .str x _ => some x
  | _ => none
def strTup (K : Frag) (a : Addr) (xs : List Str) : Bool := match K.lookup a with
  | some ⟨.type T, none, .seq vs _, sl⟩ => T == "tuple" && sl.isEmpty && vs.toList.map strOf == xs.map some
  | _ => false
theorem VRs.strs {V h} : ∀ {xs : List Str} {vs : List Value}, vs.map strOf = xs.map some → VRs V h (xs.map .str) vs
  | [], [], _ => rfl
  | x :: xs, v :: vs, e => by
    simp only [List.map_cons, List.cons.injEq] at e
    refine ⟨v, vs, rfl, ?_, VRs.strs e.2⟩
    cases v <;> simp [strOf] at e
    exact ⟨_, by rw [e.1]⟩
  | [], v :: vs, e => by simp at e
  | x :: xs, [], e => by simp at e
theorem strTup_ok {K V s a xs} (e : strTup K a xs = true) (gd : Gd K V s) : VR V s.heap (.tup (xs.map .str)) (.ref a) := by
  unfold strTup at e
  split at e
  · rename_i T vs n sl ho
    simp only [Bool.and_eq_true, beq_iff_eq, Array.isEmpty_iff] at e
    obtain ⟨⟨rfl, rfl⟩, e⟩ := e
    refine ⟨a, vs.toList, n, rfl, fun hv => ?_, ?_, VRs.strs e⟩
    · rw [(gd.hi a hv).1] at ho; cases ho
    · have := gd.k _ _ ho
      simpa using this
  · cases e

section
variable {c : Cx} {m mc : LM} {G : Heap → Prop} {K : AK}
theorem EV.strTup {x : Str} {p : Pos} (a : Addr) (xs : List Str) (hf : peek c.K ⟨c.prog, c.w.params⟩ (loadName c.env x) = some (.ref a)) (ht : strTup c.K a xs = true) (hd : (x == ("__debug__" : Str)) = false)
    (k : K (.tup (xs.map .str)) G) : EV c m mc G (.Name x p) K := EV.global hf (fun s gd => strTup_ok ht gd) k hd

theorem OS.tupI {value slice : Expr} {l : List AV} {i : Int} {a : AV} (h0 : 0 ≤ i) (hhi : i < l.length) (hl : l.length < 2 ^ 60) (ha : l[i.toNat]? = some a) (k : K a G)
    (hs : ∀ t u, subscripted slice false (.ref t) (.int i u) = operate [.ref t, .int i u] (getItem (.ref t) (.int i u)) := by intro t u; with_unfolding_all rfl) :
    OS c m mc G value slice (.tup l) (.int i) K := by
  have hn : ¬ i < 0 := by omega
  have hj : seqIndex? i l.length = some i.toNat := by
    unfold seqIndex?
    simp only [hn, if_false]
    rw [if_pos (by simp; omega)]
  exact OS.tup (j := i.toNat) (by omega) (by omega) hj ha k hs

def nth (xs : List Str) (i : Int) : Str := xs[i.toNat]?.getD (Str.ofString "")
theorem OS.strI {value slice : Expr} {xs : List Str} {i : Int} (h0 : 0 ≤ i) (hhi : i < xs.length) (hl : xs.length < 2 ^ 60) (k : K (.str (nth xs i)) G)
    (hs : ∀ t u, subscripted slice false (.ref t) (.int i u) = operate [.ref t, .int i u] (getItem (.ref t) (.int i u)) := by intro t u; with_unfolding_all rfl) :
    OS c m mc G value slice (.tup (xs.map .str)) (.int i) K := by
  have hlt : i.toNat < xs.length := by omega
  refine OS.tupI h0 (by simpa using hhi) (by simpa using hl) (a := .str (nth xs i)) ?_ k hs
  simp [nth, List.getElem?_eq_getElem hlt]
end
end Mine
end

-- part W7
section
open PySem PySem.W PyProof.Rows PySem.SeqAt
open AutoSeq1 (wpAny_loadPart')
set_option Elab.async false
set_option linter.unusedVariables false
set_option maxRecDepth 100000
namespace Mine

theorem Ctx_In_le {Γ : Ctx} {A A' : Around} (x : Γ.In A) (hh : A.handled = A'.handled) (hd : A.depth ≤ A'.depth) (hf : A'.frames = none) (hg : A'.guards = none) (hu : A.units ≤ A'.units) : Γ.In A' :=
  ⟨x.1.trans hh, Nat.le_trans x.2.1 hd, fun l e => (by rw [hf] at e; cases e), fun l e => (by rw [hg] at e; cases e), Nat.le_trans x.2.2.2.2 hu⟩
theorem wpAny_le {α : Type} {M : Model} {A A' : Around} {t : Sem α} {Q : α → Shared → Prop} {E : Value → Shared → Prop} {s : Shared} (h : wpAny M A' t Q E s)
    (hh : A.handled = A'.handled) (hd : A.depth ≤ A'.depth) (hf : A'.frames = none) (hg : A'.guards = none) (hu : A.units ≤ A'.units) : wpAny M A t Q E s :=
  fun Γ p hΓ => h Γ p (Ctx_In_le hΓ hh hd hf hg hu)
abbrev AX : Around := { handled := none, depth := 900, frames := none, guards := none, units := 9000 }
theorem wpAny_AX {α : Type} {M : Model} {A : Around} {t : Sem α} {Q : α → Shared → Prop} {E : Value → Shared → Prop} {s : Shared} (h : wpAny M AX t Q E s) (hA : AOk A 120) : wpAny M A t Q E s :=
  wpAny_le h hA.handled (by have := hA.depth; unfold recursionLimit at this; show A.depth ≤ 900; omega) rfl rfl (by have := hA.units; unfold cLine at this; show A.units ≤ 9000; omega)

section
variable {prog : Program} {w : World} {A : Around} {E : Value → Shared → Prop} {s : Shared} {K : Frag} {x C : Addr} {items : Array Value} {n : Nat} {dx : Addr}

theorem sub_getitem_at (l : Addr) (c : Value) (dd : Option Addr) (items : Array Value) (n : Nat) (i : Int) (u : Tok) (k : Nat) (y : Value) (hlo : -2 ^ 63 ≤ i) (hhi : i < 2 ^ 63) (hk : seqIndex? i items.size = some k) (hy : items[k]? = some y) :
    Meets (Builtin.«tuple.__getitem__» ⟨[.ref l, .int i u], []⟩)
      (fun _ R s => s.heap.get? l = some { cls := c, dict := dd, data := .seq items n, slots := #[] } ∧ R (.ok (.ret y)) s) :=
  .of_wp fun prog w A R s h => by
    obtain ⟨hp, g, d, tk, os⟩ := s; obtain ⟨hl, h⟩ := h
    have f1 := AutoSeq1.idx_int
    have hf : ¬ (decide (i < -2 ^ 63) || decide (i ≥ 2 ^ 63)) = true := by simp; omega
    wp_walk using wpAny_loadPart' hl
    simp only [hk, hy, Option.bind_some]
    refine wpAny_ite_false (by simp; omega) ?_
    wp_walk
    exact ⟨_, rfl, h⟩

theorem bk1 : builtinKind "tuple.__getitem__" = some .slot := by decide +kernel
theorem bk2 : splitId "tuple.__getitem__" = some ("tuple", "__getitem__") := by decide +kernel
theorem sub_getitem {i : Int} {u : Tok} {k : Nat} {y : Value} {R : Result → Shared → Prop} (X : K.In s.heap) (hx : s.heap.get? x = some { cls := .ref C, dict := some dx, data := .seq items n }) (hK : mroIn K C (.type "tuple") = some true)
    (hlo : -2 ^ 63 ≤ i) (hhi : i < 2 ^ 63) (hk : seqIndex? i items.size = some k) (hy : items[k]? = some y) (h : R (.ok (.ret y)) s) :
    codeAny (model prog w) A (.call (.builtin "tuple.__getitem__") ⟨[.ref x, .int i u], []⟩) R s := by
  have hT : Looks (model prog w) s.heap (typeOf (.ref x)) (.ref C) := (Looks.ld hx).andThen .now
  have hi : Looks (model prog w) s.heap (isInstance (.ref x) (.type "tuple")) true := hT.andThen (looks_mroIn X hK)
  have key := sub_getitem_at x (.ref C) (some dx) items n i u k y hlo hhi hk hy prog w A R s ⟨hx, h⟩
  refine codeAny_call_builtin F.slot_tuple_getitem.plain F.entry_tuple_getitem ?_
  have ha := F.args_tuple_getitem_2 (.ref x) (.int i u)
  generalize hB : Builtin.«tuple.__getitem__» ⟨[.ref x, .int i u], []⟩ = B at key ⊢
  exact @check_slot (model prog w) A.in1 (fun e s' => R (.error e) s') s "tuple.__getitem__" "tuple" "__getitem__" (.ref x) [.int i u] [] _ bk1 bk2 hi ha key
theorem bk3 : builtinKind "tuple.__getattribute__" = some .slot := by decide +kernel
theorem bk4 : splitId "tuple.__getattribute__" = some ("tuple", "__getattribute__") := by decide +kernel
theorem sub_attr {name : Str} {g : Addr} {a : Value} {Q : Value → Shared → Prop} (X : K.In s.heap) (hx : s.heap.get? x = some { cls := .ref C, dict := some dx, data := .seq items n })
    (hga : findIn K (.ref C) "__getattribute__" = some (some (.builtin "tuple.__getattribute__"))) (hk : findIn K (.ref C) "__getattr__" = some none)
    (hdx : s.heap.get? dx = some { cls := .type "dict", data := .dict #[] }) (hf : findObj K C (some { cls := .type "dict", data := .dict #[] }) name = some (.bind (.ref g) a)) (hm : mroIn K C (.type "tuple") = some true)
    (h : wpAny (model prog w) A.in1 (call (.ref g) [a, .ref x, .ref C]) (fun v s' => handedIn v = true ∧ Q v s') NoE { s with toks := s.toks + 1 }) :
    wpAny (model prog w) A (getAttr (.ref x) name true) Q NoE s := by
  have hT : Looks (model prog w) s.heap (typeOf (.ref x)) (.ref C) := (Looks.ld hx).andThen .now
  have hi : Looks (model prog w) s.heap (isInstance (.ref x) (.type "tuple")) true := hT.andThen (looks_mroIn X hm)
  have I : InstAt s.heap x { cls := .ref C, dict := some dx, data := .seq items n } C (some { cls := .type "dict", data := .dict #[] }) := ⟨hx, rfl, rfl, hdx⟩
  have L1 := looks_find (M := model prog w) X I hf
  have L2 := looks_findIn (M := model prog w) X hga
  have L3 := looks_findIn (M := model prog w) X hk
  obtain ⟨hh, gg, d, tk, os⟩ := s
  unfold getAttr getAttrBy
  refine wpAny_bind (wpAny_mkText (wpAny_holding (wpAny_bind (hT.at (wpAny_bind (L2.at ?_))))))
  dsimp only
  rw [if_neg (by rw [show (Value.builtin "tuple.__getattribute__" == Value.builtin "object.__getattribute__") = false by decide +kernel]; simp)]
  unfold getAttrByItsOwn
  refine wpAny_bind (L3.at ?_)
  refine wpAny_bind (wpAny_attempt (wpAny_holding ?_))
  show wpAny _ _ (boundAndCalled _ _ _) _ _ _
  unfold boundAndCalled
  refine wpAny_bind ?_
  rw [F.slot_tuple_getattribute.bind]
  refine wpAny_pure ?_
  refine wpAny_call (codeAny_call_builtin F.slot_tuple_getattribute.plain F.entry_tuple_ga ?_)
  refine @check_slot (model prog w) A.in1 _ _ "tuple.__getattribute__" "tuple" "__getattribute__" (.ref x) [.str name tk] [] _ bk3 bk4 hi (F.args_tuple_getattribute_2 _ _) ?_
  unfold Builtin.«object.__getattribute__»
  have e1 : slotArgs "__getattribute__" 1 ⟨[.ref x, .str name tk], []⟩ = pure (.ref x, [.str name tk]) := by kernel_rfl
  refine wpAny_bind (wpAny_of_eq e1 ?_)
  refine wpAny_bind (wpAny_of_eq (show Builtin.ObjectAttr.attrName (.str name tk) = pure name from rfl) ?_)
  refine wpAny_bind (hT.at (wpAny_bind (L1.at ?_)))
  show wpAny _ _ (holding [a] (call (.ref g) [a, .ref x, .ref C]) >>= ret) _ _ _
  refine wpAny_bind (wpAny_holding (wpAny_mono h (fun v s' hv => ?_) fun _ _ z => z.elim))
  refine wpAny_pure ?_
  show wpAny _ _ (handedOut v) _ _ _
  rw [handedOut_of hv.1]
  exact wpAny_pure hv.2
end
end Mine
end

-- part W8
section
open PySem PySem.W PyProof.Rows PySem.SeqAt
set_option Elab.async false
set_option linter.unusedVariables false
set_option maxRecDepth 100000
namespace Mine

theorem canon_tup : (Manifest.canonical "tuple.__getattribute__" != "object.__getattribute__") = false := by decide +kernel

section
variable {prog : Program} {w : World} {A : Around} {E : Value → Shared → Prop} {s : Shared} {K : Frag} {x C : Addr} {items : Array Value} {n : Nat} {dx : Addr}
theorem method_sub {name : Str} {f : Addr} {pl : Sem Bool} {Q : Value × List Value → Shared → Prop} (X : K.In s.heap) (hx : s.heap.get? x = some { cls := .ref C, dict := some dx, data := .seq items n }) (hdx : s.heap.get? dx = some { cls := .type "dict", data := .dict #[] })
    (hga : findIn K (.ref C) "__getattribute__" = some (some (.builtin "tuple.__getattribute__"))) (hk : findIn K (.ref C) "__getattr__" = some none)
    (hf : findIn K (.ref C) name = some (some (.ref f))) (ht : typeIn K (.ref f) = some (.type "function")) (h : Q (.ref f, [.ref x]) s) :
    wpAny (model prog w) A (getMethod (.ref x) name pl) Q E s := by
  have I : InstAt s.heap x { cls := .ref C, dict := some dx, data := .seq items n } C (some { cls := .type "dict", data := .dict #[] }) := ⟨hx, rfl, rfl, hdx⟩
  unfold getMethod specialOf
  refine wpAny_bind (wpAny_bind (I.type.here ((looks_findIn X hga).here ?_)))
  dsimp only
  rw [canon_tup, if_neg (by decide)]
  refine wpAny_bind (wpAny_bind (I.type.here ((looks_findIn X hk).here ?_)))
  refine wpAny_bind (wpAny_bind (I.type.here ((looks_findIn X hf).here (wpAny_bind ((looks_typeIn X ht).here ?_)))))
  rw [if_neg (by decide +kernel)]
  refine wpAny_bind (wpAny_loadPart I.at_ ?_)
  refine wpAny_bind (wpAny_bind (wpAny_loadPart hdx ?_))
  rw [nsLook_of (r := none) (by rfl)]
  refine wpAny_pure ?_
  exact wpAny_bind (wpAny_rule (wpAny_pure h))

theorem method_typeX {T : String} {name : Str} {v : Value} {pl : Sem Bool} {Q : Value × List Value → Shared → Prop} (X : K.In s.heap) (ht : typeOf (.type T) = pure (.type "type")) (hs : Manifest.isStub T = false)
    (e : findCls K (.type T) (.type "type") name = some (.val v)) (hh : handedIn v = true) (h : Q (v, []) { s with toks := s.toks + 1 }) : wpAny (model prog w) A (getMethod (.type T) name pl) Q E s := by
  have hstub : opaqueClassAbove (.type T) = pure none := by unfold opaqueClassAbove; dsimp only; rw [hs]; rfl
  have L0 : Looks (model prog w) s.heap (typeOf (.type T)) (.type "type") := Looks.of_pure ht
  have hg : findIn K (.type "type") "__getattribute__" = some (some (.builtin "type.__getattribute__")) := type_tga
  unfold getMethod specialOf
  refine wpAny_bind (wpAny_bind (L0.here ((looks_findIn X hg).here ?_)))
  dsimp only
  rw [if_pos canon_tga]
  refine wpAny_bind (wpAny_mono (Q := fun v => Q (v, [])) (E := E) ?_ (fun _ _ z => wpAny_pure z) fun _ _ z => z)
  have LO : Looks (model prog w) s.heap (opaqueClassAbove (.type T)) none := Looks.of_pure hstub
  refine cls_open X LO L0 hg (looks_hook X (r := none) (by rfl)) (by show subIn K _ _ = _; rfl) e
    (wpAny_pure (by show wpAny _ _ (handedOut v) _ _ _; rw [handedOut_of hh]; exact wpAny_pure h))
end

theorem evalArgs_any {M : Model} {A : Around} {E : Value → Shared → Prop} {s : Shared} {f : Value} {trees : List (Bool × Sem Value)} {Q : Args → Shared → Prop} (hp : trees.any (·.1) = false)
    (h : wpAny M A (spliced trees) (fun vs s' => Q ⟨vs, []⟩ s') E s) : wpAny M A (evalArgs f true trees []) Q E s := by
  cases trees with
  | nil =>
    unfold evalArgs
    show wpAny M A (spliced [] >>= _) Q E s
    refine wpAny_bind (wpAny_mono h (fun vs s' h' => ?_) fun _ _ x => x)
    refine wpAny_bind (wpAny_pure ?_)
    refine wpAny_holding ?_
    exact wpAny_bind (wpAny_pure (wpAny_bind (wpAny_pure (wpAny_pure h'))))
  | cons p r =>
    obtain ⟨b, x⟩ := p
    cases b with
    | true => simp at hp
    | false => exact Calls.evalArgs_plain h

section
variable {c : Cx} {m mc : LM} {G : Heap → Prop} {K : AK}

def kept (K : Frag) : Value → Bool
  | .builtin _ => true
  | .ref a => fnIn K a
  | _ => false
theorem callWith_kept {pos : Pos} {f : Value} {first : List Value} {args : List (Bool × Sem Value)} {M : Model} {A : Around} {s : Shared} {Q : Value → Shared → Prop} {K : Frag} (hk : kept K f = true) (hp : args.any (·.1) = false)
    (h : wpAny M A (spliced args) (fun vs s1 => K.In s1.heap ∧ wpAny M A (call f (first ++ vs) []) Q NoE s1) NoE s) : wpAny M A (callWith pos f first args []) Q NoE s := by
  cases f with
  | builtin id => exact Calls.callWith_builtin hp (evalArgs_any hp (wpAny_mono h (fun vs s1 h1 => h1.2) fun _ _ x => x))
  | ref a =>
    simp only [kept, fnIn] at hk
    split at hk
    · rename_i oc od fd osl ho
      exact Calls.callWith_function (o := ⟨oc, od, .func fd, osl⟩) (fd := fd) (evalArgs_any hp (wpAny_mono h (fun vs s1 h1 => ⟨⟨h1.1 _ _ ho, rfl⟩, h1.2⟩) fun _ _ x => x))
    · cases hk
  | _ => cases hk

/-- a call of a method: f is what the name gives, self tells whether the object goes ahead -/
theorem EV.methX {o : Expr} {name : Str} {apos pos : Pos} {args : List Expr} (f : Value) (self : Bool) (pl : Sem Bool)
    (he : eval (.Call (.Attribute o name apos) args [] pos) c.env = (do
      let ov ← eval o c.env
      standAt apos.atName
      let (f, first) ← holding [ov] (getMethod ov name pl)
      callWith pos f first (backTo pos (starEach args c.env)) (backToKw pos (keywordEach [] c.env))))
    (hk : kept c.K f = true) (hp : (backTo pos (starEach args c.env)).any (·.1) = false)
    (h : EV c m mc G o fun a G1 => (∀ v s Q, At c m mc G1 s → VR c.V s.heap a v → (∀ s', Stp [] s s' → Q (f, if self then [v] else []) s') → wpAny c.M c.A (getMethod v name pl) Q NoE s) ∧
      EA c m mc G1 pos args fun as G2 => OF c m mc G2 f (if self then a :: as else as) K) : EV c m mc G (.Call (.Attribute o name apos) args [] pos) K := ⟨fun s x => by
  refine methodCall_KW (pl := pl) (wpAny_imp (h.run s x) ?_) he
  rintro v s1 ⟨a, G1, ra, x1, y1, hm, h1⟩
  refine hm v s1 _ x1 ra fun s2 y2 => ?_
  refine callWith_kept hk hp (wpAny_imp (h1.run s2 (x1.pure y2)) ?_)
  rintro vs s3 ⟨as, G2, rs, x3, y3, h3⟩
  refine ⟨x3.gd.k, ?_⟩
  have ra3 : VR c.V s3.heap a v := (ra.step (y2.mono (by simp))).step y3
  have fin : ∀ b G3 v' s4, VR c.V (Shared.heap s4) b v' → At c m mc G3 s4 → Stp c.D s3 s4 → K b G3 → ∃ a G', VR c.V s4.heap a v' ∧ At c m mc G' s4 ∧ Stp c.D s s4 ∧ K a G' := fun b G3 v' s4 r z y k => ⟨b, G3, r, z, y1.trans ((y2.mono (by simp)).trans (y3.trans y)), k⟩
  cases self with
  | true =>
    refine wpAny_imp (h3.run (v :: vs) s3 x3 ⟨v, vs, rfl, ra3, rs⟩) ?_
    rintro u s4 ⟨b, G3, rb, x4, y4, h4⟩
    exact fin b G3 u s4 rb x4 y4 h4
  | false =>
    refine wpAny_imp (h3.run vs s3 x3 rs) ?_
    rintro u s4 ⟨b, G3, rb, x4, y4, h4⟩
    exact fin b G3 u s4 rb x4 y4 h4⟩

/-- a call of a name that is a built-in class -/
theorem EV.callT {id : Str} {p pos : Pos} {args : List Expr} (T : String) (hf : peek c.K ⟨c.prog, c.w.params⟩ (loadName c.env id) = some (.type T))
    (hd : (id == ("__debug__" : Str)) = false) (hplain : (backTo pos (starEach args c.env)).any (·.1) = false)
    (h : EA c m mc G pos args fun as G1 => OF c m mc G1 (.type T) as K) : EV c m mc G (.Call (.Name id p) args [] pos) K := ⟨fun s x => by
  rw [arm_eval_Call_Name']
  refine wpAny_bind (wpAny_Name ((Looks.of_peek (M := c.M) x.gd.k hf).here ?_) hd)
  refine PySem.callWith_type hplain (evalArgs_any hplain (wpAny_imp (h.run s x) ?_))
  rintro vs s2 ⟨as, G2, rs, x2, y2, h2⟩
  refine wpAny_imp (h2.run vs s2 x2 rs) ?_
  rintro u s3 ⟨b, G3, rb, x3, y3, h3⟩
  exact ⟨b, G3, rb, x3, y2.trans y3, h3⟩⟩

/-- an attribute -/
theorem EV.attr {value : Expr} {name : Str} {pos : Pos} (he : eval (.Attribute value name pos) c.env = (do
      let o ← eval value c.env
      standAt pos.atName
      let r ← holding [o] (getAttr o name true)
      letTemporaryGo value o r
      pure r))
    (h : EV c m mc G value fun a G1 => ∀ v s, At c m mc G1 s → VR c.V s.heap a v → wpAny c.M c.A (getAttr v name true) (fun v s' => ∃ a G', VR c.V s'.heap a v ∧ At c m mc G' s' ∧ Stp c.D s s' ∧ K a G') NoE s) :
    EV c m mc G (.Attribute value name pos) K := ⟨fun s x => by
  rw [he]
  refine wpAny_bind (wpAny_imp (h.run s x) ?_)
  rintro v s1 ⟨a, G1, ra, x1, y1, h1⟩
  refine wpAny_bind (wpAny_standAt (wpAny_bind (wpAny_holding (wpAny_imp (h1 v s1 x1 ra) ?_))))
  rintro r s2 ⟨b, G2, rb, x2, y2, h2⟩
  exact wpAny_bind (wpAny_letTemporaryGo (wpAny_pure ⟨b, G2, rb, x2, y1.trans y2, h2⟩))⟩
end
end Mine
end

-- part Sre0
section
open PySem
set_option Elab.async false
namespace Mine.Re
open PySem.Sre

/-- what stays the same through a match -/
structure Cfg where
  code : Array Nat
  text : Array Nat
  lim : Nat
  lastStart : Nat
  whole : Bool

/-- what turns -/
structure Q where
  start : Nat
  pc : Nat
  pos : Nat
  handed : Nat
  outermost : Bool
  marks : Array (Option Nat)
  lastmark : Int
  lastindex : Int
  frames : List Sre.Frame
  weight : Nat
  answer : Option Bool

def mach (c : Cfg) (q : Q) (sn : Seen) : M :=
  { code := c.code, text := c.text, lim := c.lim, start := q.start, lastStart := c.lastStart, wholeText := c.whole, mustAdvance := false,
    pc := q.pc, pos := q.pos, handed := q.handed, outermost := q.outermost, marks := q.marks, lastmark := q.lastmark, lastindex := q.lastindex,
    loops := #[], inner := none, frames := q.frames, weight := q.weight, answer := q.answer, seen := sn, outcome := none }

theorem runFor_done (b : Nat) {m : M} (h : m.outcome.isSome = true) : M.runFor b m = m := by
  cases b with
  | zero => rfl
  | succ b => show (if m.outcome.isSome = true then m else _) = m; rw [if_pos h]
theorem runFor_add (a b : Nat) (m : M) : M.runFor (a + b) m = M.runFor b (M.runFor a m) := by
  induction a generalizing m with
  | zero => simp [M.runFor]
  | succ a ih =>
    rw [Nat.succ_add]
    by_cases h : m.outcome.isSome = true
    · rw [runFor_done _ h, runFor_done _ h, runFor_done _ h]
    · show (if m.outcome.isSome = true then m else M.runFor (a + b) m.step) = M.runFor b (if m.outcome.isSome = true then m else M.runFor a m.step)
      rw [if_neg h, if_neg h]; exact ih _

def Goes (c : Cfg) (k : Nat) (q q' : Q) : Prop := ∀ sn, ∃ n, n ≤ k ∧ ∃ sn', M.runFor n (mach c q sn) = mach c q' sn'
theorem Goes.refl (c : Cfg) (q : Q) : Goes c 0 q q := fun sn => ⟨0, Nat.le_refl _, sn, rfl⟩
theorem Goes.trans {c : Cfg} {k k' : Nat} {q q' q'' : Q} (x : Goes c k q q') (y : Goes c k' q' q'') : Goes c (k + k') q q'' := fun sn => by
  obtain ⟨n, hn, sn', e⟩ := x sn
  obtain ⟨n', hn', sn'', e'⟩ := y sn'
  exact ⟨n + n', by omega, sn'', by rw [runFor_add, e, e']⟩
theorem Goes.mono {c : Cfg} {k k' : Nat} {q q' : Q} (x : Goes c k q q') (h : k ≤ k') : Goes c k' q q' := fun sn => by
  obtain ⟨n, hn, r⟩ := x sn
  exact ⟨n, Nat.le_trans hn h, r⟩
/-- it comes, in at most N steps, to a state of which P holds -/
def To (c : Cfg) (N : Nat) (q : Q) (P : Q → Prop) : Prop := ∃ k q', k ≤ N ∧ Goes c k q q' ∧ P q'
theorem To.step {c : Cfg} {N : Nat} {q q' : Q} {P : Q → Prop} (x : Goes c 1 q q') (y : To c N q' P) : To c (N + 1) q P :=
  let ⟨k, q'', hk, g, p⟩ := y
  ⟨1 + k, q'', by omega, x.trans g, p⟩
theorem To.here {c : Cfg} {N : Nat} {q : Q} {P : Q → Prop} (p : P q) : To c N q P := ⟨0, q, Nat.zero_le _, .refl c q, p⟩
theorem To.trans {c : Cfg} {N N' : Nat} {q : Q} {P P' : Q → Prop} (x : To c N q P) (y : ∀ q', P q' → To c N' q' P') : To c (N + N') q P' :=
  let ⟨k, q', hk, g, p⟩ := x
  let ⟨k', q'', hk', g', p'⟩ := y q' p
  ⟨k + k', q'', by omega, g.trans g', p'⟩
theorem To.mono {c : Cfg} {N N' : Nat} {q : Q} {P : Q → Prop} (x : To c N q P) (h : N ≤ N') : To c N' q P :=
  let ⟨k, q', hk, g, p⟩ := x
  ⟨k, q', Nat.le_trans hk h, g, p⟩
theorem Goes.one {c : Cfg} {q q' : Q} (h : ∀ sn, ∃ sn', (mach c q sn).step = mach c q' sn') : Goes c 1 q q' := fun sn => by
  obtain ⟨sn', e⟩ := h sn
  refine ⟨1, Nat.le_refl _, sn', ?_⟩
  show (if (mach c q sn).outcome.isSome = true then mach c q sn else M.runFor 0 (mach c q sn).step) = _
  rw [if_neg (by simp [mach])]
  exact e
/-- the head of a step: no answer is under way -/
theorem step_exec {c : Cfg} {q : Q} {sn : Seen} (ha : q.answer = none) (hp : q.pc < c.code.size) : (mach c q sn).step = (mach c q sn).exec := by
  unfold M.step
  simp only [mach, ha, Option.isSome_none, Bool.false_eq_true, if_false]
  rw [if_pos hp]
section
variable {c : Cfg} {q : Q}
/-- LITERAL, met -/
theorem g_lit {x : Nat} {p : Nat} (ha : q.answer = none) (hp : p < c.code.size) (ho : c.code.getD p 0 = 16) (hx : c.code.getD (p + 1) 0 = x) (hl : q.pos < c.lim) (hc : c.text.getD q.pos 0 = x) (hq : q.pc = p := by rfl) :
    Goes c 1 q { q with pc := p + 2, pos := q.pos + 1 } := Goes.one fun sn => by
  subst hq
  rw [step_exec ha hp]
  refine ⟨sn.add 16, ?_⟩
  have h1 : ¬ (q.pos ≥ c.lim) := by omega
  simp only [M.exec, M.word, mach, Nat.add_zero, ho, accepts, itemWidth, hx, hc]
  simp [ops, h1]
/-- LITERAL, not met -/
theorem g_litNo {x : Nat} {p : Nat} (ha : q.answer = none) (hp : p < c.code.size) (ho : c.code.getD p 0 = 16) (hx : c.code.getD (p + 1) 0 = x) (hc : q.pos < c.lim → c.text.getD q.pos 0 ≠ x) (hq : q.pc = p := by rfl) :
    Goes c 1 q { q with answer := some false } := Goes.one fun sn => by
  subst hq
  rw [step_exec ha hp]
  refine ⟨sn.add 16, ?_⟩
  by_cases h1 : q.pos ≥ c.lim
  · simp only [M.exec, M.word, mach, Nat.add_zero, ho]
    simp [ops, h1, M.say]
  · have h2 : (c.text.getD q.pos 0 == x) = false := beq_eq_false_iff_ne.mpr (hc (by omega))
    simp only [M.exec, M.word, mach, Nat.add_zero, ho, accepts, hx, h2]
    simp [ops, h1, M.say]
theorem g_mark {i : Nat} {p : Nat} (ha : q.answer = none) (hp : p < c.code.size) (ho : c.code.getD p 0 = 17) (hi : c.code.getD (p + 1) 0 = i) (hl : (i : Int) ≤ q.lastmark + 1) (hq : q.pc = p := by rfl) :
    Goes c 1 q { q with pc := p + 2, marks := q.marks.setIfInBounds i (some q.pos), lastmark := max q.lastmark i, lastindex := if i % 2 == 1 then (i / 2 + 1 : Nat) else q.lastindex } := Goes.one fun sn => by
  subst hq
  rw [step_exec ha hp]
  refine ⟨sn.add 17, ?_⟩
  simp only [M.exec, M.word, mach, Nat.add_zero, ho, hi, M.mark, if_pos hl]
  simp [ops]
theorem g_jump {d : Nat} {p : Nat} (ha : q.answer = none) (hp : p < c.code.size) (ho : c.code.getD p 0 = 15) (hd : c.code.getD (p + 1) 0 = d) (hq : q.pc = p := by rfl) :
    Goes c 1 q { q with pc := p + 1 + d } := Goes.one fun sn => by
  subst hq
  rw [step_exec ha hp]
  refine ⟨sn.add 15, ?_⟩
  simp only [M.exec, M.word, mach, Nat.add_zero, ho, hd]
  simp [ops]
theorem g_success {p : Nat} (ha : q.answer = none) (hp : p < c.code.size) (ho : c.code.getD p 0 = 1) (hw : c.whole = false) (hq : q.pc = p := by rfl) :
    Goes c 1 q { q with handed := q.pos, answer := some true } := Goes.one fun sn => by
  subst hq
  rw [step_exec ha hp]
  refine ⟨sn.add 1, ?_⟩
  simp only [M.exec, M.word, mach, Nat.add_zero, ho]
  simp [ops, hw, M.say]
/-- the frame that a branch lays -/
theorem g_branch {alt : Nat} {p : Nat} (ha : q.answer = none) (hp : p < c.code.size) (ho : c.code.getD p 0 = 7) (he : alt = p + 1) (hz : c.code.getD alt 0 ≠ 0) (hw : q.weight < 1000) (hq : q.pc = p := by rfl) :
    Goes c 1 q { q with frames := { wait := .nextBranch, pc := alt, pos := q.pos, outermost := q.outermost, kept := { lastmark := q.lastmark, lastindex := q.lastindex } } :: q.frames, weight := q.weight + 1, pc := alt + 1, handed := q.pos } := Goes.one fun sn => by
  subst he
  subst hq
  rw [step_exec ha hp]
  refine ⟨sn.add 7, ?_⟩
  have hw' : ¬ (16777216 < q.weight + 1) := by omega
  have hz' : ¬ ((c.code.getD (q.pc + 1) 0 == 0) = true) := by simpa using hz
  simp only [M.exec, M.word, mach, Nat.add_zero, ho, M.alternative, if_neg hz']
  simp [ops, M.attempt, M.frame, M.keep, hw']
/-- an answer «no» meets the frame of a branch: the next way -/
theorem g_nextBranch {rest : List Sre.Frame} {fpc fpos alt : Nat} {fo : Bool} {flm fli : Int} (ha : q.answer = some false)
    (hf : q.frames = { wait := .nextBranch, pc := fpc, pos := fpos, outermost := fo, kept := { lastmark := flm, lastindex := fli } } :: rest)
    (he : alt = fpc + c.code.getD fpc 0) (hz : c.code.getD alt 0 ≠ 0) (hw : q.weight < 1000) (h1 : 1 ≤ q.weight) :
    Goes c 1 q { q with answer := none, frames := { wait := .nextBranch, pc := alt, pos := fpos, outermost := fo, kept := { lastmark := flm, lastindex := fli } } :: rest, pc := alt + 1, pos := fpos, handed := fpos, outermost := fo, lastmark := flm, lastindex := fli } := Goes.one fun sn => by
  subst he
  refine ⟨sn, ?_⟩
  have hw' : ¬ (16777216 < q.weight - 1 + 1) := by omega
  have hw2 : q.weight - 1 + 1 = q.weight := by omega
  have hz' : ¬ ((c.code.getD (fpc + c.code.getD fpc 0) 0 == 0) = true) := by simpa using hz
  unfold M.step
  simp only [mach, ha, hf, Option.isSome_none, Bool.false_eq_true, if_false]
  simp only [M.resume, M.putBack, M.alternative, if_neg hz', Bool.false_eq_true, if_false]
  have hw3 : ¬ (16777216 < q.weight) := by omega
  simp [M.attempt, M.frame, hw2, hw3]
/-- the ways are at an end -/
theorem g_lastBranch {rest : List Sre.Frame} {fpc fpos : Nat} {fo : Bool} {flm fli : Int} (ha : q.answer = some false)
    (hf : q.frames = { wait := .nextBranch, pc := fpc, pos := fpos, outermost := fo, kept := { lastmark := flm, lastindex := fli } } :: rest)
    (hz : c.code.getD (fpc + c.code.getD fpc 0) 0 = 0) :
    Goes c 1 q { q with answer := some false, frames := rest, weight := q.weight - 1, pc := fpc, pos := fpos, outermost := fo, lastmark := flm, lastindex := fli } := Goes.one fun sn => by
  refine ⟨sn, ?_⟩
  have hz' : ((c.code.getD (fpc + c.code.getD fpc 0) 0 == 0) = true) := by simpa using hz
  unfold M.step
  simp only [mach, ha, hf, Option.isSome_none, Bool.false_eq_true, if_false]
  simp only [M.resume, M.putBack, M.alternative, if_pos hz', Bool.false_eq_true, if_false]
  simp [M.say]
/-- an answer «yes» goes through the frames of branches and runs -/
theorem g_yes {f : Sre.Frame} {rest : List Sre.Frame} (ha : q.answer = some true) (hf : q.frames = f :: rest) (hw : f.wait = .nextBranch ∨ f.wait = .giveBack ∨ f.wait = .nextStart) :
    Goes c 1 q { q with frames := rest, weight := q.weight - (1 + f.kept.marks.size), pc := f.pc, pos := f.pos, outermost := f.outermost } := Goes.one fun sn => by
  refine ⟨sn, ?_⟩
  unfold M.step
  simp only [mach, ha, hf, Option.isSome_none, Bool.false_eq_true, if_false]
  rcases hw with h | h | h <;> simp [M.resume, h, M.say]
/-- a run that gives back nothing more than its least -/
theorem g_noGiveBack {rest : List Sre.Frame} {fpc fpos : Nat} {fo : Bool} {flm fli : Int} {cnt : Int} (ha : q.answer = some false)
    (hf : q.frames = { wait := .giveBack, pc := fpc, pos := fpos, outermost := fo, count := cnt, kept := { lastmark := flm, lastindex := fli } } :: rest)
    (hz : cnt - 1 < (c.code.getD (fpc + 2) 0 : Nat)) :
    Goes c 1 q { q with answer := some false, frames := rest, weight := q.weight - 1, pc := fpc, pos := fpos, outermost := fo, lastmark := flm, lastindex := fli } := Goes.one fun sn => by
  refine ⟨sn, ?_⟩
  unfold M.step
  simp only [mach, ha, hf, Option.isSome_none, Bool.false_eq_true, if_false]
  simp only [M.resume, M.putBack, M.word, if_pos hz, Bool.false_eq_true, if_false]
  simp [M.say]
/-- a greedy run, its frame laid -/
theorem g_run {n : Nat} {p : Nat} (ha : q.answer = none) (hp : p < c.code.size) (ho : c.code.getD p 0 = 24) (hl : c.code.getD (p + 2) 0 = 0)
    (hr : ∀ sn, ∃ sn', Sre.run c.code c.text (p + 4) (min (c.code.getD (p + 3) 0) (c.lim - q.pos)) q.pos 0 sn = .ok (n, sn')) (hle : q.pos ≤ c.lim) (hw : q.weight < 1000) (hq : q.pc = p := by rfl) :
    Goes c 1 q { q with frames := { wait := .giveBack, pc := p, pos := q.pos + n, outermost := q.outermost, count := n, kept := { lastmark := q.lastmark, lastindex := q.lastindex } } :: q.frames, weight := q.weight + 1,
                         pc := p + 1 + c.code.getD (p + 1) 0, pos := q.pos + n, handed := q.pos + n } := Goes.one fun sn => by
  subst hq
  rw [step_exec ha hp]
  obtain ⟨sn', e⟩ := hr ((sn.add 24).add (c.code.getD (q.pc + 4) 0))
  refine ⟨sn', ?_⟩
  have hw' : ¬ (16777216 < q.weight + 1) := by omega
  have h0 : ¬ ((0 : Int) > (c.lim : Int) - (q.pos : Int)) := by omega
  have h1 : ((c.lim : Int) - (q.pos : Int)).toNat = c.lim - q.pos := by omega
  simp only [M.exec, M.word, mach, Nat.add_zero, ho, hl]
  simp only [ops, List.getElem?_toArray, List.getElem?_cons_succ, List.getElem?_cons_zero]
  simp only [Int.ofNat_zero, h0, if_false, h1, Bool.false_eq_true, e]
  simp [M.afterRun, M.attempt, M.frame, M.keep, M.word, hw']
/-- one sign against a class: what it answers, whatever has been seen -/
def Takes (code : Array Nat) (i : Nat) (f : Nat → Bool) : Prop := ∀ x sn, ∃ sn', accepts code i x sn = .ok (f x, sn')
theorem g_in {f : Nat → Bool} {p : Nat} (ht : Takes c.code p f) (ha : q.answer = none) (hp : p < c.code.size) (ho : c.code.getD p 0 = 13) (hl : q.pos < c.lim) (hc : f (c.text.getD q.pos 0) = true) (hq : q.pc = p := by rfl) :
    Goes c 1 q { q with pc := p + 1 + c.code.getD (p + 1) 0, pos := q.pos + 1 } := Goes.one fun sn => by
  subst hq
  rw [step_exec ha hp]
  obtain ⟨sn', e⟩ := ht (c.text.getD q.pos 0) (sn.add 13)
  refine ⟨sn', ?_⟩
  rw [hc] at e
  have h1 : ¬ (q.pos ≥ c.lim) := by omega
  simp only [M.exec, M.word, mach, Nat.add_zero, ho]
  simp only [ops, List.getElem?_toArray, List.getElem?_cons_succ, List.getElem?_cons_zero]
  rw [if_neg h1, e]
  simp only [itemWidth, ho]
  simp [ops]
  omega
theorem run_is {code text : Array Nat} {i : Nat} {f : Nat → Bool} (ht : Takes code i f) : ∀ (k n p found : Nat), k ≤ n → (∀ j, j < k → f (text.getD (p + j) 0) = true) → (k = n ∨ f (text.getD (p + k) 0) = false) → ∀ sn, ∃ sn', Sre.run code text i n p found sn = .ok (found + k, sn')
  | 0, 0, p, found, _, _, _, sn => ⟨sn, rfl⟩
  | 0, n + 1, p, found, _, _, hs, sn => by
    obtain ⟨sn', e⟩ := ht (text.getD p 0) sn
    have : f (text.getD p 0) = false := by simpa using hs
    rw [this] at e
    exact ⟨sn', by simp only [Sre.run, e, bind, Except.bind]; rfl⟩
  | k + 1, n + 1, p, found, hk, hj, hs, sn => by
    obtain ⟨sn', e⟩ := ht (text.getD p 0) sn
    have h0 := hj 0 (by omega)
    rw [Nat.add_zero] at h0
    rw [h0] at e
    obtain ⟨sn'', e2⟩ := run_is ht k n (p + 1) (found + 1) (by omega) (fun j hj' => by have := hj (j + 1) (by omega); rwa [show p + 1 + j = p + (j + 1) by omega]) (by
      rcases hs with h | h
      · left; omega
      · right; rwa [show p + 1 + k = p + (k + 1) by omega]) sn'
    refine ⟨sn'', ?_⟩
    have : found + (k + 1) = found + 1 + k := by omega
    rw [this]
    simp only [Sre.run, e, bind, Except.bind, if_true]
    exact e2
theorem inSet_neg {code : Array Nat} {x i fuel : Nat} {yes : Bool} {sn : Seen} (h0 : code.getD i 0 = 21) : inSet code x (fuel + 1) i yes sn = inSet code x fuel (i + 1) (!yes) (sn.add 21) := by
  rw [inSet]; simp only [Nat.add_zero, h0]; rfl
theorem inSet_litY {code : Array Nat} {x i fuel : Nat} {yes : Bool} {sn : Seen} (h0 : code.getD i 0 = 16) (h1 : code.getD (i + 1) 0 = x) : inSet code x (fuel + 1) i yes sn = .ok (yes, sn.add 16) := by
  rw [inSet]; simp only [Nat.add_zero, h0, h1]
  show (if (x == x) = true then _ else _) = _
  rw [if_pos (beq_self_eq_true x)]
theorem inSet_litN {code : Array Nat} {x i fuel : Nat} {yes : Bool} {sn : Seen} (h0 : code.getD i 0 = 16) (h1 : x ≠ code.getD (i + 1) 0) : inSet code x (fuel + 1) i yes sn = inSet code x fuel (i + 2) yes (sn.add 16) := by
  rw [inSet]; simp only [Nat.add_zero, h0]
  show (if (x == code.getD (i + 1) 0) = true then _ else _) = _
  rw [if_neg (by simpa using h1)]
theorem inSet_fail {code : Array Nat} {x i fuel : Nat} {yes : Bool} {sn : Seen} (h0 : code.getD i 0 = 0) : inSet code x (fuel + 1) i yes sn = .ok (!yes, sn.add 0) := by
  rw [inSet]; simp only [Nat.add_zero, h0]; rfl
theorem inSet_rangeY {code : Array Nat} {x i fuel : Nat} {yes : Bool} {sn : Seen} (h0 : code.getD i 0 = 22) (h1 : code.getD (i + 1) 0 ≤ x) (h2 : x ≤ code.getD (i + 2) 0) : inSet code x (fuel + 1) i yes sn = .ok (yes, sn.add 22) := by
  rw [inSet]; simp only [Nat.add_zero, h0]
  show (if (decide (code.getD (i + 1) 0 ≤ x) && decide (x ≤ code.getD (i + 2) 0)) = true then _ else _) = _
  rw [if_pos (by simp only [Bool.and_eq_true, decide_eq_true_eq]; exact ⟨h1, h2⟩)]
theorem inSet_rangeN {code : Array Nat} {x i fuel : Nat} {yes : Bool} {sn : Seen} (h0 : code.getD i 0 = 22) (h1 : ¬ (code.getD (i + 1) 0 ≤ x ∧ x ≤ code.getD (i + 2) 0)) : inSet code x (fuel + 1) i yes sn = inSet code x fuel (i + 3) yes (sn.add 22) := by
  rw [inSet]; simp only [Nat.add_zero, h0]
  show (if (decide (code.getD (i + 1) 0 ≤ x) && decide (x ≤ code.getD (i + 2) 0)) = true then _ else _) = _
  rw [if_neg (by simp only [Bool.and_eq_true, decide_eq_true_eq]; exact h1)]
theorem inSet_range {code : Array Nat} {x i fuel a b : Nat} {yes : Bool} (h0 : code.getD i 0 = 22) (h1 : code.getD (i + 1) 0 = a) (h2 : code.getD (i + 2) 0 = b) (h3 : code.getD (i + 3) 0 = 0) :
    ∀ sn, ∃ sn', inSet code x (fuel + 2) i yes sn = .ok (if a ≤ x ∧ x ≤ b then yes else !yes, sn') := fun sn => by
  by_cases h : a ≤ x ∧ x ≤ b
  · exact ⟨_, by rw [inSet_rangeY h0 (h1 ▸ h.1) (h2 ▸ h.2), if_pos h]⟩
  · exact ⟨_, by rw [inSet_rangeN h0 (by rw [h1, h2]; exact h), inSet_fail h3, if_neg h]⟩
theorem inSet_neg2 {code : Array Nat} {x i fuel a b : Nat} (h0 : code.getD i 0 = 21) (h1 : code.getD (i + 1) 0 = 16) (h2 : code.getD (i + 2) 0 = a) (h3 : code.getD (i + 3) 0 = 16) (h4 : code.getD (i + 4) 0 = b) (h5 : code.getD (i + 5) 0 = 0) :
    ∀ sn, ∃ sn', inSet code x (fuel + 4) i true sn = .ok (decide (x ≠ a ∧ x ≠ b), sn') := fun sn => by
  rw [inSet_neg h0]
  by_cases ha : x = a
  · exact ⟨_, by rw [inSet_litY h1 (h2.trans ha.symm), decide_eq_false (fun h => h.1 ha)]; rfl⟩
  · rw [inSet_litN h1 (by rw [show i + 1 + 1 = i + 2 from rfl, h2]; exact ha)]
    by_cases hb : x = b
    · exact ⟨_, by rw [inSet_litY (i := i + 1 + 2) h3 (h4.trans hb.symm), decide_eq_false (fun h => h.2 hb)]; rfl⟩
    · rw [inSet_litN (i := i + 1 + 2) h3 (by rw [show i + 1 + 2 + 1 = i + 4 from rfl, h4]; exact hb)]
      exact ⟨_, by rw [inSet_fail (i := i + 1 + 2 + 2) h5, decide_eq_true (And.intro ha hb)]; rfl⟩
theorem takes_range {code : Array Nat} {i a b : Nat} (hs : 2 ≤ code.size) (ho : code.getD i 0 = 13) (h0 : code.getD (i + 2) 0 = 22) (h1 : code.getD (i + 3) 0 = a) (h2 : code.getD (i + 4) 0 = b) (h3 : code.getD (i + 5) 0 = 0) :
    Takes code i fun x => decide (a ≤ x ∧ x ≤ b) := fun x sn => by
  obtain ⟨n, e⟩ : ∃ n, code.size = n + 2 := ⟨code.size - 2, by omega⟩
  obtain ⟨sn', q⟩ := inSet_range (code := code) (x := x) (i := i + 2) (fuel := n) (yes := true) h0 h1 h2 h3 sn
  refine ⟨sn', ?_⟩
  simp only [accepts, ho, e]
  simp only [ops, List.getElem?_toArray, List.getElem?_cons_succ, List.getElem?_cons_zero, q]
  by_cases h : a ≤ x ∧ x ≤ b <;> simp [h]
theorem takes_neg2 {code : Array Nat} {i a b : Nat} (hs : 4 ≤ code.size) (ho : code.getD i 0 = 13) (h0 : code.getD (i + 2) 0 = 21) (h1 : code.getD (i + 3) 0 = 16) (h2 : code.getD (i + 4) 0 = a) (h3 : code.getD (i + 5) 0 = 16) (h4 : code.getD (i + 6) 0 = b) (h5 : code.getD (i + 7) 0 = 0) :
    Takes code i fun x => decide (x ≠ a ∧ x ≠ b) := fun x sn => by
  obtain ⟨n, e⟩ : ∃ n, code.size = n + 4 := ⟨code.size - 4, by omega⟩
  obtain ⟨sn', q⟩ := inSet_neg2 (code := code) (x := x) (i := i + 2) (fuel := n) h0 h1 h2 h3 h4 h5 sn
  refine ⟨sn', ?_⟩
  simp only [accepts, ho, e]
  simp only [ops, List.getElem?_toArray, List.getElem?_cons_succ, List.getElem?_cons_zero, q]
end
end Mine.Re
end

-- part Codes
section
open PySem
set_option Elab.async false
set_option maxRecDepth 100000
namespace Mine
def listInts : PySem.Expr → List Nat
  | .List es _ => es.filterMap fun e => match e with | .Constant (.int i) _ _ => some i.toNat | _ => none
  | _ => []
def codeOf (n : Nat) : Array Nat := match PySem.Challenge.pw_ax6040_01.main.body[n]? with
  | some (.Assign _ (.Call _ (_ :: _ :: l :: _) _ _) _) => (listInts l).toArray
  | _ => #[]
def zwCode : Array Nat := codeOf 3
def opCode : Array Nat := codeOf 8
def clCode : Array Nat := codeOf 9
theorem zw_size : zwCode.size = 232 := by decide +kernel
theorem op_size : opCode.size = 72 := by decide +kernel
theorem cl_size : clCode.size = 46 := by decide +kernel
theorem zw_9 : zwCode.getD 9 0 = 16 := by decide +kernel
theorem zw_9b : zwCode.getD 9 0 = 16 := by rfl
end Mine
end

-- part Sre1
section
open PySem
set_option Elab.async false
set_option maxRecDepth 100000
namespace Mine
theorem z9 : zwCode.getD 9 0 = 16 := by decide +kernel
theorem z10 : zwCode.getD 10 0 = 27 := by decide +kernel
theorem z11 : zwCode.getD 11 0 = 7 := by decide +kernel
theorem z12 : zwCode.getD 12 0 = 33 := by decide +kernel
theorem z13 : zwCode.getD 13 0 = 16 := by decide +kernel
theorem z14 : zwCode.getD 14 0 = 91 := by decide +kernel
theorem z15 : zwCode.getD 15 0 = 24 := by decide +kernel
theorem z16 : zwCode.getD 16 0 = 10 := by decide +kernel
theorem z17 : zwCode.getD 17 0 = 0 := by decide +kernel
theorem z18 : zwCode.getD 18 0 = 4294967295 := by decide +kernel
theorem z19 : zwCode.getD 19 0 = 13 := by decide +kernel
theorem z20 : zwCode.getD 20 0 = 5 := by decide +kernel
theorem z21 : zwCode.getD 21 0 = 22 := by decide +kernel
theorem z22 : zwCode.getD 22 0 = 48 := by decide +kernel
theorem z23 : zwCode.getD 23 0 = 63 := by decide +kernel
theorem z24 : zwCode.getD 24 0 = 0 := by decide +kernel
theorem z25 : zwCode.getD 25 0 = 1 := by decide +kernel
theorem z26 : zwCode.getD 26 0 = 24 := by decide +kernel
theorem z27 : zwCode.getD 27 0 = 10 := by decide +kernel
theorem z28 : zwCode.getD 28 0 = 0 := by decide +kernel
theorem z29 : zwCode.getD 29 0 = 4294967295 := by decide +kernel
theorem z30 : zwCode.getD 30 0 = 13 := by decide +kernel
theorem z31 : zwCode.getD 31 0 = 5 := by decide +kernel
theorem z32 : zwCode.getD 32 0 = 22 := by decide +kernel
theorem z33 : zwCode.getD 33 0 = 32 := by decide +kernel
theorem z34 : zwCode.getD 34 0 = 47 := by decide +kernel
theorem z35 : zwCode.getD 35 0 = 0 := by decide +kernel
theorem z36 : zwCode.getD 36 0 = 1 := by decide +kernel
theorem z37 : zwCode.getD 37 0 = 13 := by decide +kernel
theorem z38 : zwCode.getD 38 0 = 5 := by decide +kernel
theorem z39 : zwCode.getD 39 0 = 22 := by decide +kernel
theorem z40 : zwCode.getD 40 0 = 64 := by decide +kernel
theorem z41 : zwCode.getD 41 0 = 126 := by decide +kernel
theorem z42 : zwCode.getD 42 0 = 0 := by decide +kernel
theorem z43 : zwCode.getD 43 0 = 15 := by decide +kernel
theorem z44 : zwCode.getD 44 0 = 187 := by decide +kernel
theorem z45 : zwCode.getD 45 0 = 32 := by decide +kernel
theorem z46 : zwCode.getD 46 0 = 16 := by decide +kernel
theorem z47 : zwCode.getD 47 0 = 93 := by decide +kernel
theorem z48 : zwCode.getD 48 0 = 24 := by decide +kernel
theorem z49 : zwCode.getD 49 0 = 12 := by decide +kernel
theorem z50 : zwCode.getD 50 0 = 0 := by decide +kernel
theorem z51 : zwCode.getD 51 0 = 4294967295 := by decide +kernel
theorem z52 : zwCode.getD 52 0 = 13 := by decide +kernel
theorem z53 : zwCode.getD 53 0 = 7 := by decide +kernel
theorem z54 : zwCode.getD 54 0 = 21 := by decide +kernel
theorem z55 : zwCode.getD 55 0 = 16 := by decide +kernel
theorem z56 : zwCode.getD 56 0 = 7 := by decide +kernel
theorem z57 : zwCode.getD 57 0 = 16 := by decide +kernel
theorem z58 : zwCode.getD 58 0 = 27 := by decide +kernel
theorem z59 : zwCode.getD 59 0 = 0 := by decide +kernel
theorem z60 : zwCode.getD 60 0 = 1 := by decide +kernel
theorem z61 : zwCode.getD 61 0 = 7 := by decide +kernel
theorem z62 : zwCode.getD 62 0 = 5 := by decide +kernel
theorem z63 : zwCode.getD 63 0 = 16 := by decide +kernel
theorem z64 : zwCode.getD 64 0 = 7 := by decide +kernel
theorem z65 : zwCode.getD 65 0 = 15 := by decide +kernel
theorem z66 : zwCode.getD 66 0 = 9 := by decide +kernel
theorem z67 : zwCode.getD 67 0 = 7 := by decide +kernel
theorem z68 : zwCode.getD 68 0 = 16 := by decide +kernel
theorem z69 : zwCode.getD 69 0 = 27 := by decide +kernel
theorem z70 : zwCode.getD 70 0 = 16 := by decide +kernel
theorem z71 : zwCode.getD 71 0 = 92 := by decide +kernel
theorem z72 : zwCode.getD 72 0 = 15 := by decide +kernel
theorem z73 : zwCode.getD 73 0 = 2 := by decide +kernel
theorem z74 : zwCode.getD 74 0 = 0 := by decide +kernel
theorem z75 : zwCode.getD 75 0 = 15 := by decide +kernel
theorem z76 : zwCode.getD 76 0 = 155 := by decide +kernel
theorem z231 : zwCode.getD 231 0 = 1 := by decide +kernel
theorem c17 : clCode.getD 17 0 = 16 := by decide +kernel
theorem c18 : clCode.getD 18 0 = 27 := by decide +kernel
theorem c19 : clCode.getD 19 0 = 16 := by decide +kernel
theorem c20 : clCode.getD 20 0 = 93 := by decide +kernel
theorem c21 : clCode.getD 21 0 = 16 := by decide +kernel
theorem c22 : clCode.getD 22 0 = 56 := by decide +kernel
theorem c23 : clCode.getD 23 0 = 16 := by decide +kernel
theorem c24 : clCode.getD 24 0 = 59 := by decide +kernel
theorem c25 : clCode.getD 25 0 = 16 := by decide +kernel
theorem c26 : clCode.getD 26 0 = 59 := by decide +kernel
theorem c27 : clCode.getD 27 0 = 17 := by decide +kernel
theorem c28 : clCode.getD 28 0 = 0 := by decide +kernel
theorem c29 : clCode.getD 29 0 = 7 := by decide +kernel
theorem c30 : clCode.getD 30 0 = 5 := by decide +kernel
theorem c31 : clCode.getD 31 0 = 16 := by decide +kernel
theorem c32 : clCode.getD 32 0 = 7 := by decide +kernel
theorem c33 : clCode.getD 33 0 = 15 := by decide +kernel
theorem c34 : clCode.getD 34 0 = 9 := by decide +kernel
theorem c35 : clCode.getD 35 0 = 7 := by decide +kernel
theorem c36 : clCode.getD 36 0 = 16 := by decide +kernel
theorem c37 : clCode.getD 37 0 = 27 := by decide +kernel
theorem c38 : clCode.getD 38 0 = 16 := by decide +kernel
theorem c39 : clCode.getD 39 0 = 92 := by decide +kernel
theorem c40 : clCode.getD 40 0 = 15 := by decide +kernel
theorem c41 : clCode.getD 41 0 = 2 := by decide +kernel
theorem c42 : clCode.getD 42 0 = 0 := by decide +kernel
theorem c43 : clCode.getD 43 0 = 17 := by decide +kernel
theorem c44 : clCode.getD 44 0 = 1 := by decide +kernel
theorem c45 : clCode.getD 45 0 = 1 := by decide +kernel

end Mine
namespace Mine.Re
open PySem.Sre
theorem zlt {n : Nat} (h : n < 232) : n < zwCode.size := by rw [zw_size]; exact h
theorem clt {n : Nat} (h : n < 46) : n < clCode.size := by rw [cl_size]; exact h
def zcfg (text : Array Nat) (lim : Nat) : Cfg := ⟨zwCode, text, lim, 0, false⟩
def q0 (body i : Nat) (marks : Array (Option Nat)) : Q := ⟨i, body, i, i, true, marks, -1, -1, [], 0, none⟩
/-- the answer is «yes», nothing waits -/
structure Yes (st e : Nat) (mks : Array (Option Nat)) (lm li : Int) (q : Q) : Prop where
  ans : q.answer = some true
  fr : q.frames = []
  st : q.start = st
  e : q.handed = e
  mks : q.marks = mks
  lm : q.lastmark = lm
  li : q.lastindex = li
theorem takes19 : Takes zwCode 19 fun x => decide (48 ≤ x ∧ x ≤ 63) := takes_range (by rw [zw_size]; decide) z19 z21 z22 z23 z24
theorem takes30 : Takes zwCode 30 fun x => decide (32 ≤ x ∧ x ≤ 47) := takes_range (by rw [zw_size]; decide) z30 z32 z33 z34 z35
theorem takes37 : Takes zwCode 37 fun x => decide (64 ≤ x ∧ x ≤ 126) := takes_range (by rw [zw_size]; decide) z37 z39 z40 z41 z42
theorem takes52 : Takes zwCode 52 fun x => decide (x ≠ 7 ∧ x ≠ 27) := takes_neg2 (by rw [zw_size]; decide) z52 z54 z55 z56 z57 z58 z59

/-- a control sequence: ESC [ n signs of 0..?, one of @..~ -/
theorem zw_csi {text : Array Nat} {lim i n : Nat} (hb : lim ≤ 4294967295) (h0 : text.getD i 0 = 27) (h1 : text.getD (i + 1) 0 = 91) (hj : ∀ j, j < n → 48 ≤ text.getD (i + 2 + j) 0 ∧ text.getD (i + 2 + j) 0 ≤ 63)
    (hz : 64 ≤ text.getD (i + 2 + n) 0 ∧ text.getD (i + 2 + n) 0 ≤ 126) (hl : i + 2 + n < lim) :
    To (zcfg text lim) 60 (q0 9 i #[]) (Yes i (i + 2 + n + 1) #[] (-1) (-1)) := by
  refine To.step (g_lit (x := 27) rfl (zlt (by decide)) z9 z10 (by show i < lim; omega) h0) ?_
  try dsimp only [q0]
  refine To.step (g_branch (alt := 12) rfl (zlt (by decide)) z11 rfl (by show zwCode.getD 12 0 ≠ 0; rw [z12]; decide) (by show 0 < 1000; decide)) ?_
  try dsimp only [q0]
  refine To.step (g_lit (x := 91) rfl (zlt (by decide)) z13 z14 (by show i + 1 < lim; omega) h1) ?_
  try dsimp only [q0]
  refine To.step (g_run (n := n) rfl (zlt (by decide)) z15 z17 (fun sn => ?_) (by show i + 1 + 1 ≤ lim; omega) (by show 0 + 1 < 1000; decide)) ?_
  · have := run_is takes19 n (min (zwCode.getD 18 0) (lim - (i + 2))) (i + 2) 0 (by rw [z18]; omega) (fun j h => decide_eq_true (hj j h)) (.inr (decide_eq_false (by omega))) sn
    rw [Nat.zero_add] at this; exact this
  rw [show (zcfg text lim).code.getD (15 + 1) 0 = 10 from z16]
  try dsimp only
  refine To.step (g_run (n := 0) rfl (zlt (by decide)) z26 z28 (fun sn => ?_) (by show i + 1 + 1 + n ≤ lim; omega) (by show 0 + 1 + 1 < 1000; decide)) ?_
  · exact run_is takes30 0 (min (zwCode.getD 29 0) (lim - (i + 2 + n))) (i + 2 + n) 0 (Nat.zero_le _) (fun j h => absurd h (Nat.not_lt_zero _)) (.inr (decide_eq_false (by show ¬ (32 ≤ text.getD (i + 2 + n + 0) 0 ∧ text.getD (i + 2 + n + 0) 0 ≤ 47); rw [Nat.add_zero]; omega))) sn
  rw [show (zcfg text lim).code.getD (26 + 1) 0 = 10 from z27]
  try dsimp only
  refine To.step (g_in takes37 rfl (zlt (by decide)) z37 (by show i + 1 + 1 + n + 0 < lim; omega) (decide_eq_true hz)) ?_
  try dsimp only [q0]
  rw [show (zcfg text lim).code.getD (37 + 1) 0 = 5 from z38]
  try dsimp only
  refine To.step (g_jump (d := 187) rfl (zlt (by decide)) z43 z44) ?_
  try dsimp only [q0]
  refine To.step (g_success rfl (zlt (by decide)) z231 rfl) ?_
  try dsimp only [q0]
  refine To.step (g_yes rfl rfl (.inr (.inl rfl))) ?_
  try dsimp only [q0]
  refine To.step (g_yes rfl rfl (.inr (.inl rfl))) ?_
  try dsimp only [q0]
  refine To.step (g_yes rfl rfl (.inl rfl)) ?_
  try dsimp only [q0]
  exact To.here ⟨rfl, rfl, rfl, rfl, rfl, rfl, rfl⟩

/-- OSC, closed by BEL -/
theorem zw_oscB {text : Array Nat} {lim i n : Nat} (hb : lim ≤ 4294967295) (h0 : text.getD i 0 = 27) (h1 : text.getD (i + 1) 0 = 93) (hj : ∀ j, j < n → text.getD (i + 2 + j) 0 ≠ 7 ∧ text.getD (i + 2 + j) 0 ≠ 27)
    (hz : text.getD (i + 2 + n) 0 = 7) (hl : i + 2 + n < lim) : To (zcfg text lim) 60 (q0 9 i #[]) (Yes i (i + 2 + n + 1) #[] (-1) (-1)) := by
  refine To.step (g_lit (x := 27) rfl (zlt (by decide)) z9 z10 (by show i < lim; omega) h0) ?_
  try dsimp only [q0]
  refine To.step (g_branch (alt := 12) rfl (zlt (by decide)) z11 rfl (by show zwCode.getD 12 0 ≠ 0; rw [z12]; decide) (by show 0 < 1000; decide)) ?_
  try dsimp only [q0]
  refine To.step (g_litNo (x := 91) rfl (zlt (by decide)) z13 z14 (fun _ => by show text.getD (i + 1) 0 ≠ 91; rw [h1]; decide)) ?_
  try dsimp only [q0]
  refine To.step (g_nextBranch (alt := 45) rfl rfl (by show 45 = 12 + zwCode.getD 12 0; rw [z12]) (by show zwCode.getD 45 0 ≠ 0; rw [z45]; decide) (by show 0 + 1 < 1000; decide) (by show 1 ≤ 0 + 1; decide)) ?_
  try dsimp only [q0]
  refine To.step (g_lit (x := 93) rfl (zlt (by decide)) z46 z47 (by show i + 1 < lim; omega) h1) ?_
  try dsimp only [q0]
  refine To.step (g_run (n := n) rfl (zlt (by decide)) z48 z50 (fun sn => ?_) (by show i + 1 + 1 ≤ lim; omega) (by show 0 + 1 < 1000; decide)) ?_
  · have := run_is takes52 n (min (zwCode.getD 51 0) (lim - (i + 2))) (i + 2) 0 (by rw [z51]; omega) (fun j h => decide_eq_true (hj j h)) (.inr (decide_eq_false (by rw [hz]; decide))) sn
    rw [Nat.zero_add] at this; exact this
  rw [show (zcfg text lim).code.getD (48 + 1) 0 = 12 from z49]
  try dsimp only
  refine To.step (g_branch (alt := 62) rfl (zlt (by decide)) z61 rfl (by show zwCode.getD 62 0 ≠ 0; rw [z62]; decide) (by show 0 + 1 + 1 < 1000; decide)) ?_
  try dsimp only [q0]
  refine To.step (g_lit (x := 7) rfl (zlt (by decide)) z63 z64 (by show i + 1 + 1 + n < lim; omega) hz) ?_
  try dsimp only [q0]
  refine To.step (g_jump (d := 9) rfl (zlt (by decide)) z65 z66) ?_
  try dsimp only [q0]
  refine To.step (g_jump (d := 155) rfl (zlt (by decide)) z75 z76) ?_
  try dsimp only [q0]
  refine To.step (g_success rfl (zlt (by decide)) z231 rfl) ?_
  try dsimp only [q0]
  refine To.step (g_yes rfl rfl (.inl rfl)) ?_
  try dsimp only [q0]
  refine To.step (g_yes rfl rfl (.inr (.inl rfl))) ?_
  try dsimp only [q0]
  refine To.step (g_yes rfl rfl (.inl rfl)) ?_
  try dsimp only [q0]
  exact To.here ⟨rfl, rfl, rfl, rfl, rfl, rfl, rfl⟩

/-- OSC, closed by ESC \\ -/
theorem zw_oscS {text : Array Nat} {lim i n : Nat} (hb : lim ≤ 4294967295) (h0 : text.getD i 0 = 27) (h1 : text.getD (i + 1) 0 = 93) (hj : ∀ j, j < n → text.getD (i + 2 + j) 0 ≠ 7 ∧ text.getD (i + 2 + j) 0 ≠ 27)
    (hz : text.getD (i + 2 + n) 0 = 27) (hy : text.getD (i + 2 + n + 1) 0 = 92) (hl : i + 2 + n + 1 < lim) : To (zcfg text lim) 60 (q0 9 i #[]) (Yes i (i + 2 + n + 2) #[] (-1) (-1)) := by
  refine To.step (g_lit (x := 27) rfl (zlt (by decide)) z9 z10 (by show i < lim; omega) h0) ?_
  try dsimp only [q0]
  refine To.step (g_branch (alt := 12) rfl (zlt (by decide)) z11 rfl (by show zwCode.getD 12 0 ≠ 0; rw [z12]; decide) (by show 0 < 1000; decide)) ?_
  try dsimp only [q0]
  refine To.step (g_litNo (x := 91) rfl (zlt (by decide)) z13 z14 (fun _ => by show text.getD (i + 1) 0 ≠ 91; rw [h1]; decide)) ?_
  try dsimp only [q0]
  refine To.step (g_nextBranch (alt := 45) rfl rfl (by show 45 = 12 + zwCode.getD 12 0; rw [z12]) (by show zwCode.getD 45 0 ≠ 0; rw [z45]; decide) (by show 0 + 1 < 1000; decide) (by show 1 ≤ 0 + 1; decide)) ?_
  try dsimp only [q0]
  refine To.step (g_lit (x := 93) rfl (zlt (by decide)) z46 z47 (by show i + 1 < lim; omega) h1) ?_
  try dsimp only [q0]
  refine To.step (g_run (n := n) rfl (zlt (by decide)) z48 z50 (fun sn => ?_) (by show i + 1 + 1 ≤ lim; omega) (by show 0 + 1 < 1000; decide)) ?_
  · have := run_is takes52 n (min (zwCode.getD 51 0) (lim - (i + 2))) (i + 2) 0 (by rw [z51]; omega) (fun j h => decide_eq_true (hj j h)) (.inr (decide_eq_false (by rw [hz]; decide))) sn
    rw [Nat.zero_add] at this; exact this
  rw [show (zcfg text lim).code.getD (48 + 1) 0 = 12 from z49]
  try dsimp only
  refine To.step (g_branch (alt := 62) rfl (zlt (by decide)) z61 rfl (by show zwCode.getD 62 0 ≠ 0; rw [z62]; decide) (by show 0 + 1 + 1 < 1000; decide)) ?_
  try dsimp only [q0]
  refine To.step (g_litNo (x := 7) rfl (zlt (by decide)) z63 z64 (fun _ => by show text.getD (i + 2 + n) 0 ≠ 7; rw [hz]; decide)) ?_
  try dsimp only [q0]
  refine To.step (g_nextBranch (alt := 67) rfl rfl (by show 67 = 62 + zwCode.getD 62 0; rw [z62]) (by show zwCode.getD 67 0 ≠ 0; rw [z67]; decide) (by show 0 + 1 + 1 + 1 < 1000; decide) (by show 1 ≤ 0 + 1 + 1 + 1; decide)) ?_
  try dsimp only [q0]
  refine To.step (g_lit (x := 27) rfl (zlt (by decide)) z68 z69 (by show i + 1 + 1 + n < lim; omega) hz) ?_
  try dsimp only [q0]
  refine To.step (g_lit (x := 92) rfl (zlt (by decide)) z70 z71 (by show i + 1 + 1 + n + 1 < lim; omega) hy) ?_
  try dsimp only [q0]
  refine To.step (g_jump (d := 2) rfl (zlt (by decide)) z72 z73) ?_
  try dsimp only [q0]
  refine To.step (g_jump (d := 155) rfl (zlt (by decide)) z75 z76) ?_
  try dsimp only [q0]
  refine To.step (g_success rfl (zlt (by decide)) z231 rfl) ?_
  try dsimp only [q0]
  refine To.step (g_yes rfl rfl (.inl rfl)) ?_
  try dsimp only [q0]
  refine To.step (g_yes rfl rfl (.inr (.inl rfl))) ?_
  try dsimp only [q0]
  refine To.step (g_yes rfl rfl (.inl rfl)) ?_
  try dsimp only [q0]
  exact To.here ⟨rfl, rfl, rfl, rfl, rfl, rfl, rfl⟩
end Mine.Re
end

-- part Sre2
section
open PySem
set_option Elab.async false
set_option maxRecDepth 100000
namespace Mine.Re
open PySem.Sre
def ccfg (text : Array Nat) (lim : Nat) : Cfg := ⟨clCode, text, lim, lim, false⟩
def sframe (s : Nat) (o : Bool) : Sre.Frame := { wait := .nextStart, pc := 17, pos := s, outermost := o }
def qs (s : Nat) (o : Bool) (mks : Array (Option Nat)) : Q := ⟨s, 17, s, s, o, mks, -1, -1, [sframe s o], 1, none⟩
/-- the length of a closing that stands at s -/
def closeLen (text : Array Nat) (lim s : Nat) : Option Nat :=
  if s + 5 < lim ∧ text.getD s 0 = 27 ∧ text.getD (s + 1) 0 = 93 ∧ text.getD (s + 2) 0 = 56 ∧ text.getD (s + 3) 0 = 59 ∧ text.getD (s + 4) 0 = 59 then
    if text.getD (s + 5) 0 = 7 then some 6 else if text.getD (s + 5) 0 = 27 ∧ s + 6 < lim ∧ text.getD (s + 6) 0 = 92 then some 7 else none
  else none
structure NoAt (s : Nat) (o : Bool) (q : Q) : Prop where
  ans : q.answer = some false
  fr : q.frames = [sframe s o]
  wt : q.weight = 1
  mks : q.marks.size = 2
def AtTry (text : Array Nat) (lim s : Nat) (o : Bool) (mks : Array (Option Nat)) (q : Q) : Prop := match closeLen text lim s with
  | some n => Yes s (s + n) ((mks.setIfInBounds 0 (some (s + 5))).setIfInBounds 1 (some (s + n))) 1 1 q
  | none => NoAt s o q
theorem cl_try {text : Array Nat} {lim s : Nat} {o : Bool} {mks : Array (Option Nat)} (hm : mks.size = 2) : To (ccfg text lim) 40 (qs s o mks) (AtTry text lim s o mks) := by
  have no : ∀ {q : Q}, closeLen text lim s = none → NoAt s o q → AtTry text lim s o mks q := fun h x => by unfold AtTry; rw [h]; exact x
  have fall : ∀ k, k ≤ 4 → (s + k < lim → text.getD (s + k) 0 ≠ [27, 93, 56, 59, 59].getD k 0) → closeLen text lim s = none := fun k hk h => by
    unfold closeLen
    rw [if_neg]
    rintro ⟨a, b0, b1, b2, b3, b4⟩
    have := h (by omega)
    match k, hk with
    | 0, _ => exact this b0
    | 1, _ => exact this b1
    | 2, _ => exact this b2
    | 3, _ => exact this b3
    | 4, _ => exact this b4
  unfold qs
  by_cases h0 : s < lim ∧ text.getD s 0 = 27
  case neg => exact To.step (g_litNo (x := 27) rfl (clt (by decide)) c17 c18 (fun h => fun e => h0 ⟨h, e⟩)) (To.here (no (fall 0 (by decide) fun h e => h0 ⟨h, e⟩) ⟨rfl, rfl, rfl, hm⟩))
  refine To.step (g_lit (x := 27) rfl (clt (by decide)) c17 c18 h0.1 h0.2) ?_
  dsimp only
  by_cases h1 : s + 1 < lim ∧ text.getD (s + 1) 0 = 93
  case neg => exact To.step (g_litNo (x := 93) rfl (clt (by decide)) c19 c20 (fun h => fun e => h1 ⟨h, e⟩)) (To.here (no (fall 1 (by decide) fun h e => h1 ⟨h, e⟩) ⟨rfl, rfl, rfl, hm⟩))
  refine To.step (g_lit (x := 93) rfl (clt (by decide)) c19 c20 h1.1 h1.2) ?_
  dsimp only
  by_cases h2 : s + 2 < lim ∧ text.getD (s + 2) 0 = 56
  case neg => exact To.step (g_litNo (x := 56) rfl (clt (by decide)) c21 c22 (fun h => fun e => h2 ⟨h, e⟩)) (To.here (no (fall 2 (by decide) fun h e => h2 ⟨h, e⟩) ⟨rfl, rfl, rfl, hm⟩))
  refine To.step (g_lit (x := 56) rfl (clt (by decide)) c21 c22 h2.1 h2.2) ?_
  dsimp only
  by_cases h3 : s + 3 < lim ∧ text.getD (s + 3) 0 = 59
  case neg => exact To.step (g_litNo (x := 59) rfl (clt (by decide)) c23 c24 (fun h => fun e => h3 ⟨h, e⟩)) (To.here (no (fall 3 (by decide) fun h e => h3 ⟨h, e⟩) ⟨rfl, rfl, rfl, hm⟩))
  refine To.step (g_lit (x := 59) rfl (clt (by decide)) c23 c24 h3.1 h3.2) ?_
  dsimp only
  by_cases h4 : s + 4 < lim ∧ text.getD (s + 4) 0 = 59
  case neg => exact To.step (g_litNo (x := 59) rfl (clt (by decide)) c25 c26 (fun h => fun e => h4 ⟨h, e⟩)) (To.here (no (fall 4 (by decide) fun h e => h4 ⟨h, e⟩) ⟨rfl, rfl, rfl, hm⟩))
  refine To.step (g_lit (x := 59) rfl (clt (by decide)) c25 c26 h4.1 h4.2) ?_
  dsimp only
  refine To.step (g_mark (i := 0) rfl (clt (by decide)) c27 c28 (by show ((0 : Nat) : Int) ≤ (-1 : Int) + 1; decide)) ?_
  dsimp only
  rw [show (if ((0 % 2 : Nat) == 1) = true then ((0 / 2 + 1 : Nat) : Int) else (-1 : Int)) = -1 from rfl, show max (-1 : Int) ((0 : Nat) : Int) = 0 from rfl]
  refine To.step (g_branch (alt := 30) rfl (clt (by decide)) c29 rfl (by show clCode.getD 30 0 ≠ 0; rw [c30]; decide) (by show 1 < 1000; decide)) ?_
  dsimp only
  have hmk : ∀ (a : Option Nat), (mks.setIfInBounds 0 a).size = 2 := fun a => by rw [Array.size_setIfInBounds]; exact hm
  by_cases h5 : s + 5 < lim ∧ text.getD (s + 5) 0 = 7
  · have e : closeLen text lim s = some 6 := by
      unfold closeLen
      rw [if_pos ⟨h5.1, h0.2, h1.2, h2.2, h3.2, h4.2⟩, if_pos h5.2]
    refine To.step (g_lit (x := 7) rfl (clt (by decide)) c31 c32 h5.1 h5.2) ?_
    dsimp only
    refine To.step (g_jump (d := 9) rfl (clt (by decide)) c33 c34) ?_
    dsimp only
    refine To.step (g_mark (i := 1) rfl (clt (by decide)) c43 c44 (by show ((1 : Nat) : Int) ≤ (0 : Int) + 1; decide)) ?_
    dsimp only
    refine To.step (g_success rfl (clt (by decide)) c45 rfl) ?_
    dsimp only
    refine To.step (g_yes rfl rfl (.inl rfl)) ?_
    dsimp only
    refine To.step (g_yes rfl rfl (.inr (.inr rfl))) ?_
    refine To.here ?_
    unfold AtTry
    rw [e]
    exact ⟨rfl, rfl, rfl, rfl, rfl, rfl, rfl⟩
  · refine To.step (g_litNo (x := 7) rfl (clt (by decide)) c31 c32 (fun h => fun q => h5 ⟨h, q⟩)) ?_
    dsimp only
    refine To.step (g_nextBranch (alt := 35) rfl rfl (by show 35 = 30 + clCode.getD 30 0; rw [c30]) (by show clCode.getD 35 0 ≠ 0; rw [c35]; decide) (by show 1 + 1 < 1000; decide) (by show 1 ≤ 1 + 1; decide)) ?_
    dsimp only
    by_cases h6 : s + 5 < lim ∧ text.getD (s + 5) 0 = 27
    case neg =>
      refine To.step (g_litNo (x := 27) rfl (clt (by decide)) c36 c37 (fun h => fun q => h6 ⟨h, q⟩)) ?_
      dsimp only
      refine To.step (g_lastBranch rfl rfl (by show clCode.getD (35 + clCode.getD 35 0) 0 = 0; rw [c35]; exact c42)) ?_
      refine To.here (no ?_ ⟨rfl, rfl, rfl, hmk _⟩)
      unfold closeLen
      by_cases a : s + 5 < lim
      · rw [if_pos ⟨a, h0.2, h1.2, h2.2, h3.2, h4.2⟩, if_neg fun q => h5 ⟨a, q⟩, if_neg fun q => h6 ⟨a, q.1⟩]
      · rw [if_neg fun q => a q.1]
    refine To.step (g_lit (x := 27) rfl (clt (by decide)) c36 c37 h6.1 h6.2) ?_
    dsimp only
    by_cases h7 : s + 6 < lim ∧ text.getD (s + 6) 0 = 92
    · have e : closeLen text lim s = some 7 := by
        unfold closeLen
        rw [if_pos ⟨h6.1, h0.2, h1.2, h2.2, h3.2, h4.2⟩, if_neg fun q => h5 ⟨h6.1, q⟩, if_pos ⟨h6.2, h7⟩]
      refine To.step (g_lit (x := 92) rfl (clt (by decide)) c38 c39 h7.1 h7.2) ?_
      dsimp only
      refine To.step (g_jump (d := 2) rfl (clt (by decide)) c40 c41) ?_
      dsimp only
      refine To.step (g_mark (i := 1) rfl (clt (by decide)) c43 c44 (by show ((1 : Nat) : Int) ≤ (0 : Int) + 1; decide)) ?_
      dsimp only
      refine To.step (g_success rfl (clt (by decide)) c45 rfl) ?_
      dsimp only
      refine To.step (g_yes rfl rfl (.inl rfl)) ?_
      dsimp only
      refine To.step (g_yes rfl rfl (.inr (.inr rfl))) ?_
      refine To.here ?_
      unfold AtTry
      rw [e]
      exact ⟨rfl, rfl, rfl, rfl, rfl, rfl, rfl⟩
    · refine To.step (g_litNo (x := 92) rfl (clt (by decide)) c38 c39 (fun h => fun q => h7 ⟨h, q⟩)) ?_
      dsimp only
      refine To.step (g_lastBranch rfl rfl (by show clCode.getD (35 + clCode.getD 35 0) 0 = 0; rw [c35]; exact c42)) ?_
      refine To.here (no ?_ ⟨rfl, rfl, rfl, hmk _⟩)
      unfold closeLen
      rw [if_pos ⟨h6.1, h0.2, h1.2, h2.2, h3.2, h4.2⟩, if_neg fun q => h5 ⟨h6.1, q⟩, if_neg fun q => h7 q.2]

theorem g_nextStart {text : Array Nat} {lim s : Nat} {o : Bool} {q : Q} (x : NoAt s o q) (h : s < lim) : Goes (ccfg text lim) 1 q (qs (s + 1) false q.marks) := Goes.one fun sn => by
  refine ⟨sn, ?_⟩
  obtain ⟨start, pc, pos, handed, om, marks, lm, li, frames, weight, answer⟩ := q
  obtain ⟨h1, h2, h3, h4⟩ := x
  simp only at h1 h2 h3 h4
  subst h1 h2 h3
  unfold M.step
  simp only [mach, sframe, ccfg, Option.isSome_none, Bool.false_eq_true, if_false, M.resume, if_pos h, M.attemptFrom]
  refine (if_pos h).trans ?_
  refine (if_pos (by show (!(M.hasFirstSet _)) = true; unfold M.hasFirstSet; simp only [show clCode.getD 2 0 = 1 from by decide +kernel]; simp)).trans ?_
  simp [M.attemptAt, M.attempt, qs, sframe]
theorem g_lastStart {text : Array Nat} {lim s : Nat} {o : Bool} {q : Q} (x : NoAt s o q) (h : ¬ s < lim) : Goes (ccfg text lim) 1 q { q with frames := [], weight := 0, pc := 17, pos := s, outermost := o } := Goes.one fun sn => by
  refine ⟨sn, ?_⟩
  obtain ⟨start, pc, pos, handed, om, marks, lm, li, frames, weight, answer⟩ := q
  obtain ⟨h1, h2, h3, h4⟩ := x
  simp only at h1 h2 h3 h4
  subst h1 h2 h3
  unfold M.step
  simp only [mach, sframe, ccfg, Option.isSome_none, Bool.false_eq_true, if_false, M.resume]
  refine (if_neg h).trans ?_
  simp [M.say]
/-- the first closing at or behind s: where it begins, how long it is -/
def firstClose (text : Array Nat) (lim : Nat) : Nat → Nat → Option (Nat × Nat)
  | 0, _ => none
  | f + 1, s => match closeLen text lim s with
    | some n => some (s, n)
    | none => firstClose text lim f (s + 1)
def Found (mks : Nat → Nat → Array (Option Nat) → Prop) (r : Option (Nat × Nat)) (q : Q) : Prop := match r with
  | some (p, n) => ∃ m, mks p n m ∧ Yes p (p + n) m 1 1 q
  | none => q.answer = some false ∧ q.frames = []
def clMarks (p n : Nat) (m : Array (Option Nat)) : Prop := m.getD 0 none = some (p + 5) ∧ m.getD 1 none = some (p + n)
theorem cl_search {text : Array Nat} {lim : Nat} : ∀ (f s : Nat) (o : Bool) (mks : Array (Option Nat)), mks.size = 2 → s + f = lim + 1 → 1 ≤ f →
    To (ccfg text lim) (41 * f + 1) (qs s o mks) (Found clMarks (firstClose text lim f s))
  | 0, _, _, _, _, _, h => absurd h (by decide)
  | f + 1, s, o, mks, hm, hf, _ => by
    have t := cl_try (text := text) (lim := lim) (s := s) (o := o) hm
    unfold firstClose
    cases e : closeLen text lim s with
    | some n =>
      refine (t.trans (N' := 0) fun q hq => ?_).mono (by omega)
      unfold AtTry at hq
      rw [e] at hq
      refine To.here ⟨_, ⟨?_, ?_⟩, hq⟩
      · simp [hm]
      · simp [hm]
    | none =>
      refine (t.trans (N' := 41 * f + 2) fun q hq => ?_).mono (by omega)
      unfold AtTry at hq
      rw [e] at hq
      by_cases h : s < lim
      · refine To.step (g_nextStart hq h) ?_
        exact cl_search f (s + 1) false q.marks hq.mks (by omega) (by omega)
      · refine (To.step (N := 0) (g_lastStart hq h) (To.here ?_)).mono (by omega)
        have : f = 0 := by omega
        subst this
        exact ⟨hq.ans, rfl⟩
end Mine.Re
end

-- part W20
section
open PySem PySem.W PyProof.Rows PySem.SeqAt PySem.Builtin.Re
set_option Elab.async false
set_option linter.unusedVariables false
set_option maxRecDepth 100000
namespace Mine

section
variable {MM : Model} {A : Around} {E : Value → Shared → Prop} {s : Shared}

theorem drive_ok : ∀ (turns n : Nat) (m mf : Sre.M) (Q : Sre.M → Shared → Prop), Sre.M.runFor n m = mf → mf.outcome.isSome = true → n < 4 * turns → Q mf s → wpAny MM A (reDrive turns m) Q E s
  | 0, n, m, mf, Q, h, ho, hn, q => by omega
  | turns + 1, n, m, mf, Q, h, ho, hn, q => by
    unfold reDrive
    show wpAny MM A (if (Sre.M.runFor reTurnSteps m).outcome.isSome = true then pure (Sre.M.runFor reTurnSteps m) else do rule "sre.turn"; reDrive turns (Sre.M.runFor reTurnSteps m)) Q E s
    have e4 : reTurnSteps = 4 := rfl
    rw [e4]
    rcases Nat.lt_or_ge 4 n with h4 | h4
    · have hs : Sre.M.runFor (n - 4) (Sre.M.runFor 4 m) = mf := by rw [← Mine.Re.runFor_add, show 4 + (n - 4) = n by omega]; exact h
      cases hd : (Sre.M.runFor 4 m).outcome.isSome with
      | true =>
        rw [if_pos rfl]
        rw [Mine.Re.runFor_done _ hd] at hs
        rw [hs]
        exact wpAny_pure q
      | false =>
        rw [if_neg (by decide)]
        exact wpAny_bind (wpAny_rule (drive_ok turns (n - 4) _ mf Q hs ho (by omega) q))
    · have hs : Sre.M.runFor 4 m = mf := by
        rw [show 4 = n + (4 - n) by omega, Mine.Re.runFor_add, h]
        exact Mine.Re.runFor_done _ ho
      rw [hs, if_pos ho]
      exact wpAny_pure q

theorem rules_ok {α : Type} (f : Nat → PUnit → Sem (ForInStep PUnit)) (hf : ∀ i u, (∃ t, f i u = (do rule t; pure (ForInStep.yield ⟨⟩))) ∨ f i u = pure (ForInStep.yield ⟨⟩)) : ∀ (l : List Nat) (Q : PUnit → Shared → Prop), Q ⟨⟩ s → wpAny MM A (forIn l ⟨⟩ f) Q E s
  | [], Q, q => by rw [List.forIn_nil]; exact wpAny_pure q
  | i :: l, Q, q => by
    rw [List.forIn_cons]
    refine wpAny_bind ?_
    rcases hf i ⟨⟩ with ⟨t, e⟩ | e
    · rw [e]; exact wpAny_bind (wpAny_rule (wpAny_pure (rules_ok (α := α) f hf l Q q)))
    · rw [e]; exact wpAny_pure (rules_ok (α := α) f hf l Q q)

theorem run_ok {m mf : Sre.M} {n : Nat} {Q : Option Sre.M → Shared → Prop} (h : Sre.M.runFor n m = mf) (hn : n < 2 ^ 60) (hm : mf.outcome = some .matched ∧ Q (some mf) s ∨ mf.outcome = some .failed ∧ Q none s) : wpAny MM A (reRunToEnd m) Q E s := by
  unfold reRunToEnd
  refine wpAny_bind (drive_ok (2 ^ 64) n m mf _ h (by rcases hm with h | h <;> rw [h.1] <;> rfl) (by omega) ?_)
  refine wpAny_bind (rules_ok (α := Unit) _ (fun i u => ?_) _ _ ?_)
  · by_cases hs : mf.seen.has i = true
    · exact .inl ⟨_, by simp only [hs, if_true]; rfl⟩
    · exact .inr (by simp only [hs, if_false]; rfl)
  · rcases hm with ⟨h1, h2⟩ | ⟨h1, h2⟩
    · rw [h1]; exact wpAny_pure h2
    · rw [h1]; exact wpAny_pure h2

theorem step_end {c : Re.Cfg} {q : Re.Q} {sn : Sre.Seen} {b : Bool} (ha : q.answer = some b) (hf : q.frames = []) :
    (Re.mach c q sn).step = { Re.mach c q sn with outcome := some (if b then .matched else .failed) } := by
  unfold Sre.M.step Re.mach
  simp only [ha, hf]
  cases b <;> rfl

theorem to_ok {c : Re.Cfg} {N : Nat} {q : Re.Q} {P : Re.Q → Prop} {sn : Sre.Seen} {Q : Option Sre.M → Shared → Prop} (h : Re.To c N q P) (hN : N < 2 ^ 59)
    (hP : ∀ q', P q' → q'.frames = [] ∧ ((q'.answer = some true ∧ ∀ mf : Sre.M, mf.marks = q'.marks → mf.lastmark = q'.lastmark → mf.lastindex = q'.lastindex → mf.start = q'.start → mf.handed = q'.handed → Q (some mf) s) ∨ (q'.answer = some false ∧ Q none s))) :
    wpAny MM A (reRunToEnd (Re.mach c q sn)) Q E s := by
  obtain ⟨k, q', hk, g, p⟩ := h
  obtain ⟨n, hn, sn', e⟩ := g sn
  obtain ⟨hf, hq⟩ := hP q' p
  have fin : ∀ b, q'.answer = some b → Sre.M.runFor (n + 1) (Re.mach c q sn) = { Re.mach c q' sn' with outcome := some (if b then .matched else .failed) } := fun b hb => by
    rw [Mine.Re.runFor_add, e, ← step_end hb hf]
    rfl
  rcases hq with ⟨ha, hq⟩ | ⟨ha, hq⟩
  · exact run_ok (fin true ha) (by omega) (.inl ⟨rfl, hq _ rfl rfl rfl rfl rfl⟩)
  · exact run_ok (fin false ha) (by omega) (.inr ⟨rfl, hq⟩)
end
end Mine
end

-- part W21
section
open PySem PySem.W PyProof.Rows PySem.SeqAt PySem.Builtin.Re
set_option Elab.async false
set_option linter.unusedVariables false
set_option maxRecDepth 100000
namespace Mine

def patOk (K : Frag) (pat : Addr) (code : Array Nat) (groups : Nat) : Bool := match K.lookup pat with
  | some ⟨.type T, none, .fields fs, _⟩ => T == "re.Pattern" && reRawNat (fs.getD 6 .none) == 0 && reRawNat (fs.getD 2 .none) == groups && (match fs.getD 5 .none with
    | .ref c => (match K.lookup c with
      | some ⟨.type T2, _, .seq items _, _⟩ => T2 == "tuple" && (items.map reRawOf).map (·.toNat) == code
      | _ => false)
    | _ => false)
  | _ => false

section
variable {prog : Program} {w : World} {A : Around} {E : Value → Shared → Prop} {s : Shared} {K : Frag}
theorem target_ok {id f : String} {pat : Addr} {x : Str} {tx ti : Tok} {i : Int} {code : Array Nat} {groups : Nat} {Q : ReTarget → Shared → Prop} (X : K.In s.heap) (hp : patOk K pat code groups = true) (h0 : 0 ≤ i) (hi : i < 2 ^ 63)
    (h : Q { pattern := .ref pat, string := .str x tx, code := code, text := x.cps, kind := 0, groups := groups, pos := min i.toNat x.cps.size, lim := min (2 ^ 63 - 1) x.cps.size } s) :
    wpAny (model prog w) A (reTarget id f ⟨[.ref pat, .str x tx, .int i ti], []⟩) Q E s := by
  unfold patOk at hp
  split at hp
  · rename_i T fs sl ho
    simp only [Bool.and_eq_true, beq_iff_eq] at hp
    obtain ⟨⟨⟨rfl, h6⟩, h2⟩, h5⟩ := hp
    split at h5
    · rename_i c hc
      split at h5
      · rename_i T2 d2 items n2 sl2 ho2
        simp only [Bool.and_eq_true, beq_iff_eq] at h5
        obtain ⟨rfl, hcode⟩ := h5
        unfold reTarget
        have e1 : reNamed id f ["string", "pos", "endpos"] 1 [.str x tx, .int i ti] [] = pure [some (.str x tx), some (.int i ti), none] := rfl
        refine wpAny_bind (wpAny_of_eq e1 ?_)
        dsimp only
        refine wpAny_bind (m := reSsize (.int i ti)) ?_
        unfold reSsize
        refine wpAny_bind (wpAny_of_eq (show asIndex (.int i ti) = pure i from rfl) ?_)
        rw [if_neg (by simp; omega)]
        refine wpAny_pure ?_
        refine wpAny_bind (wpAny_pure ?_)
        refine wpAny_bind (wpAny_fieldsOf (X _ _ ho) rfl ?_)
        refine wpAny_bind (wpAny_of_eq (show reTextOf (.str x tx) = pure (x.cps, 0) from rfl) ?_)
        dsimp only
        rw [h6]
        rw [if_neg (by decide), if_neg (by decide)]
        refine wpAny_bind (wpAny_of_eq (show reNoCollectionInside (.str x tx) 0 = pure () from rfl) ?_)
        rw [hc]
        unfold reRawItems
        refine wpAny_bind (wpAny_bind (wpAny_seqItems (X _ _ ho2) rfl (wpAny_pure ?_)))
        refine wpAny_pure ?_
        rw [Option.getD_some, hcode, h2]
        exact h
      · cases h5
    · cases h5
  · cases hp

/-- the same, no place handed -/
theorem target_ok0 {id f : String} {pat : Addr} {x : Str} {tx : Tok} {code : Array Nat} {groups : Nat} {Q : ReTarget → Shared → Prop} (X : K.In s.heap) (hp : patOk K pat code groups = true)
    (h : Q { pattern := .ref pat, string := .str x tx, code := code, text := x.cps, kind := 0, groups := groups, pos := 0, lim := min (2 ^ 63 - 1) x.cps.size } s) :
    wpAny (model prog w) A (reTarget id f ⟨[.ref pat, .str x tx], []⟩) Q E s := by
  unfold patOk at hp
  split at hp
  · rename_i T fs sl ho
    simp only [Bool.and_eq_true, beq_iff_eq] at hp
    obtain ⟨⟨⟨rfl, h6⟩, h2⟩, h5⟩ := hp
    split at h5
    · rename_i c hc
      split at h5
      · rename_i T2 d2 items n2 sl2 ho2
        simp only [Bool.and_eq_true, beq_iff_eq] at h5
        obtain ⟨rfl, hcode⟩ := h5
        unfold reTarget
        have e1 : reNamed id f ["string", "pos", "endpos"] 1 [.str x tx] [] = pure [some (.str x tx), none, none] := rfl
        refine wpAny_bind (wpAny_of_eq e1 ?_)
        dsimp only
        refine wpAny_bind (wpAny_pure ?_)
        refine wpAny_bind (wpAny_pure ?_)
        refine wpAny_bind (wpAny_fieldsOf (X _ _ ho) rfl ?_)
        refine wpAny_bind (wpAny_of_eq (show reTextOf (.str x tx) = pure (x.cps, 0) from rfl) ?_)
        dsimp only
        rw [h6]
        rw [if_neg (by decide), if_neg (by decide)]
        refine wpAny_bind (wpAny_of_eq (show reNoCollectionInside (.str x tx) 0 = pure () from rfl) ?_)
        rw [hc]
        unfold reRawItems
        refine wpAny_bind (wpAny_bind (wpAny_seqItems (X _ _ ho2) rfl (wpAny_pure ?_)))
        refine wpAny_pure ?_
        rw [Option.getD_some, hcode, h2]
        have : min (0 : Int).toNat x.cps.size = 0 := by simp
        exact h
      · cases h5
    · cases h5
  · cases hp
end
end Mine
end

-- part W22
section
open PySem PySem.W PyProof.Rows PySem.SeqAt PySem.Builtin.Re
set_option Elab.async false
set_option linter.unusedVariables false
set_option maxRecDepth 100000
namespace Mine

/-- the spans that a match keeps -/
def spansOf (groups : Nat) (m : Sre.M) : List Int := (List.range groups).flatMap fun g =>
    match if ((2 * g + 1 : Nat) : Int) ≤ m.lastmark then (m.marks.getD (2 * g) none, m.marks.getD (2 * g + 1) none) else (none, none) with
    | (some b, some e) => [(b : Int), (e : Int)]
    | _ => [-1, -1]
def wrongSpan (groups : Nat) (m : Sre.M) : Bool := (List.range groups).any (fun g => match m.marks.getD (2 * g) none, m.marks.getD (2 * g + 1) none with | some b, some e => ((2 * g + 1 : Nat) : Int) ≤ m.lastmark && e < b | _, _ => false)

def MtNew (x : Str) (sp : List Int) (s : Shared) (v : Value) (s' : Shared) : Prop :=
  ∃ a tpl tx f1 f2 f3 f4 vs n, v = .ref a ∧ s.heap.get? a = none ∧ s'.heap.get? a = some { cls := .type "re.Match", data := .fields #[.str x tx, f1, f2, f3, f4, .ref tpl] } ∧ s.heap.get? tpl = none ∧
    s'.heap.get? tpl = some { cls := .type "tuple", data := .seq vs n } ∧ vs.map reRawOf = sp.toArray ∧ Stp [] s s'

section
variable {prog : Program} {w : World} {A : Around} {E : Value → Shared → Prop} {s : Shared} {K : Frag}
theorem rawInts (l : List Int) : (l.map fun i => rawInt i).toArray.map reRawOf = l.toArray := by
  simp only [List.map_toArray, List.map_map]
  congr 1
  induction l with
  | nil => rfl
  | cons a l ih => simp only [List.map_cons, ih]; rfl

theorem newMatch_ok {pat : Value} {x : Str} {tx : Tok} {groups pos lim : Nat} {m : Sre.M} {Q : Value → Shared → Prop} (hw : wrongSpan groups m = false) (hg : groups ≤ 100)
    (h : ∀ v s', MtNew x ((m.start : Int) :: (m.handed : Int) :: spansOf groups m) s v s' → Q v s') : wpAny (model prog w) A (reNewMatch pat (.str x tx) groups pos lim m) Q E s := by
  unfold reNewMatch
  dsimp only
  generalize hL : List.flatMap _ _ = L
  have e : L = (spansOf groups m).map fun i => rawInt i := by
    rw [← hL]
    unfold spansOf
    rw [List.map_flatMap]
    congr 1
    funext g
    generalize (if ((2 * g + 1 : Nat) : Int) ≤ m.lastmark then (m.marks.getD (2 * g) none, m.marks.getD (2 * g + 1) none) else (none, none)) = p
    obtain ⟨a, b⟩ := p
    cases a <;> cases b <;> rfl
  clear hL
  subst e
  have hlen : (spansOf groups m).length ≤ 2 * groups := by
    unfold spansOf
    rw [List.length_flatMap]
    have : ∀ (l : List Nat), (l.map fun g => (match if ((2 * g + 1 : Nat) : Int) ≤ m.lastmark then (m.marks.getD (2 * g) none, m.marks.getD (2 * g + 1) none) else (none, none) with | (some b, some e) => [(b : Int), (e : Int)] | _ => [-1, -1]).length).sum ≤ 2 * l.length := by
      intro l
      induction l with
      | nil => simp
      | cons a l ih =>
        simp only [List.map_cons, List.sum_cons, List.length_cons]
        have : (match if ((2 * a + 1 : Nat) : Int) ≤ m.lastmark then (m.marks.getD (2 * a) none, m.marks.getD (2 * a + 1) none) else (none, none) with | (some b, some e) => [(b : Int), (e : Int)] | _ => [-1, -1]).length = 2 := by split <;> rfl
        omega
    simpa using this (List.range groups)
  have hz : ((rawInt m.start :: rawInt m.handed :: (spansOf groups m).map fun i => rawInt i).toArray).size ≤ sizeLine := by
    simp only [List.size_toArray, List.length_cons, List.length_map]; unfold sizeLine; omega
  split
  · rename_i hc
    exact absurd (show wrongSpan groups m = true from hc) (by rw [hw]; decide)
  refine wpAny_bind (m := newTuple _) ?_
  unfold newTuple
  refine wpAny_newObj_type ?_ hz
  unfold newFields
  refine wpAny_newObj_type ?_ (by size_fits)
  refine h _ _ ⟨_, _, tx, _, _, _, _, _, 0, rfl, ?_, Heap.get?_push_size _ rfl, ?_, Heap.get?_push_of_some _ (Heap.get?_push_size _ rfl), ?_, ?_⟩
  · rw [Heap.size_push]
    cases q : s.heap.get? (s.heap.objs.size + 1) with
    | none => rfl
    | some o => exact absurd (Heap.lt_size q) (Nat.not_lt.mpr (Nat.le_succ _))
  · cases q : s.heap.get? s.heap.objs.size with
    | none => rfl
    | some o => exact absurd (Heap.lt_size q) (Nat.lt_irrefl _)
  · have := rawInts ((m.start : Int) :: (m.handed : Int) :: spansOf groups m)
    simpa using this
  · exact (Stp.push _ _).trans (Stp.push (s := { s with heap := s.heap.push _ }) _)
end
end Mine
end

-- part W23
section
open PySem PySem.W PyProof.Rows PySem.SeqAt PySem.Builtin.Re
set_option Elab.async false
set_option linter.unusedVariables false
set_option maxRecDepth 100000
namespace Mine

theorem plainAttrs_pat : PlainAttrs "re.Pattern" :=
  ⟨⟨"object.__getattribute__", by rw [typeLookup_type, builtinLookup_eq_fast]; kernel_rfl, by decide +kernel⟩, by rw [typeLookup_type, builtinLookup_eq_fast]; kernel_rfl⟩
theorem slot_match : Slot "re.Pattern" "match" "re.Pattern.match" :=
  Slot.of (owner := "re.Pattern") (n := "match") (by rw [typeLookup_type, builtinLookup_eq_fast]; kernel_rfl) (by decide +kernel) (by decide +kernel) (by decide +kernel) (.inr (by decide +kernel)) (by rw [isSubtype_type]; kernel_rfl)
theorem slot_full : Slot "re.Pattern" "fullmatch" "re.Pattern.fullmatch" :=
  Slot.of (owner := "re.Pattern") (n := "fullmatch") (by rw [typeLookup_type, builtinLookup_eq_fast]; kernel_rfl) (by decide +kernel) (by decide +kernel) (by decide +kernel) (.inr (by decide +kernel)) (by rw [isSubtype_type]; kernel_rfl)
theorem slot_search : Slot "re.Pattern" "search" "re.Pattern.search" :=
  Slot.of (owner := "re.Pattern") (n := "search") (by rw [typeLookup_type, builtinLookup_eq_fast]; kernel_rfl) (by decide +kernel) (by decide +kernel) (by decide +kernel) (.inr (by decide +kernel)) (by rw [isSubtype_type]; kernel_rfl)
theorem type_match : typeOf (.builtin "re.Pattern.match") = pure (.type "method_descriptor") := by show builtinType _ = _; rw [builtinType_eq_fast]; kernel_rfl
theorem type_full : typeOf (.builtin "re.Pattern.fullmatch") = pure (.type "method_descriptor") := by show builtinType _ = _; rw [builtinType_eq_fast]; kernel_rfl
theorem type_search : typeOf (.builtin "re.Pattern.search") = pure (.type "method_descriptor") := by show builtinType _ = _; rw [builtinType_eq_fast]; kernel_rfl
theorem entry_match : entryFor table "re.Pattern.match" = some Builtin.«re.Pattern.match» := entryFor_of_tree (by kernel_rfl)
theorem entry_full : entryFor table "re.Pattern.fullmatch" = some Builtin.«re.Pattern.fullmatch» := entryFor_of_tree (by kernel_rfl)
theorem entry_search : entryFor table "re.Pattern.search" = some Builtin.«re.Pattern.search» := entryFor_of_tree (by kernel_rfl)
theorem args_match (a b c : Value) : argsOk "re.Pattern.match" ⟨[a, b, c], []⟩ := by unfold argsOk; kernel_rfl
theorem args_full (a b : Value) : argsOk "re.Pattern.fullmatch" ⟨[a, b], []⟩ := by unfold argsOk; kernel_rfl
theorem args_search (a b c : Value) : argsOk "re.Pattern.search" ⟨[a, b, c], []⟩ := by unfold argsOk; kernel_rfl

section
variable {prog : Program} {w : World} {A : Around} {s : Shared} {K : Frag} {pat : Addr} {x : Str} {tx ti : Tok} {i : Int} {code : Array Nat} {groups : Nat} {Q : Value → Shared → Prop}

/-- how an answer becomes a value -/
theorem answer_ok {t : ReTarget} {m0 : Sre.M} (ht : t.string = .str x tx) (hg : t.groups = groups) (hg' : groups ≤ 100)
    (h : wpAny (model prog w) A (reRunToEnd m0) (fun r s' => match r with
      | some mf => wrongSpan groups mf = false ∧ ∀ v s'', MtNew x ((mf.start : Int) :: (mf.handed : Int) :: spansOf groups mf) s' v s'' → Q v s''
      | none => Q .none s') NoE s) :
    wpAny (model prog w) A (reAnswer t m0) (fun fin s' => ∃ v, fin = .done (.ret v) ∧ Q v s') NoE s := by
  unfold reAnswer
  refine wpAny_bind (wpAny_mono h (fun r s' hr => ?_) fun _ _ e => e)
  cases r with
  | none => exact wpAny_pure ⟨_, rfl, hr⟩
  | some mf =>
    dsimp only
    rw [ht, hg]
    exact wpAny_bind (newMatch_ok hr.1 hg' fun v s'' hn => wpAny_pure ⟨_, rfl, hr.2 v s'' hn⟩)

theorem call_match (X : K.In s.heap) (hp : patOk K pat code groups = true) (hT : s.TypeIs (.ref pat) "re.Pattern") (hg' : groups ≤ 100) (h0 : 0 ≤ i) (hi : i < 2 ^ 63)
    (h : wpAny (model prog w) A.in1 (reRunToEnd (Sre.forMatch code x.cps groups (min i.toNat x.cps.size) (min (2 ^ 63 - 1) x.cps.size) false false)) (fun r s' => match r with
      | some mf => wrongSpan groups mf = false ∧ ∀ v s'', MtNew x ((mf.start : Int) :: (mf.handed : Int) :: spansOf groups mf) s' v s'' → Q v s''
      | none => Q .none s') NoE s) :
    wpAny (model prog w) A (call (.builtin "re.Pattern.match") [.ref pat, .str x tx, .int i ti] []) Q NoE s := by
  refine wpAny_call (codeAny_call_builtin slot_match.plain entry_match (slot_match.check _ _ _ _ _ _ _ _ hT (args_match _ _ _) ?_))
  unfold Builtin.«re.Pattern.match»
  refine wpAny_bind (target_ok X hp h0 hi ?_)
  refine wpAny_mono (answer_ok (Q := Q) (x := x) (tx := tx) (groups := groups) rfl rfl hg' h) ?_ (fun _ _ z => z.elim)
  rintro fin s' ⟨v, rfl, hv⟩
  exact hv

theorem call_search (X : K.In s.heap) (hp : patOk K pat code groups = true) (hT : s.TypeIs (.ref pat) "re.Pattern") (hg' : groups ≤ 100) (h0 : 0 ≤ i) (hi : i < 2 ^ 63)
    (h : wpAny (model prog w) A.in1 (reRunToEnd (Sre.forSearch code x.cps groups (min i.toNat x.cps.size) (min (2 ^ 63 - 1) x.cps.size) false)) (fun r s' => match r with
      | some mf => wrongSpan groups mf = false ∧ ∀ v s'', MtNew x ((mf.start : Int) :: (mf.handed : Int) :: spansOf groups mf) s' v s'' → Q v s''
      | none => Q .none s') NoE s) :
    wpAny (model prog w) A (call (.builtin "re.Pattern.search") [.ref pat, .str x tx, .int i ti] []) Q NoE s := by
  refine wpAny_call (codeAny_call_builtin slot_search.plain entry_search (slot_search.check _ _ _ _ _ _ _ _ hT (args_search _ _ _) ?_))
  unfold Builtin.«re.Pattern.search»
  refine wpAny_bind (target_ok X hp h0 hi ?_)
  refine wpAny_mono (answer_ok (Q := Q) (x := x) (tx := tx) (groups := groups) rfl rfl hg' h) ?_ (fun _ _ z => z.elim)
  rintro fin s' ⟨v, rfl, hv⟩
  exact hv

theorem call_full (X : K.In s.heap) (hp : patOk K pat code groups = true) (hT : s.TypeIs (.ref pat) "re.Pattern") (hg' : groups ≤ 100)
    (h : wpAny (model prog w) A.in1 (reRunToEnd (Sre.forMatch code x.cps groups 0 (min (2 ^ 63 - 1) x.cps.size) true false)) (fun r s' => match r with
      | some mf => wrongSpan groups mf = false ∧ ∀ v s'', MtNew x ((mf.start : Int) :: (mf.handed : Int) :: spansOf groups mf) s' v s'' → Q v s''
      | none => Q .none s') NoE s) :
    wpAny (model prog w) A (call (.builtin "re.Pattern.fullmatch") [.ref pat, .str x tx] []) Q NoE s := by
  refine wpAny_call (codeAny_call_builtin slot_full.plain entry_full (slot_full.check _ _ _ _ _ _ _ _ hT (args_full _ _) ?_))
  unfold Builtin.«re.Pattern.fullmatch»
  refine wpAny_bind (target_ok0 X hp ?_)
  refine wpAny_mono (answer_ok (Q := Q) (x := x) (tx := tx) (groups := groups) rfl rfl hg' h) ?_ (fun _ _ z => z.elim)
  rintro fin s' ⟨v, rfl, hv⟩
  exact hv
end
end Mine
end

-- part W24
section
open PySem PySem.W PyProof.Rows PySem.SeqAt PySem.Builtin.Re
set_option Elab.async false
set_option linter.unusedVariables false
set_option maxRecDepth 100000
namespace Mine

theorem hd_zw : Sre.header zwCode = (2, 9) := by decide +kernel
theorem hd_op : Sre.header opCode = (6, 15) := by decide +kernel
theorem hd_cl : Sre.header clCode = (6, 17) := by decide +kernel
theorem fm_gen {code text : Array Nat} {g i lim body least : Nat} {whole : Bool} (hh : Sre.header code = (least, body)) (h : i + least ≤ lim) :
    ∃ sn, Sre.forMatch code text g i lim whole false = Re.mach ⟨code, text, lim, 0, whole⟩ (Re.q0 body i (Array.replicate (2 * g) none)) sn := by
  have hc : ¬ ((Sre.header code).1 != 0 && decide (i ≤ lim) && decide (lim - i < (Sre.header code).1)) = true := by
    rw [hh]; simp; omega
  have hb : (Sre.header code).2 = body := by rw [hh]
  refine ⟨if (Sre.header code).2 == 0 then {} else ({} : Sre.Seen).add 14, ?_⟩
  subst hb
  unfold Sre.forMatch
  exact if_neg hc
theorem fm_short {code text : Array Nat} {g i lim body least : Nat} {whole : Bool} (hh : Sre.header code = (least, body)) (h0 : least ≠ 0) (hi : i ≤ lim) (h : lim < i + least) :
    ∃ mf, Sre.M.runFor 1 (Sre.forMatch code text g i lim whole false) = mf ∧ mf.outcome = some .failed := by
  have hc : ((Sre.header code).1 != 0 && decide (i ≤ lim) && decide (lim - i < (Sre.header code).1)) = true := by
    rw [hh]; simp; omega
  refine ⟨_, rfl, ?_⟩
  have e : Sre.forMatch code text g i lim whole false = (Re.mach ⟨code, text, lim, 0, whole⟩ { Re.q0 (Sre.header code).2 i (Array.replicate (2 * g) none) with answer := some false } (if (Sre.header code).2 == 0 then {} else ({} : Sre.Seen).add 14)) := by
    unfold Sre.forMatch
    exact if_pos hc
  rw [e]
  rfl

/-- the search of the close: its start -/
theorem fs_cl {text : Array Nat} {i lim : Nat} (h : i + 6 ≤ lim) : ∃ sn, Sre.forSearch clCode text 1 i lim false = Re.mach (Re.ccfg text lim) (Re.qs i true (Array.replicate 2 none)) sn := by
  have hc : ¬ (decide (i > lim) || decide (lim - i < (Sre.header clCode).1)) = true := by
    rw [hd_cl]; simp; omega
  have hf : ∀ m : Sre.M, m.code = clCode → (!m.hasFirstSet) = true := fun m h => by
    unfold Sre.M.hasFirstSet
    simp only [h]
    decide +kernel
  unfold Sre.forSearch
  dsimp only
  rw [if_neg hc, if_neg (by rw [hd_cl]; decide +kernel)]
  unfold Sre.M.attemptFrom
  rw [if_pos (hf _ rfl)]
  refine ⟨if (Sre.header clCode).2 == 0 then {} else ({} : Sre.Seen).add 14, ?_⟩
  have e : ∀ b : Nat, b = 17 → Re.mach (Re.ccfg text lim) { Re.qs i true (Array.replicate 2 none) with pc := b, frames := [{ Re.sframe i true with pc := b }] } (if (Sre.header clCode).2 == 0 then {} else ({} : Sre.Seen).add 14) =
    Re.mach (Re.ccfg text lim) (Re.qs i true (Array.replicate 2 none)) (if (Sre.header clCode).2 == 0 then {} else ({} : Sre.Seen).add 14) := fun b hb => by subst hb; rfl
  exact Eq.trans (b := Re.mach (Re.ccfg text lim) { Re.qs i true (Array.replicate 2 none) with pc := (Sre.header clCode).2, frames := [{ Re.sframe i true with pc := (Sre.header clCode).2 }] } (if (Sre.header clCode).2 == 0 then {} else ({} : Sre.Seen).add 14)) rfl
    (e _ (by rw [hd_cl]))
end Mine
end

-- part W25
section
open PySem PySem.W PyProof.Rows PySem.SeqAt PySem.Builtin.Re
set_option Elab.async false
set_option linter.unusedVariables false
set_option maxRecDepth 100000
namespace Mine

theorem fs_short {text : Array Nat} {i lim : Nat} (h : lim < i + 6) : ∃ mf, Sre.M.runFor 1 (Sre.forSearch clCode text 1 i lim false) = mf ∧ mf.outcome = some .failed := by
  have hc : (decide (i > lim) || decide (lim - i < (Sre.header clCode).1)) = true := by
    rw [hd_cl]; simp; omega
  refine ⟨_, rfl, ?_⟩
  have e : Sre.forSearch clCode text 1 i lim false = (Re.mach ⟨clCode, text, lim, 0, false⟩ { Re.q0 (Sre.header clCode).2 i (Array.replicate (2 * 1) none) with answer := some false } (if (Sre.header clCode).2 == 0 then {} else ({} : Sre.Seen).add 14)) := by
    unfold Sre.forSearch
    exact if_pos hc
  rw [e]
  rfl

theorem closeLen_some {text : Array Nat} {lim s n : Nat} (h : Re.closeLen text lim s = some n) : (n = 6 ∨ n = 7) ∧ s + n ≤ lim := by
  unfold Re.closeLen at h
  split at h
  · split at h
    · cases h; constructor <;> omega
    · split at h
      · cases h; constructor <;> omega
      · cases h
  · cases h
theorem firstClose_bound {text : Array Nat} {lim : Nat} : ∀ (f s p n : Nat), Re.firstClose text lim f s = some (p, n) → (n = 6 ∨ n = 7) ∧ p + n ≤ lim ∧ s ≤ p
  | 0, s, p, n, h => by cases h
  | f + 1, s, p, n, h => by
    unfold Re.firstClose at h
    split at h
    · rename_i k hk
      cases h
      exact ⟨(closeLen_some hk).1, (closeLen_some hk).2, Nat.le_refl _⟩
    · obtain ⟨h1, h2, h3⟩ := firstClose_bound f (s + 1) p n h
      exact ⟨h1, h2, by omega⟩

section
variable {MM : Model} {A : Around} {s : Shared}
theorem search_run {x : Str} {i : Nat} (hi : i ≤ x.cps.size) (hs : x.cps.size ≤ 4000000) : wpAny MM A (reRunToEnd (Sre.forSearch clCode x.cps 1 i x.cps.size false)) (fun r s' => s' = s ∧ (match Re.firstClose x.cps x.cps.size (x.cps.size + 1 - i) i with
    | some (p, n) => ∃ mf : Sre.M, r = some mf ∧ mf.start = p ∧ mf.handed = p + n ∧ spansOf 1 mf = [((p + 5 : Nat) : Int), ((p + n : Nat) : Int)] ∧ wrongSpan 1 mf = false
    | none => r = none)) NoE s := by
  rcases Nat.lt_or_ge x.cps.size (i + 6) with h | h
  · obtain ⟨mf, h1, h2⟩ := fs_short (text := x.cps) h
    have hn : Re.firstClose x.cps x.cps.size (x.cps.size + 1 - i) i = none := by
      cases q : Re.firstClose x.cps x.cps.size (x.cps.size + 1 - i) i with
      | none => rfl
      | some pn => obtain ⟨p, n⟩ := pn; have := firstClose_bound _ _ _ _ q; omega
    rw [hn]
    exact run_ok h1 (by decide) (.inr ⟨h2, rfl, rfl⟩)
  · obtain ⟨sn, e⟩ := fs_cl (text := x.cps) h
    rw [e]
    refine to_ok (Re.cl_search (x.cps.size + 1 - i) i true (Array.replicate 2 none) (by simp) (by omega) (by omega)) (by omega) ?_
    intro q' hq
    cases hfc : Re.firstClose x.cps x.cps.size (x.cps.size + 1 - i) i with
    | none =>
      rw [hfc] at hq
      exact ⟨hq.2, .inr ⟨hq.1, rfl, rfl⟩⟩
    | some pn =>
      obtain ⟨p, n⟩ := pn
      rw [hfc] at hq
      obtain ⟨m, ⟨hm0, hm1⟩, y⟩ := hq
      obtain ⟨hb1, hb2, hb3⟩ := firstClose_bound _ _ _ _ hfc
      refine ⟨y.fr, .inl ⟨y.ans, fun mf k1 k2 k3 k4 k5 => ⟨rfl, mf, rfl, by rw [k4, y.st], by rw [k5, y.e], ?_, ?_⟩⟩⟩
      · unfold spansOf
        have hl : mf.lastmark = 1 := by rw [k2, y.lm]
        have hmk : mf.marks = m := by rw [k1, y.mks]
        simp only [hl, hmk, show List.range 1 = [0] from rfl, List.flatMap_cons, List.flatMap_nil, Nat.mul_zero, Nat.zero_add, hm0, hm1]
        rfl
      · unfold wrongSpan
        have hl : mf.lastmark = 1 := by rw [k2, y.lm]
        have hmk : mf.marks = m := by rw [k1, y.mks]
        simp only [hl, hmk, show List.range 1 = [0] from rfl, List.any_cons, List.any_nil, Nat.mul_zero, Nat.zero_add, hm0, hm1]
        simp
        omega
end
end Mine
end

-- part W26
section
open PySem PySem.W PyProof.Rows PySem.SeqAt PySem.Builtin.Re
set_option Elab.async false
set_option linter.unusedVariables false
set_option maxRecDepth 100000
namespace Mine

theorem plainAttrs_mt : PlainAttrs "re.Match" :=
  ⟨⟨"object.__getattribute__", by rw [typeLookup_type, builtinLookup_eq_fast]; kernel_rfl, by decide +kernel⟩, by rw [typeLookup_type, builtinLookup_eq_fast]; kernel_rfl⟩
theorem slot_start : Slot "re.Match" "start" "re.Match.start" :=
  Slot.of (owner := "re.Match") (n := "start") (by rw [typeLookup_type, builtinLookup_eq_fast]; kernel_rfl) (by decide +kernel) (by decide +kernel) (by decide +kernel) (.inr (by decide +kernel)) (by rw [isSubtype_type]; kernel_rfl)
theorem slot_end : Slot "re.Match" "end" "re.Match.end" :=
  Slot.of (owner := "re.Match") (n := "end") (by rw [typeLookup_type, builtinLookup_eq_fast]; kernel_rfl) (by decide +kernel) (by decide +kernel) (by decide +kernel) (.inr (by decide +kernel)) (by rw [isSubtype_type]; kernel_rfl)
theorem slot_group : Slot "re.Match" "group" "re.Match.group" :=
  Slot.of (owner := "re.Match") (n := "group") (by rw [typeLookup_type, builtinLookup_eq_fast]; kernel_rfl) (by decide +kernel) (by decide +kernel) (by decide +kernel) (.inr (by decide +kernel)) (by rw [isSubtype_type]; kernel_rfl)
theorem type_start : typeOf (.builtin "re.Match.start") = pure (.type "method_descriptor") := by show builtinType _ = _; rw [builtinType_eq_fast]; kernel_rfl
theorem type_end : typeOf (.builtin "re.Match.end") = pure (.type "method_descriptor") := by show builtinType _ = _; rw [builtinType_eq_fast]; kernel_rfl
theorem type_group : typeOf (.builtin "re.Match.group") = pure (.type "method_descriptor") := by show builtinType _ = _; rw [builtinType_eq_fast]; kernel_rfl
theorem entry_start : entryFor table "re.Match.start" = some Builtin.«re.Match.start» := entryFor_of_tree (by kernel_rfl)
theorem entry_end : entryFor table "re.Match.end" = some Builtin.«re.Match.end» := entryFor_of_tree (by kernel_rfl)
theorem entry_group : entryFor table "re.Match.group" = some Builtin.«re.Match.group» := entryFor_of_tree (by kernel_rfl)
theorem args_start (a : Value) : argsOk "re.Match.start" ⟨[a], []⟩ := by unfold argsOk; kernel_rfl
theorem args_end (a : Value) : argsOk "re.Match.end" ⟨[a], []⟩ := by unfold argsOk; kernel_rfl
theorem args_group (a : Value) : argsOk "re.Match.group" ⟨[a], []⟩ := by unfold argsOk; kernel_rfl
theorem args_group1 (a b : Value) : argsOk "re.Match.group" ⟨[a, b], []⟩ := by unfold argsOk; kernel_rfl

section
variable {c : Cx} {m mc : LM} {G : Heap → Prop} {K : AK}
theorem CW.of {pos : Pos} {id : String} {a : AV} {args : List Expr} (hp : (backTo pos (starEach args c.env)).any (·.1) = false) (h : EA c m mc G pos args fun as G1 => OF c m mc G1 (.builtin id) (a :: as) K) : CW c m mc G pos id a args K := ⟨fun v s x r => by
  refine callWith_kept (K := c.K) (f := .builtin id) rfl hp (wpAny_imp (h.run s x) ?_)
  rintro vs s1 ⟨as, G1, rs, x1, y1, h1⟩
  refine ⟨x1.gd.k, wpAny_imp (h1.run (v :: vs) s1 x1 ⟨v, vs, rfl, r.step y1, rs⟩) ?_⟩
  rintro u s2 ⟨b, G2, rb, x2, y2, h2⟩
  exact ⟨b, G2, rb, x2, y1.trans y2, h2⟩⟩

theorem mtNew_VR {x : Str} {sp : List Int} {s s' : Shared} {v : Value} (h : MtNew x sp s v s') (hlt : ∀ v ∈ c.V, ∃ o, s.heap.get? v = some o) : VR c.V s'.heap (.mt x sp) v ∧ Stp [] s s' := by
  obtain ⟨a, tpl, tx, f1, f2, f3, f4, vs, n, rfl, n1, e1, n2, e2, hm, st⟩ := h
  have nn : ∀ b, s.heap.get? b = none → b ∉ c.V := fun b e hb => by obtain ⟨o, e'⟩ := hlt b hb; rw [e] at e'; cases e'
  exact ⟨⟨a, tpl, tx, f1, f2, f3, f4, vs, n, rfl, nn a n1, e1, nn tpl n2, e2, hm⟩, st⟩

theorem OF.search {n : Nat} {pat : Addr} {x : Str} {i : Int} (ok : CxOk c n) (hp : patOk c.K pat clCode 1 = true) (hT : ∀ s : Shared, c.K.In s.heap → s.TypeIs (.ref pat) "re.Pattern") (h0 : 0 ≤ i) (hi : i ≤ x.cps.size) (hs : x.cps.size ≤ 4000000)
    (h : match Re.firstClose x.cps x.cps.size (x.cps.size + 1 - i.toNat) i.toNat with
      | some (p, n) => K (.mt x [(p : Int), ((p + n : Nat) : Int), ((p + 5 : Nat) : Int), ((p + n : Nat) : Int)]) G
      | none => K .none G) : OF c m mc G (.builtin "re.Pattern.search") [.raw (.ref pat), .str x, .int i] K := ⟨fun vs s at0 r => by
  obtain ⟨v, vr, rfl, rfl, v2, vr2, rfl, ⟨tx, rfl⟩, v3, vr3, rfl, ⟨ti, rfl⟩, rfl⟩ := r
  have e1 : min i.toNat x.cps.size = i.toNat := by omega
  have e2 : min (2 ^ 63 - 1) x.cps.size = x.cps.size := by omega
  refine call_search (K := c.K) at0.gd.k hp (hT s at0.gd.k) (by decide) h0 (by omega) ?_
  rw [e1, e2]
  refine wpAny_imp (search_run (x := x) (i := i.toNat) (by omega) hs) ?_
  rintro r s' ⟨rfl, hr⟩
  cases hfc : Re.firstClose x.cps x.cps.size (x.cps.size + 1 - i.toNat) i.toNat with
  | none =>
    rw [hfc] at hr h
    subst hr
    exact ⟨.none, G, rfl, at0, .refl _ _, h⟩
  | some pn =>
    obtain ⟨p, n⟩ := pn
    rw [hfc] at hr h
    obtain ⟨mf, rfl, k1, k2, k3, k4⟩ := hr
    refine ⟨k4, fun v s'' hn => ?_⟩
    rw [k1, k2, k3] at hn
    obtain ⟨rv, st⟩ := mtNew_VR (c := c) hn at0.gd.lt
    exact ⟨_, G, rv, at0.pure st, st.mono (by simp), h⟩⟩
end
end Mine
end

-- part W27
section
open PySem PySem.W PyProof.Rows PySem.SeqAt PySem.Builtin.Re
set_option Elab.async false
set_option linter.unusedVariables false
set_option maxRecDepth 100000
namespace Mine

section
variable {prog : Program} {w : World} {A : Around} {s : Shared} {V : List Addr} {x : Str} {sp : List Int} {v : Value}
theorem found_ok {Q : ReFound → Shared → Prop} {E : Value → Shared → Prop} (r : VR V s.heap (.mt x sp) v) (h : ∀ fs tx, fs.getD 0 .none = .str x tx → Q { fields := fs, spans := sp.toArray } s) : wpAny (model prog w) A (reFound v) Q E s := by
  obtain ⟨a, tpl, tx, f1, f2, f3, f4, vs, n, rfl, _, ho, _, ho2, hm⟩ := r
  unfold reFound
  refine wpAny_bind (wpAny_fieldsOf ho rfl ?_)
  unfold reRawItems
  refine wpAny_bind (wpAny_bind (wpAny_seqItems ho2 rfl (wpAny_pure ?_)))
  refine wpAny_pure ?_
  rw [Option.getD_some, hm]
  exact h _ tx rfl
theorem mt_type (r : VR V s.heap (.mt x sp) v) : s.TypeIs v "re.Match" := by
  obtain ⟨a, tpl, tx, f1, f2, f3, f4, vs, n, rfl, _, ho, _⟩ := r
  exact ⟨_, ho, rfl⟩
theorem mt_plain (r : VR V s.heap (.mt x sp) v) : ∀ p, v = .ref p → ∃ ob, s.heap.get? p = some ob ∧ ob.dict = none := by
  obtain ⟨a, tpl, tx, f1, f2, f3, f4, vs, n, rfl, _, ho, _⟩ := r
  intro p e
  cases e
  exact ⟨_, ho, rfl⟩
end

section
variable {c : Cx} {m mc : LM} {G : Heap → Prop} {K : AK}
theorem OF.start {x : Str} {sp : List Int} (k : K (.int (sp.toArray.getD 0 (-1))) G) : OF c m mc G (.builtin "re.Match.start") [.mt x sp] K := ⟨fun vs s at0 r => by
  obtain ⟨v, vr, rfl, rv, rfl⟩ := r
  refine wpAny_call (codeAny_call_builtin slot_start.plain entry_start (slot_start.check _ _ _ _ _ _ _ _ (mt_type rv) (args_start _) ?_))
  unfold Builtin.«re.Match.start» Builtin.Re.reOneGroup
  refine wpAny_bind (wpAny_bind (wpAny_of_eq (show selfAndSome "Match.start" "start" 0 1 ⟨[v], []⟩ = pure (v, []) from by kernel_rfl) ?_))
  refine wpAny_bind (found_ok rv fun fs tx hfs => ?_)
  refine wpAny_bind (wpAny_pure (wpAny_pure ?_))
  unfold retInt
  refine wpAny_bind (wpAny_mkInt ?_)
  exact wpAny_pure ⟨.int _, G, ⟨_, rfl⟩, at0.pure (.toks _ _), .toks _ _, k⟩⟩
theorem OF.end {x : Str} {sp : List Int} (k : K (.int (sp.toArray.getD 1 (-1))) G) : OF c m mc G (.builtin "re.Match.end") [.mt x sp] K := ⟨fun vs s at0 r => by
  obtain ⟨v, vr, rfl, rv, rfl⟩ := r
  refine wpAny_call (codeAny_call_builtin slot_end.plain entry_end (slot_end.check _ _ _ _ _ _ _ _ (mt_type rv) (args_end _) ?_))
  unfold Builtin.«re.Match.end» Builtin.Re.reOneGroup
  refine wpAny_bind (wpAny_bind (wpAny_of_eq (show selfAndSome "Match.end" "end" 0 1 ⟨[v], []⟩ = pure (v, []) from by kernel_rfl) ?_))
  refine wpAny_bind (found_ok rv fun fs tx hfs => ?_)
  refine wpAny_bind (wpAny_pure (wpAny_pure ?_))
  unfold retInt
  refine wpAny_bind (wpAny_mkInt ?_)
  exact wpAny_pure ⟨.int _, G, ⟨_, rfl⟩, at0.pure (.toks _ _), .toks _ _, k⟩⟩
theorem OF.group {x : Str} {sp : List Int} {b e : Int} (hb : sp.toArray.getD 0 (-1) = b) (he : sp.toArray.getD 1 (-1) = e) (h0 : 0 ≤ b) (h1 : 0 ≤ e) (hz : (x.cps.extract b.toNat e.toNat).size ≤ sizeLine) (k : K (.str ⟨x.cps.extract b.toNat e.toNat⟩) G) :
    OF c m mc G (.builtin "re.Match.group") [.mt x sp] K := ⟨fun vs s at0 r => by
  obtain ⟨v, vr, rfl, rv, rfl⟩ := r
  refine wpAny_call (codeAny_call_builtin slot_group.plain entry_group (slot_group.check _ _ _ _ _ _ _ _ (mt_type rv) (args_group _) ?_))
  unfold Builtin.«re.Match.group»
  refine wpAny_bind (wpAny_of_eq (show noKeywords "Match.group" ⟨[v], []⟩ = pure () from by kernel_rfl) ?_)
  refine wpAny_bind (found_ok rv fun fs tx hfs => ?_)
  refine wpAny_bind (m := reGroupText _ 0 .none) ?_
  unfold reGroupText
  dsimp only
  rw [show (2 * 0 : Nat) = 0 from rfl, show (0 + 1 : Nat) = 1 from rfl, hb, he, if_neg (by simp; omega)]
  rw [hfs]
  refine wpAny_bind (wpAny_of_eq (show reTextOf (.str x tx) = pure (x.cps, 0) from rfl) ?_)
  show wpAny _ _ (mkStr ⟨x.cps.extract b.toNat e.toNat⟩) _ _ _
  refine wpAny_mkStr ?_ hz
  exact wpAny_pure ⟨.str ⟨x.cps.extract b.toNat e.toNat⟩, G, ⟨_, rfl⟩, at0.pure (.toks _ _), .toks _ _, k⟩⟩
end
end Mine
end

-- part W29
section
open PySem PySem.W PyProof.Rows PySem.SeqAt PySem.Builtin.Re PySem.Calls
set_option Elab.async false
set_option linter.unusedVariables false
set_option maxRecDepth 100000
namespace Mine

section
variable {c : Cx} {m mc : LM} {G : Heap → Prop} {K : AK}
theorem OF.groupN {x : Str} {sp : List Int} {b e : Int} {g : Nat} (hg : 2 * g + 1 < sp.length) (hg2 : g < 1000) (hb : sp.toArray.getD (2 * g) (-1) = b) (he : sp.toArray.getD (2 * g + 1) (-1) = e) (h0 : 0 ≤ b) (h1 : 0 ≤ e)
    (hz : (x.cps.extract b.toNat e.toNat).size ≤ sizeLine) (k : K (.str ⟨x.cps.extract b.toNat e.toNat⟩) G) :
    OF c m mc G (.builtin "re.Match.group") [.mt x sp, .int (g : Int)] K := ⟨fun vs s at0 r => by
  obtain ⟨v, vr, rfl, rv, v2, vr2, rfl, ⟨t2, rfl⟩, rfl⟩ := r
  refine wpAny_call (codeAny_call_builtin slot_group.plain entry_group (slot_group.check _ _ _ _ _ _ _ _ (mt_type rv) (args_group1 _ _) ?_))
  unfold Builtin.«re.Match.group»
  refine wpAny_bind (wpAny_of_eq (show noKeywords "Match.group" ⟨[v, .int (g : Int) t2], []⟩ = pure () from by kernel_rfl) ?_)
  refine wpAny_bind (found_ok rv fun fs tx hfs => ?_)
  refine wpAny_bind (m := reGroupNumber _ _) ?_
  unfold reGroupNumber
  refine wpAny_bind (m := asInt? _) (wpAny_of_eq (show asInt? (.int (g : Int) t2) = pure (some (g : Int)) from rfl) ?_)
  refine wpAny_bind (wpAny_of_eq (show asIndex (.int (g : Int) t2) = pure (g : Int) from rfl) ?_)
  dsimp only
  rw [if_neg (by simp; omega)]
  refine wpAny_pure ?_
  refine wpAny_bind (m := reGroupText _ _ .none) ?_
  unfold reGroupText
  dsimp only
  rw [Int.toNat_natCast, hb, he, if_neg (by simp; omega)]
  rw [hfs]
  refine wpAny_bind (wpAny_of_eq (show reTextOf (.str x tx) = pure (x.cps, 0) from rfl) ?_)
  show wpAny _ _ (mkStr ⟨x.cps.extract b.toNat e.toNat⟩) _ _ _
  refine wpAny_mkStr ?_ hz
  exact wpAny_pure ⟨.str ⟨x.cps.extract b.toNat e.toNat⟩, G, ⟨_, rfl⟩, at0.pure (.toks _ _), .toks _ _, k⟩⟩

/-- keyword arguments -/
structure EK (c : Cx) (m mc : LM) (G : Heap → Prop) (pos : Pos) (ks : List Keyword) (K : List AV → (Heap → Prop) → Prop) : Prop where
  run : LJ c m mc G (evalAll ((backToKw pos (keywordEach ks c.env)).map (·.2))) K
theorem EK.nil {pos : Pos} {K : List AV → (Heap → Prop) → Prop} (k : K [] G) : EK c m mc G pos [] K := ⟨fun s x => wpAny_evalAll_nil ⟨[], G, rfl, x, .refl _ _, k⟩⟩
theorem EK.cons {pos : Pos} {nm : Option Str} {e : Expr} {p : Pos} {ks : List Keyword} {K : List AV → (Heap → Prop) → Prop} (h : EV c m mc G e fun a G1 => EK c m mc G1 pos ks fun as G2 => K (a :: as) G2) : EK c m mc G pos (⟨nm, e, p⟩ :: ks) K := ⟨fun s x => by
  show wpAny _ _ (evalAll ((do let v ← eval e c.env; standAt pos; pure v) :: (backToKw pos (keywordEach ks c.env)).map (·.2))) _ _ _
  refine wpAny_evalAll_cons (wpAny_bind (wpAny_imp (h.run s x) ?_))
  rintro v s1 ⟨a, G1, ra, x1, y1, h1⟩
  refine wpAny_bind (wpAny_standAt (wpAny_pure (wpAny_imp (h1.run s1 x1) ?_)))
  rintro vs s2 ⟨as, G2, rs, x2, y2, h2⟩
  exact ⟨a :: as, G2, ⟨v, vs, rfl, ra.step y2, rs⟩, x2, y1.trans y2, h2⟩⟩

/-- a call of a class with keywords alone; f is what the name gives -/
theorem EV.callK {id : Str} {p pos : Pos} {ks : List Keyword} (C : Addr) (hk : keepIn c.K (.ref C) = true) (hall : (backToKw pos (keywordEach ks c.env)).all (·.1.isSome) = true)
    (hplain : ((backTo pos (starEach [] c.env)).any (·.1) || (backToKw pos (keywordEach ks c.env)).any (·.1.isNone)) = false)
    (h : EV c m mc G (.Name id p) fun a G1 => a = .raw (.ref C) ∧ EK c m mc G1 pos ks fun as G2 => ∀ vs s, At c m mc G2 s → VRs c.V s.heap as vs →
      wpAny c.M c.A (call (.ref C) [] (((backToKw pos (keywordEach ks c.env)).filterMap (·.1)).zip vs)) (fun v s' => ∃ a G', VR c.V s'.heap a v ∧ At c m mc G' s' ∧ Stp c.D s s' ∧ K a G') NoE s) :
    EV c m mc G (.Call (.Name id p) [] ks pos) K := ⟨fun s x => by
  rw [arm_eval_Call_Name']
  refine wpAny_bind (wpAny_imp (h.run s x) ?_)
  rintro v s1 ⟨a, G1, ra, x1, y1, rfl, h1⟩
  cases ra
  refine callWith_KW0 (K := c.K) (h₀ := s1.heap) x1.gd.k hk hall (wpAny_imp (h1.run s1 x1) ?_) hplain
  rintro vs s2 ⟨as, G2, rs, x2, y2, h2⟩
  refine ⟨x2.gd.k, wpAny_imp (h2 vs s2 x2 rs) ?_⟩
  rintro u s3 ⟨b, G3, rb, x3, y3, h3⟩
  exact ⟨b, G3, rb, x3, y1.trans (y2.trans y3), h3⟩⟩
end
end Mine
end

-- part W35
section
open PySem PySem.W PyProof.Rows
set_option Elab.async false
set_option linter.unusedVariables false
namespace Mine
section
variable {c : Cx} {m mc : LM} {G : Heap → Prop} {K : AK}
theorem OF.lenS {x : Str} (hz : x.length < 2 ^ 62) (k : K (.int (x.length : Int)) G) : OF c m mc G (.builtin "len") [.str x] K := ⟨fun vs s at0 r => by
  obtain ⟨v, vr, rfl, ⟨t, rfl⟩, rfl⟩ := r
  exact PySem.P.len_str (by omega) ⟨.int _, G, ⟨_, rfl⟩, at0.pure (.toks _ _), .toks _ _, k⟩⟩
theorem OF.lenL {l : List AV} (hz : l.length < 2 ^ 62) (k : K (.int (l.length : Int)) G) : OF c m mc G (.builtin "len") [.lst l] K := ⟨fun vs s at0 r => by
  obtain ⟨v, vr, rfl, ⟨b, us, n, rfl, hb, ho, hl⟩, rfl⟩ := r
  have e : us.toArray.size = l.length := by rw [List.size_toArray, hl.length]
  refine Calls.call_len_list (items := us.toArray) ⟨_, ho, rfl, n, rfl⟩ (by rw [e]; omega) ?_
  rw [e]
  exact ⟨.int _, G, ⟨_, rfl⟩, at0.pure (.toks _ _), .toks _ _, k⟩⟩
theorem OF.lenT {l : List AV} (hz : l.length < 2 ^ 62) (k : K (.int (l.length : Int)) G) : OF c m mc G (.builtin "len") [.tup l] K := ⟨fun vs s at0 r => by
  obtain ⟨v, vr, rfl, ⟨b, us, n, rfl, hb, ho, hl⟩, rfl⟩ := r
  have e : us.toArray.size = l.length := by rw [List.size_toArray, hl.length]
  refine PySem.P.len_tuple (items := us.toArray) (n := n) ho (by rw [e]; omega) ?_
  rw [e]
  exact ⟨.int _, G, ⟨_, rfl⟩, at0.pure (.toks _ _), .toks _ _, k⟩⟩
end
end Mine
end

-- part W36
section
open PySem PySem.W PyProof.Rows
set_option Elab.async false
set_option linter.unusedVariables false
namespace Mine
section
variable {c : Cx} {m mc : LM} {G : Heap → Prop} {K : AK}
theorem X1.retNone {KF : FK} {pos : Pos} (k : KF (.ret .none) m mc G) : X1 c m mc G (.Return Option.none pos) KF := ⟨fun s x => wpAny_Return_none ⟨.ret .none, m, mc, G, ⟨_, rfl, rfl⟩, x, .refl _ _, k⟩⟩
theorem X1.pass {KF : FK} {pos : Pos} (k : KF .next m mc G) : X1 c m mc G (.Pass pos) KF := ⟨fun s x => wpAny_Pass ⟨.next, m, mc, G, rfl, x, .refl _ _, k⟩⟩
theorem OS.str {value slice : Expr} {x : Str} {i : Int} (h0 : 0 ≤ i) (h1 : i < x.length) (hz : x.length < 2 ^ 60) (k : K (.str (Txt.item x i)) G)
    (hs : ∀ t u, subscripted slice false (.str x t) (.int i u) = operate [.str x t, .int i u] (getItem (.str x t) (.int i u)) := by intro t u; with_unfolding_all rfl)
    (ht : ∀ t r, letTemporaryGo value (.str x t) r = pure () := by intro _ _; with_unfolding_all rfl) : OS c m mc G value slice (.str x) (.int i) K := ⟨fun vs s at0 r => by
  obtain ⟨v, vr, rfl, ⟨t, rfl⟩, u, ur, rfl, ⟨t', rfl⟩, rfl⟩ := r
  exact item_str (by unfold fitsSsize; simp; omega) (by omega) h1 (fun _ => ⟨.str (Txt.item x i), G, ⟨_, rfl⟩, at0.pure (.toks _ _), .toks _ _, k⟩) (hs _ _) (ht _)⟩
end
end Mine
end

-- part W38
section
open PySem PySem.W PyProof.Rows
set_option Elab.async false
set_option linter.unusedVariables false
namespace Mine
section
variable {c : Cx} {m mc : LM} {G : Heap → Prop} {K : AK}

theorem slice_post {x : Str} {t : Tok} {l u : Option (Int × Tok)} {Q : Value → Shared → Prop} {s : Shared} (hsz : x.length ≤ sizeLine) (h : ∀ t' k, Q (.str (Txt.slice x (l.map (·.1)) (u.map (·.1))) t') { s with toks := k }) : (sliceMade x t l u none).post Q s :=
  post_val_or_str ⟨Nat.le_trans (Txt.slice_le x _ _) hsz, h⟩

theorem EV.sliceSS {value lo hi : Expr} {p pos : Pos}
    (h : EV c m mc G value fun a G1 => EV c m mc G1 lo fun b G2 => EV c m mc G2 hi fun d G3 => ∃ x i j, a = .str x ∧ b = .int i ∧ d = .int j ∧ x.length ≤ sizeLine ∧ K (.str (Txt.slice x (some i) (some j))) G3)
    (ht : ∀ o r, letTemporaryGo value o r = pure () := by intro _ _; rfl) : EV c m mc G (.Subscript value (.Slice (some lo) (some hi) Option.none p) pos) K := ⟨fun s x0 => by
  refine wpAny_Subscript_str_slice (wpAny_imp (h.run s x0) ?_) ht
  rintro v s1 ⟨a, G1, ra, x1, y1, h1⟩
  refine wpAny_imp (h1.run s1 x1) ?_
  rintro vl s2 ⟨b, G2, rb, x2, y2, h2⟩
  refine wpAny_imp (h2.run s2 x2) ?_
  rintro vu s3 ⟨d, G3, rd, x3, y3, x, i, j, rfl, rfl, rfl, hz, k⟩
  obtain ⟨t, rfl⟩ := ra
  obtain ⟨ti, rfl⟩ := rb
  obtain ⟨tj, rfl⟩ := rd
  refine ⟨x, t, some (i, ti), some (j, tj), rfl, rfl, rfl, slice_post hz fun t' k' => ?_⟩
  have st : Stp [] s3 { s3 with heap := s3.heap.push { cls := .type "slice", data := .fields #[.int i ti, .int j tj, .none] }, toks := k' } := Stp.grow (fun b o e => Heap.get?_push_of_some _ e) rfl rfl
  exact ⟨.str _, G3, ⟨_, rfl⟩, x3.pure st, y1.trans (y2.trans (y3.trans (st.mono (by simp)))), k⟩⟩

theorem EV.sliceSN {value lo : Expr} {p pos : Pos}
    (h : EV c m mc G value fun a G1 => EV c m mc G1 lo fun b G2 => ∃ x i, a = .str x ∧ b = .int i ∧ x.length ≤ sizeLine ∧ K (.str (Txt.slice x (some i) Option.none)) G2)
    (ht : ∀ o r, letTemporaryGo value o r = pure () := by intro _ _; rfl) : EV c m mc G (.Subscript value (.Slice (some lo) Option.none Option.none p) pos) K := ⟨fun s x0 => by
  refine wpAny_Subscript_str_slice (wpAny_imp (h.run s x0) ?_) ht
  rintro v s1 ⟨a, G1, ra, x1, y1, h1⟩
  refine wpAny_imp (h1.run s1 x1) ?_
  rintro vl s2 ⟨b, G2, rb, x2, y2, x, i, rfl, rfl, hz, k⟩
  obtain ⟨t, rfl⟩ := ra
  obtain ⟨ti, rfl⟩ := rb
  rw [evalPart_none]
  refine wpAny_pure ⟨x, t, some (i, ti), Option.none, rfl, rfl, rfl, slice_post hz fun t' k' => ?_⟩
  have st : Stp [] s2 { s2 with heap := s2.heap.push { cls := .type "slice", data := .fields #[.int i ti, .none, .none] }, toks := k' } := Stp.grow (fun b o e => Heap.get?_push_of_some _ e) rfl rfl
  exact ⟨.str _, G2, ⟨_, rfl⟩, x2.pure st, y1.trans (y2.trans (st.mono (by simp))), k⟩⟩

theorem VRs.drop {V : List Addr} {h : Heap} : ∀ {l : List AV} {vs : List Value} (i : Nat), VRs V h l vs → VRs V h (l.drop i) (vs.drop i)
  | _, _, 0, x => by simpa using x
  | [], _, i + 1, x => by cases x; exact rfl
  | a :: r, _, i + 1, ⟨v, vr, e, x, y⟩ => by subst e; simpa using y.drop i
theorem VRs.take {V : List Addr} {h : Heap} : ∀ {l : List AV} {vs : List Value} (i : Nat), VRs V h l vs → VRs V h (l.take i) (vs.take i)
  | _, _, 0, x => by simp; exact rfl
  | [], _, i + 1, x => by cases x; exact rfl
  | a :: r, _, i + 1, ⟨v, vr, e, x, y⟩ => by subst e; exact ⟨v, _, rfl, x, y.take i⟩

theorem push2 {h : Heap} {o1 o2 : Obj} (ho : o2.isFreed = false) : ((h.push o1).push o2).get? (h.objs.size + 1) = some o2 := by
  have := Heap.get?_push_size (h.push o1) ho
  rwa [Heap.size_push] at this

theorem EV.sliceLN {value hi : Expr} {p pos : Pos}
    (h : EV c m mc G value fun a G1 => EV c m mc G1 hi fun b G2 => ∃ l i, a = .lst l ∧ b = .int i ∧ 0 ≤ i ∧ l.length ≤ sizeLine ∧ K (.lst (l.take i.toNat)) G2)
    (ht : ∀ o r, letTemporaryGo value o r = pure () := by intro _ _; rfl) : EV c m mc G (.Subscript value (.Slice Option.none (some hi) Option.none p) pos) K := ⟨fun s x0 => by
  refine wpAny_Subscript_list_slice (wpAny_imp (h.run s x0) ?_) ht
  rintro v s1 ⟨a, G1, ra, x1, y1, h1⟩
  rw [evalPart_none]
  refine wpAny_pure (wpAny_imp (h1.run s1 x1) ?_)
  rintro vl s2 ⟨b, G2, rb, x2, y2, l, i, rfl, rfl, h0, hz, k⟩
  obtain ⟨L, vs, n, rfl, hL, ho, hvs⟩ := VR.step ra y2
  obtain ⟨ti, rfl⟩ := rb
  have st : Stp [] s2 { s2 with heap := (s2.heap.push { cls := .type "slice", data := .fields #[.none, .int i ti, .none] }).push { cls := .type "list", data := .seq (slicePick vs.toArray Option.none (some i) Option.none) } } := Stp.grow (fun b o e => Heap.get?_push_of_some _ (Heap.get?_push_of_some _ e)) rfl rfl
  refine ⟨L, vs.toArray, Option.none, some i, rfl, ⟨_, ho, rfl, n, rfl⟩, by rw [List.size_toArray, hvs.length]; exact hz, .none, .int i ti, .lst (l.take i.toNat), G2, ⟨_, vs.take i.toNat, 0, rfl, ?_, ?_, ?_⟩, x2.pure st, y1.trans (y2.trans (st.mono (by simp))), k⟩
  · intro hv
    obtain ⟨o, e⟩ := x2.gd.lt _ hv
    have := Heap.lt_size e
    exact Nat.lt_irrefl _ (Nat.lt_of_le_of_lt (Nat.le_succ _) this)
  · rw [show slicePick vs.toArray Option.none (some i) Option.none = (vs.take i.toNat).toArray from by
      have := slicePick_upto' vs.toArray i.toNat
      rw [show ((i.toNat : Nat) : Int) = i by omega] at this
      simpa using this]
    exact push2 rfl
  · exact VRs.step (hvs.take _) (st.mono (by simp))⟩

theorem EV.sliceLS {value lo : Expr} {p pos : Pos}
    (h : EV c m mc G value fun a G1 => EV c m mc G1 lo fun b G2 => ∃ l i, a = .lst l ∧ b = .int i ∧ 0 ≤ i ∧ l.length ≤ sizeLine ∧ K (.lst (l.drop i.toNat)) G2)
    (ht : ∀ o r, letTemporaryGo value o r = pure () := by intro _ _; rfl) : EV c m mc G (.Subscript value (.Slice (some lo) Option.none Option.none p) pos) K := ⟨fun s x0 => by
  refine wpAny_Subscript_list_slice (wpAny_imp (h.run s x0) ?_) ht
  rintro v s1 ⟨a, G1, ra, x1, y1, h1⟩
  refine wpAny_imp (h1.run s1 x1) ?_
  rintro vl s2 ⟨b, G2, rb, x2, y2, l, i, rfl, rfl, h0, hz, k⟩
  rw [evalPart_none]
  refine wpAny_pure ?_
  obtain ⟨L, vs, n, rfl, hL, ho, hvs⟩ := VR.step ra y2
  obtain ⟨ti, rfl⟩ := rb
  have st : Stp [] s2 { s2 with heap := (s2.heap.push { cls := .type "slice", data := .fields #[.int i ti, .none, .none] }).push { cls := .type "list", data := .seq (slicePick vs.toArray (some i) Option.none Option.none) } } := Stp.grow (fun b o e => Heap.get?_push_of_some _ (Heap.get?_push_of_some _ e)) rfl rfl
  refine ⟨L, vs.toArray, some i, Option.none, rfl, ⟨_, ho, rfl, n, rfl⟩, by rw [List.size_toArray, hvs.length]; exact hz, .int i ti, .none, .lst (l.drop i.toNat), G2, ⟨_, vs.drop i.toNat, 0, rfl, ?_, ?_, ?_⟩, x2.pure st, y1.trans (y2.trans (st.mono (by simp))), k⟩
  · intro hv
    obtain ⟨o, e⟩ := x2.gd.lt _ hv
    have := Heap.lt_size e
    exact Nat.lt_irrefl _ (Nat.lt_of_le_of_lt (Nat.le_succ _) this)
  · rw [show slicePick vs.toArray (some i) Option.none Option.none = (vs.drop i.toNat).toArray from by
      have := slicePick_from' vs.toArray i.toNat
      rw [show ((i.toNat : Nat) : Int) = i by omega] at this
      simpa using this]
    exact push2 rfl
  · exact VRs.step (hvs.drop _) (st.mono (by simp))⟩
end
end Mine
end

-- part W39
section
open PySem PySem.W PyProof.Rows
set_option Elab.async false
set_option linter.unusedVariables false
set_option maxRecDepth 100000
namespace Mine

/-- the heap part of a step -/
structure Hp (D : List Addr) (s s' : Shared) : Prop where
  keep : ∀ b o, b ∉ D → s.heap.get? b = some o → s'.heap.get? b = some o
  there : ∀ b o, s.heap.get? b = some o → ∃ o', s'.heap.get? b = some o'
theorem Stp.hp {D s s'} (x : Stp D s s') : Hp D s s' := ⟨x.keep, x.there⟩
theorem Hp.refl (D s) : Hp D s s := ⟨fun _ _ _ e => e, fun _ o e => ⟨o, e⟩⟩
theorem Hp.trans {D a b c} (x : Hp D a b) (y : Hp D b c) : Hp D a c :=
  ⟨fun p o hp e => y.keep p o hp (x.keep p o hp e), fun b o e => (let ⟨o', e'⟩ := x.there b o e; y.there b o' e')⟩
theorem Hp.mono {D D' a b} (x : Hp D a b) (h : ∀ d ∈ D, d ∈ D') : Hp D' a b := ⟨fun p o hp e => x.keep p o (fun hd => hp (h p hd)) e, x.there⟩

theorem VR.hp {c : Cx} {s s' : Shared} {a : AV} {v : Value} (x : VR c.V s.heap a v) (y : Hp c.O s s') : VR c.V s'.heap a v :=
  VR.keeps (fun b o hb e => ⟨y.keep b o (fun h => hb (List.mem_append_left _ h)) e, hb⟩) a v x

/-- a step of those that the frame leaves to others -/
theorem At.hp {c : Cx} {m mc : LM} {G : Heap → Prop} {s s' : Shared} (x : At c m mc G s) (y : Hp c.outer s s') (hl : c.env.locals ∉ c.outer) (hc : c.env.cells = []) : At c m mc G s' := by
  have yO : Hp c.O s s' := y.mono fun d h => List.mem_append_right _ h
  refine ⟨?_, ?_, x.locD, x.g.keeps fun b o hb e => yO.keep b o hb e, ?_⟩
  · obtain ⟨f, ⟨o, es, ep, ho, r⟩, h⟩ := x.loc
    exact ⟨f, ⟨o, es, ep, y.keep _ _ hl ho, r⟩, fun n a e => let ⟨v, e1, e2⟩ := h n a e; ⟨v, e1, e2.hp yO⟩⟩
  · intro n a e
    obtain ⟨b, v, h1, _⟩ := x.cel n a e
    rw [hc] at h1
    cases h1
  · refine ⟨fun a o e => y.keep a o (fun hd => ?_) (x.gd.k a o e), ?_, x.gd.hi, fun v hv => let ⟨o, e⟩ := x.gd.lt v hv; y.there v o e⟩
    · have := (x.gd.hi a (List.mem_append_left _ (List.mem_append_right _ hd))).1
      rw [this] at e; cases e
    · obtain ⟨mc', ⟨o, es, ep, ho, r⟩, q⟩ := x.gd.nl
      exact ⟨mc', ⟨o, es, ep, y.keep _ _ (fun hd => (x.gd.hi _ (List.mem_append_left _ (List.mem_append_right _ hd))).2 rfl) ho, r⟩, q⟩

theorem At.norm {c : Cx} {m m0 mc : LM} {G : Heap → Prop} {s : Shared} (x : At c m mc G s) (h : ∀ n a, m0.lookup n = some a → m.lookup n = some a) : At c m0 mc G s :=
  ⟨let ⟨f, hn, hf⟩ := x.loc; ⟨f, hn, fun n a e => hf n a (h n a e)⟩, x.cel, x.locD, x.g, x.gd⟩

structure GN where
  prog : Program
  w : World
  K : Frag
  A : Around
  env : Env
  L : Addr
  O : List Addr
  items : List AV
def GN.cx (d : GN) (code : Code) (fs : List Frame) : Cx := ⟨d.prog, d.w, d.K, d.A.over code fs, d.env, [d.L], d.O, []⟩
def GN.V (d : GN) : List Addr := ([d.L] ++ d.O) ++ []
def GN.P (d : GN) : Nat → Shared → Shared → Prop := fun n s₀ s₁ => n = 0 ∧ Stp [d.L] s₀ s₁
def GN.R (d : GN) : GenEnd := fun n s₀ r s₁ => r = .ok (.ret .none) ∧ d.P n s₀ s₁
def GN.Y (d : GN) : Protocol := fun j s₀ v s₁ kap => ∃ it, d.items.reverse[j]? = some it ∧ VR d.V s₁.heap it v ∧ Stp [d.L] s₀ s₁ ∧ ∀ s'', Hp d.O s₁ s'' → kap (.send .none) s''
def GT : Heap → Prop := fun _ => True
theorem At.reA {d : GN} {code code' : Code} {fs fs' : List Frame} {m mc : LM} {G : Heap → Prop} {s : Shared} (x : At (d.cx code fs) m mc G s) : At (d.cx code' fs') m mc G s :=
  ⟨x.loc, x.cel, x.locD, x.g, ⟨x.gd.k, x.gd.nl, x.gd.hi, x.gd.lt⟩⟩

structure SJ (d : GN) (n : Nat) (code : Code) (fs : List Frame) (m : LM) (t : Sem Fin) : Prop where
  run : ∀ s₀ s, At (d.cx code fs) m [] GT s → Stp [d.L] s₀ s → Seg (model d.prog d.w) d.A d.R d.Y n s₀ code t fs s

section
variable {d : GN} {n : Nat} {code : Code} {fs : List Frame} {m : LM} {KS : Flow → Sem Fin} {H : Value → Sem Fin} {gd : Bool → Bool} {lv : List Value → List Value}

theorem SJ.nil (h : SJ d n code fs m (KS .next)) : SJ d n code fs m ((execs [] d.env).wrap KS H gd lv) := ⟨fun s₀ s x y => seg_execs_nil (h.run s₀ s x y)⟩

def onFlow (KS : Flow → Sem Fin) (rest : Sem Fin) : Flow → Sem Fin := fun f => match f with | .next => rest | f => KS f

theorem SJ.cons {st : Stmt} {rest : List Stmt} (h : SJ d n code fs m ((exec st d.env).wrap (onFlow KS ((execs rest d.env).wrap KS H gd lv)) H gd lv)) : SJ d n code fs m ((execs (st :: rest) d.env).wrap KS H gd lv) :=
  ⟨fun s₀ s x y => seg_execs_cons (h.run s₀ s x y)⟩

theorem Stp.nilD {d : GN} {code fs s s'} (y : Stp ((d.cx code fs).own ++ (d.cx code fs).D) s s') : Stp [d.L] s s' := y.mono fun b hb => by simpa [GN.cx] using hb

/-- a statement without a yield -/
theorem SJ.stmt {st : Stmt} (h : X1 (d.cx code fs) m [] GT st fun fa m' mc' G' => fa = .next ∧ mc' = [] ∧ G' = GT ∧ SJ d n code fs m' (KS .next)) : SJ d n code fs m ((exec st d.env).wrap KS H gd lv) := ⟨fun s₀ s x y => by
  refine seg_wrap (wpAny_mono (h.run s x) ?_ fun _ _ z => z.elim)
  rintro f s1 ⟨fa, m', mc', G', rf, x1, y1, rfl, rfl, rfl, k⟩
  cases rf
  exact k.run s₀ s1 x1 (y.trans y1.nilD)⟩

theorem SJ.iff {test : Expr} {body orelse : List Stmt} {pos : Pos} (h : BT (d.cx code fs) m [] GT test fun b G' => G' = GT ∧ (b = true → SJ d n code fs m ((execs body d.env).wrap KS H gd lv)) ∧ (b = false → SJ d n code fs m ((execs orelse d.env).wrap KS H gd lv))) :
    SJ d n code fs m ((exec (.If test body orelse pos) d.env).wrap KS H gd lv) := ⟨fun s₀ s x y => by
  rw [arm_exec_If]
  show Seg _ _ _ _ _ _ _ (.at pos fun _ => (isTrue test d.env (eval test d.env) >>= fun b => if b = true then execs body d.env else execs orelse d.env).wrap KS H gd lv) _ _
  refine seg_at ?_
  rw [Sem.bind_eq_wrap', Sem.wrap_wrap]
  refine seg_wrap (wpAny_mono (h.run s x) ?_ fun _ _ z => z.elim)
  rintro b s1 ⟨G', x1, y1, rfl, ht, hf⟩
  have y2 : Stp [d.L] s₀ s1 := y.trans (y1.mono (by simp [GN.cx]))
  cases b with
  | true => rw [if_pos rfl]; exact (ht rfl).run s₀ s1 x1 y2
  | false => rw [if_neg (by simp)]; exact (hf rfl).run s₀ s1 x1 y2⟩

theorem SJ.yield {e : Expr} {ypos pos : Pos} (hfs : splitAtGen fs = none) (hgd : gd false = false) (hfg : fs.any Frame.guarded = false) (hL : d.env.locals ∉ d.O) (hcl : d.env.cells = [])
    (h : EV (d.cx code fs) m [] GT e fun a G' => G' = GT ∧ d.items.reverse[n]? = some a ∧ SJ d n code fs m (KS .next))
    (hco : d.env.scope.isCoroutine = false := by rfl) (hi : interactive d.env = false := by rfl) :
    SJ d (n + 1) code fs m ((exec (.Expr (.Yield (some e) ypos) pos) d.env).wrap KS H gd lv) := ⟨fun s₀ s x y => by
  refine seg_Expr_Yield hfs hgd hfg (wpAny_mono (h.run s x) ?_ fun _ _ z => z.elim) hco hi
  rintro v s1 ⟨a, G', ra, x1, y1, rfl, hit, k⟩ kap hk
  have y2 : Stp [d.L] s₀ s1 := y.trans (y1.mono (by simp [GN.cx]))
  refine ⟨a, hit, ra, y2, fun s'' hp => hk _ _ ?_⟩
  exact k.run s'' s'' (x1.hp hp hL hcl) (.refl _ _)⟩
end
end Mine
end

-- part W13
section
open PySem PySem.W PyProof.Rows PySem.SeqAt
set_option Elab.async false
set_option linter.unusedVariables false
set_option maxRecDepth 100000
namespace Mine

/-- the frame with one more address that others may turn -/
def Cx.plus (c : Cx) (I : Addr) : Cx := { c with outer := I :: c.outer }
theorem Cx.plus_O {c : Cx} {I b : Addr} : b ∈ (c.plus I).O ↔ b = I ∨ b ∈ c.O := by
  unfold Cx.plus Cx.O
  simp only [List.mem_append, List.mem_cons]
  constructor <;> (intro h; rcases h with h | h | h <;> simp [h])
theorem Cx.plus_V {c : Cx} {I b : Addr} : b ∈ (c.plus I).V ↔ b = I ∨ b ∈ c.V := by
  unfold Cx.V
  rw [List.mem_append, Cx.plus_O, List.mem_append]
  show (b = I ∨ b ∈ c.O) ∨ b ∈ c.D ↔ b = I ∨ b ∈ c.O ∨ b ∈ c.D
  constructor
  · rintro ((h | h) | h)
    · exact .inl h
    · exact .inr (.inl h)
    · exact .inr (.inr h)
  · rintro (h | h | h)
    · exact .inl (.inl h)
    · exact .inl (.inr h)
    · exact .inr h
theorem CxOk.plus {c : Cx} {n : Nat} {I : Addr} (ok : CxOk c n) (hI : I ∉ c.D) : CxOk (c.plus I) n :=
  ⟨ok.a, fun d hd h => by
    rcases Cx.plus_O.mp h with rfl | h
    · exact hI hd
    · exact ok.d d hd h⟩
theorem EnvOk.plus {c : Cx} {I : Addr} (E : EnvOk c) : EnvOk (c.plus I) := ⟨E.own, E.cells, E.kind⟩

/-- into a loop: a fresh address I, not of K -/
theorem At.plus {c : Cx} {m mc : LM} {G : Heap → Prop} {s s' : Shared} {I : Addr} (x : At c m mc G s) (y : Stp [] s s') (hn : s.heap.get? I = none) (hI : ∃ o, s'.heap.get? I = some o) : At (c.plus I) m mc G s' ∧ I ∉ c.V := by
  have hIV : I ∉ c.V := fun h => by obtain ⟨o, e⟩ := x.gd.lt I h; rw [hn] at e; cases e
  have old : ∀ b o, s.heap.get? b = some o → b ≠ I := fun b o e q => by subst q; rw [hn] at e; cases e
  have rr : ∀ {a v}, VR c.V s.heap a v → VR (c.plus I).V s'.heap a v := fun {a v} r => VR.keeps (fun b o hb e => ⟨y.keep b o (by simp) e, fun h => by
    rcases Cx.plus_V.mp h with q | h
    · exact old b o e q
    · exact hb h⟩) a v r
  refine ⟨⟨?_, ?_, x.locD, ?_, ?_⟩, hIV⟩
  · obtain ⟨f, ⟨o, es, ep, ho, r⟩, h⟩ := x.loc
    exact ⟨f, ⟨o, es, ep, y.keep _ _ (by simp) ho, r⟩, fun n a e => let ⟨v, e1, e2⟩ := h n a e; ⟨v, e1, rr e2⟩⟩
  · intro n a e
    obtain ⟨b, v, h1, h2, ⟨o, ho, hd⟩, h3⟩ := x.cel n a e
    exact ⟨b, v, h1, h2, ⟨o, y.keep _ _ (by simp) ho, hd⟩, rr h3⟩
  · exact fun h' k => x.g h' fun b o hb e => k b o (fun h => by
      rcases Cx.plus_O.mp h with q | h
      · exact old b o e q
      · exact hb h) (y.keep b o (by simp) e)
  · refine ⟨fun a o e => y.keep a o (by simp) (x.gd.k a o e), x.gd.nl.keeps fun b o e => y.keep b o (by simp) e, fun v hv => ?_, fun v hv => ?_⟩
    · rcases Cx.plus_V.mp hv with rfl | hv
      · refine ⟨?_, ?_⟩
        · cases q : c.K.lookup v with
          | none => exact q
          | some o => exact absurd rfl (old v o (x.gd.k _ _ q))
        · rintro rfl
          obtain ⟨_, ⟨o, _, _, ho, _⟩, _⟩ := x.gd.nl
          exact old _ o ho rfl
      · exact x.gd.hi v hv
    · rcases Cx.plus_V.mp hv with rfl | hv
      · exact hI
      · obtain ⟨o, e⟩ := x.gd.lt v hv; exact y.there v o e

/-- out of the loop -/
theorem At.minus {c : Cx} {m mc : LM} {G : Heap → Prop} {s : Shared} {I : Addr} (x : At (c.plus I) m mc G s) : At c m mc G s := by
  have rr : ∀ {a v}, VR (c.plus I).V s.heap a v → VR c.V s.heap a v := fun {a v} r => VR.keeps (fun b o hb e => ⟨e, fun h => hb (Cx.plus_V.mpr (.inr h))⟩) a v r
  refine ⟨?_, ?_, x.locD, fun h' k => x.g h' fun b o hb e => k b o (fun h => hb (Cx.plus_O.mpr (.inr h))) e, ⟨x.gd.k, x.gd.nl, fun v hv => x.gd.hi v (Cx.plus_V.mpr (.inr hv)), fun v hv => x.gd.lt v (Cx.plus_V.mpr (.inr hv))⟩⟩
  · obtain ⟨f, hn, h⟩ := x.loc
    exact ⟨f, hn, fun n a e => let ⟨v, e1, e2⟩ := h n a e; ⟨v, e1, rr e2⟩⟩
  · intro n a e
    obtain ⟨b, v, h1, h2, h4, h3⟩ := x.cel n a e
    exact ⟨b, v, h1, h2, h4, rr h3⟩

theorem FRel.minus {c : Cx} {s : Shared} {I : Addr} {fa : FA} {f : Flow} (r : FRel (c.plus I).V s.heap fa f) : FRel c.V s.heap fa f :=
  FRel.keeps (fun b o hb e => ⟨e, fun h => hb (Cx.plus_V.mpr (.inr h))⟩) fa f r

/-- a step of an address that the frame leaves to others -/
theorem At.other {c : Cx} {m mc : LM} {G : Heap → Prop} {s s' : Shared} {I : Addr} (x : At (c.plus I) m mc G s) (hIc : I ∉ c.V) (hloc : c.env.locals ∈ c.own) (hcel : ∀ p ∈ c.env.cells, p.2 ≠ I) (y : Stp [I] s s') : At (c.plus I) m mc G s' := by
  have rr : ∀ {a v}, VR (c.plus I).V s.heap a v → VR (c.plus I).V s'.heap a v := fun {a v} r => VR.keeps (fun b o hb e => ⟨y.keep b o (fun h => hb (Cx.plus_V.mpr (.inl (List.mem_singleton.mp h)))) e, hb⟩) a v r
  refine ⟨?_, ?_, x.locD, x.g.keeps fun b o hb e => y.keep b o (fun h => hb (Cx.plus_O.mpr (.inl (List.mem_singleton.mp h)))) e, x.gd.step y fun d hd => Cx.plus_V.mpr (.inl (List.mem_singleton.mp hd))⟩
  · obtain ⟨f, ⟨o, es, ep, ho, r⟩, h⟩ := x.loc
    refine ⟨f, ⟨o, es, ep, y.keep _ _ (fun h => ?_) ho, r⟩, fun n a e => let ⟨v, e1, e2⟩ := h n a e; ⟨v, e1, rr e2⟩⟩
    have : c.env.locals = I := List.mem_singleton.mp h
    exact hIc (this ▸ List.mem_append_left _ (List.mem_append_left _ hloc))
  · intro n a e
    obtain ⟨b, v, h1, h2, ⟨o, ho, hd⟩, h3⟩ := x.cel n a e
    exact ⟨b, v, h1, h2, ⟨o, y.keep _ _ (fun h => hcel _ (mem_of_lookup h1) (List.mem_singleton.mp h)) ho, hd⟩, rr h3⟩

theorem At.leave {c : Cx} {m mc : LM} {G : Heap → Prop} {s s' : Shared} {I : Addr} (x : At (c.plus I) m mc G s) (hIc : I ∉ c.V) (hloc : c.env.locals ∈ c.own) (hcel : ∀ p ∈ c.env.cells, p.2 ≠ I)
    (k : ∀ b o, b ≠ I → s.heap.get? b = some o → s'.heap.get? b = some o) : At c m mc G s' := by
  have rr : ∀ {a v}, VR (c.plus I).V s.heap a v → VR c.V s'.heap a v := fun {a v} r => VR.keeps (fun b o hb e => ⟨k b o (fun h => hb (Cx.plus_V.mpr (.inl h))) e, fun h => hb (Cx.plus_V.mpr (.inr h))⟩) a v r
  have hLI : c.env.locals ≠ I := fun h => hIc (h ▸ List.mem_append_left _ (List.mem_append_left _ hloc))
  have kK : ∀ b o, c.K.lookup b = some o → b ≠ I := fun b o e q => by
    have := (x.gd.hi I (Cx.plus_V.mpr (.inl rfl))).1
    rw [q] at e
    rw [show (c.plus I).K.lookup I = c.K.lookup I from rfl, e] at this
    cases this
  refine ⟨?_, ?_, x.locD, fun h' k' => x.g h' fun b o hb e => k' b o (fun h => hb (Cx.plus_O.mpr (.inr h))) (k b o (fun h => hb (Cx.plus_O.mpr (.inl h))) e), ⟨fun a o e => k a o (kK a o e) (x.gd.k a o e), ?_, fun v hv => x.gd.hi v (Cx.plus_V.mpr (.inr hv)), fun v hv => ?_⟩⟩
  · obtain ⟨f, ⟨o, es, ep, ho, r⟩, h⟩ := x.loc
    exact ⟨f, ⟨o, es, ep, k _ _ hLI ho, r⟩, fun n a e => let ⟨v, e1, e2⟩ := h n a e; ⟨v, e1, rr e2⟩⟩
  · intro n a e
    obtain ⟨b, v, h1, h2, ⟨o, ho, hd⟩, h3⟩ := x.cel n a e
    exact ⟨b, v, h1, h2, ⟨o, k _ _ (hcel _ (mem_of_lookup h1)) ho, hd⟩, rr h3⟩
  · obtain ⟨mc', ⟨o, es, ep, ho, r⟩, q⟩ := x.gd.nl
    exact ⟨mc', ⟨o, es, ep, k _ _ (fun h => (x.gd.hi I (Cx.plus_V.mpr (.inl rfl))).2 h.symm) ho, r⟩, q⟩
  · obtain ⟨o, e⟩ := x.gd.lt v (Cx.plus_V.mpr (.inr hv))
    exact ⟨o, k v o (fun h => hIc (h ▸ hv)) e⟩

theorem VR.other {c : Cx} {s s' : Shared} {I : Addr} {a : AV} {v : Value} (x : VR (c.plus I).V s.heap a v) (y : Stp [I] s s') : VR (c.plus I).V s'.heap a v :=
  VR.keeps (fun b o hb e => ⟨y.keep b o (fun h => hb (Cx.plus_V.mpr (.inl (List.mem_singleton.mp h)))) e, hb⟩) a v x
theorem VRs.other {c : Cx} {s s' : Shared} {I : Addr} {a : List AV} {v : List Value} (x : VRs (c.plus I).V s.heap a v) (y : Stp [I] s s') : VRs (c.plus I).V s'.heap a v :=
  VRs.keeps (fun b o hb e => ⟨y.keep b o (fun h => hb (Cx.plus_V.mpr (.inl (List.mem_singleton.mp h)))) e, hb⟩) a v x
theorem VRs.stepO {c : Cx} {s s' : Shared} {a : List AV} {v : List Value} (x : VRs c.V s.heap a v) (y : Stp (c.own ++ c.D) s s') : VRs c.V s'.heap a v :=
  VRs.keeps (fun b o hb e => ⟨y.keep b o (fun h => hb (c.own_sub b h)) e, hb⟩) a v x

/-- a source of a loop: a list whose items stand while the frame goes on -/
structure Src (c : Cx) (items : List AV) (l : Addr) (vs : List Value) (s : Shared) : Prop where
  ls : s.heap.IsList l vs.toArray
  it : VRs c.V s.heap items vs
  nV : l ∉ c.own ++ c.D

theorem X1.forL {c : Cx} {m mc : LM} {G : Heap → Prop} {KF : FK} {x : Str} {xp pos : Pos} {iter : Expr} {body : List Stmt} (E : EnvOk c) (hA : c.A.handled = none) (hl : c.env.kindOf x = some .local)
    (hcl : ∀ p ∈ c.env.cells, p.2 ∈ c.V) (hs : ∀ x, foldedSetIterable iter c.env x = pure x) (ht : ∀ it v, letOwnedTupleGo (.Name x xp) it v = pure ())
    (Inv : Nat → LM → LM → (Heap → Prop) → Prop)
    (h : EV c m mc G iter fun a G1 => ∃ items, a = .lst items ∧ Inv 0 m mc G1 ∧
      (∀ i a m' mc' G', items[i]? = some a → Inv i m' mc' G' → ∀ I, I ∉ c.V → XS (c.plus I) ((x, a) :: m') mc' G' body fun fa m3 mc3 G3 => match fa with
        | .next => Inv (i + 1) m3 mc3 G3 | .cont => Inv (i + 1) m3 mc3 G3 | .brk => KF .next m3 mc3 G3 | .ret a => KF (.ret a) m3 mc3 G3) ∧
      (∀ m' mc' G', Inv items.length m' mc' G' → KF .next m' mc' G')) : X1 c m mc G (.For (.Name x xp) iter body [] pos) KF := ⟨fun s h0 => by
  refine wpAny_For (wpAny_imp (h.run s h0) ?_) hs
  rintro v s1 ⟨a, G1, ra, x1, y1, items, rfl, hi0, hbody, hend⟩
  obtain ⟨l, vs, n, rfl, hlV, ho, hit⟩ := ra
  have hls : s1.heap.IsList l vs.toArray := ⟨_, ho, rfl, n, rfl⟩
  refine wpAny_pyIter_list hls ?_
  have hn1 : s1.heap.get? s1.heap.objs.size = none := by
    cases q : s1.heap.get? s1.heap.objs.size with
    | none => rfl
    | some o => exact absurd (Heap.lt_size q) (Nat.lt_irrefl _)
  have st0 : Stp [] s1 { s1 with heap := s1.heap.push { cls := .type "list_iterator", data := .fields #[.ref l, .int 0 0] } } := .push _ _
  obtain ⟨x2, hIV⟩ := x1.plus (I := s1.heap.objs.size) st0 hn1 ⟨_, Heap.get?_push_size _ rfl⟩
  have hit2 : VRs (c.plus s1.heap.objs.size).V (s1.heap.push { cls := .type "list_iterator", data := .fields #[.ref l, .int 0 0] }) items vs := VRs.keeps (fun b o hb e => ⟨Heap.get?_push_of_some _ e, fun h => by
    rcases Cx.plus_V.mp h with q | h
    · subst q; rw [hn1] at e; cases e
    · exact hb h⟩) items vs hit
  have hlI : l ≠ s1.heap.objs.size := fun q => by rw [q, hn1] at ho; cases ho
  generalize hI : s1.heap.objs.size = I at *
  have goal : codeAny c.M c.A (.forLoop (.Name x xp) (.ref I) body [] c.env) (fun r s' => ∃ f fa m' mc' G', r = .ok f ∧ FRel c.V s'.heap fa f ∧ At c m' mc' G' s' ∧ Stp (c.own ++ c.D) s1 s' ∧ KF fa m' mc' G') { s1 with heap := s1.heap.push { cls := .type "list_iterator", data := .fields #[.ref l, .int 0 0] } } := by
    refine codeAny_forLoop (I := fun k s' => ∃ i m' mc' G', k = vs.length - i ∧ i ≤ vs.length ∧ At (c.plus I) m' mc' G' s' ∧ Inv i m' mc' G' ∧ s'.heap.IsListIter I l i ∧ s'.heap.get? l = some { cls := .type "list", data := .seq vs.toArray n } ∧ VRs (c.plus I).V s'.heap items vs ∧ Stp (c.own ++ c.D) s1 s')
      (fun k s' hk => ?_) vs.length ⟨0, m, mc, G1, rfl, Nat.zero_le _, x2, hi0, ?_, ?_, hit2, st0.mono (by simp)⟩ (ht _)
    · obtain ⟨i, m', mc', G', rfl, hle, xs, hi, hiter, hlist, hvs, st⟩ := hk
      have hlist' : s'.heap.IsList l vs.toArray := ⟨_, hlist, rfl, n, rfl⟩
      have cel : ∀ p ∈ c.env.cells, p.2 ≠ I := fun p hp q => hIV (q ▸ hcl p hp)
      have st1 : ∀ b o, s1.heap.get? b = some o → b ≠ I := fun b o e q => by rw [q, hn1] at e; cases e
      rcases Nat.lt_or_ge i vs.length with hlt | hge
      · obtain ⟨a, ha⟩ : ∃ a, items[i]? = some a := ⟨_, List.getElem?_eq_getElem (by rw [← hit.length]; exact hlt)⟩
        obtain ⟨v, hv, rv⟩ := hvs.get ha
        refine wpAny_pyNext_list_item hiter hlist' (by simpa using hv) fun h' hit' hb => ?_
        have yI : Stp [I] s' { s' with heap := h' } := ⟨fun b o hb' e => hb.extBut b o (fun q => hb' (List.mem_singleton.mpr q)) e, fun b o e => by
          by_cases q : b = I
          · subst q; obtain ⟨o', e', _⟩ := hit'; exact ⟨o', e'⟩
          · exact ⟨o, hb.extBut b o q e⟩, .refl _, rfl⟩
        have x3 := xs.other hIV E.own cel yI
        refine wpAny_assign_Name (wpAny_mono (Q := fun _ s3 => At (c.plus I) ((x, a) :: m') mc' G' s3 ∧ Stp ((c.plus I).own ++ (c.plus I).D) { s' with heap := h' } s3) (E := NoE) ?_ ?_ (fun _ _ z => z.elim))
        · exact x3.store (rv.other yI) hl E.own E.cells (by show (c.env.scope.kind == .class || (c.env.scope.kind == .module && c.env.locals != c.env.globals)) = false; rw [E.kind]; rfl) fun s3 x4 y4 => ⟨x4, y4⟩
        · rintro _ s3 ⟨x4, y4⟩
          refine wpAny_mono ((hbody i a m' mc' G' ha hi I hIV).run s3 x4) ?_ (fun _ _ z => z.elim)
          rintro f s4 ⟨fa, m5, mc5, G5, rf, x5, y5, k5⟩
          have yb : Stp ((c.plus I).own ++ (c.plus I).D) { s' with heap := h' } s4 := y4.trans y5
          have nI : I ∉ (c.plus I).own ++ (c.plus I).D := fun q => hIV (c.own_sub I q)
          have nl : l ∉ (c.plus I).own ++ (c.plus I).D := fun q => hlV (c.own_sub l q)
          have stAll : Stp (c.own ++ c.D) s1 s4 := ⟨fun b o hb e => yb.keep b o hb (yI.keep b o (fun q => st1 b o e (List.mem_singleton.mp q)) (st.keep b o hb e)), fun b o e => by
            obtain ⟨o1, e1⟩ := st.there b o e
            obtain ⟨o2, e2⟩ := yI.there b o1 e1
            exact yb.there b o2 e2, st.gens.trans (yI.gens.trans yb.gens), yb.os.trans (yI.os.trans st.os)⟩
          have next : Inv (i + 1) m5 mc5 G5 → ∃ k', k' < vs.length - i ∧ ∃ i m' mc' G', k' = vs.length - i ∧ i ≤ vs.length ∧ At (c.plus I) m' mc' G' s4 ∧ Inv i m' mc' G' ∧ s4.heap.IsListIter I l i ∧ s4.heap.get? l = some { cls := .type "list", data := .seq vs.toArray n } ∧ VRs (c.plus I).V s4.heap items vs ∧ Stp (c.own ++ c.D) s1 s4 := fun hn =>
            ⟨vs.length - (i + 1), by omega, i + 1, m5, mc5, G5, rfl, hlt, x5, hn, (let ⟨o, e, r⟩ := hit'; ⟨o, yb.keep I o nI e, r⟩), yb.keep l _ nl (yI.keep l _ (fun q => hlI (List.mem_singleton.mp q)) hlist), (hvs.other yI).stepO yb, stAll⟩
          cases fa with
          | next => cases rf; exact next k5
          | cont => cases rf; exact next k5
          | brk => cases rf; exact ⟨.next, .next, m5, mc5, G5, rfl, rfl, x5.minus, stAll, k5⟩
          | ret b => obtain ⟨u, rfl, ru⟩ := rf; exact ⟨.ret u, .ret b, m5, mc5, G5, rfl, FRel.minus (c := c) (I := I) ⟨u, rfl, ru⟩, x5.minus, stAll, k5⟩
      · have hi' : i = vs.length := by omega
        subst hi'
        refine wpAny_pyNext_list_end hA hiter hlist' (by simp) fun h' hb => ?_
        have x3 : At c m' mc' G' { s' with heap := h' } := xs.leave hIV E.own cel hb
        refine wpAny_execs_nil ?_
        refine ⟨.next, .next, m', mc', G', rfl, rfl, x3, ?_, hend _ _ _ (by rw [← hit.length]; exact hi)⟩
        exact ⟨fun b o hb' e => hb b o (st1 b o e) (st.keep b o hb' e), fun b o e => by
            obtain ⟨o1, e1⟩ := st.there b o e
            exact ⟨o1, hb b o1 (st1 b o e) e1⟩, st.gens, st.os⟩
    · exact ⟨_, by rw [← hI]; exact Heap.get?_push_size _ rfl, rfl, rfl⟩
    · exact Heap.get?_push_of_some _ ho
  refine codeAny_mono goal ?_
  rintro r s' ⟨f, fa, m', mc', G', rfl, rf, xf, st, k⟩
  exact ⟨fa, m', mc', G', rf, xf, y1.own.trans st, k⟩⟩
end Mine
end

-- part W14
section
open PySem PySem.W PyProof.Rows PySem.SeqAt
set_option Elab.async false
set_option linter.unusedVariables false
set_option maxRecDepth 100000
namespace Mine

/-- what an iterator at I gives: told upon a base heap h0 that stands but for V (and I) -/
structure Source (prog : Program) (w : World) (A : Around) (V : List Addr) (h0 : Heap) (items : List AV) (I : Addr) (It : Nat → Heap → Prop) : Prop where
  loc : ∀ i h h', (∀ o, h.get? I = some o → h'.get? I = some o) → It i h → It i h'
  self : ∀ i s Q, It i s.heap → Q (.ref I) s → wpAny (model prog w) A (pyIter (.ref I)) Q NoE s
  item : ∀ i a s Q, items[i]? = some a → It i s.heap → (∀ b o, b ∉ V → h0.get? b = some o → s.heap.get? b = some o) →
    (∀ v h' tk, (∀ V' h'', (∀ b o, b ∉ V → h0.get? b = some o → h''.get? b = some o ∧ b ∉ V') → VR V' h'' a v) → It (i + 1) h' → (∃ o, h'.get? I = some o) → (∀ b o, b ≠ I → s.heap.get? b = some o → h'.get? b = some o) → Q (some v) { s with heap := h', toks := tk }) → wpAny (model prog w) A (pyNext (.ref I)) Q NoE s
  done : ∀ s Q, It items.length s.heap → (∀ b o, b ∉ V → h0.get? b = some o → s.heap.get? b = some o) →
    (∀ h' tk, (∀ b o, b ≠ I → s.heap.get? b = some o → h'.get? b = some o) → Q none { s with heap := h', toks := tk }) → wpAny (model prog w) A (pyNext (.ref I)) Q NoE s

def Items : AV → Option (List AV)
  | .lst l => some l
  | .tup l => some l
  | .rng n => some ((List.range n).map fun (i : Nat) => AV.int (i : Int))
  | _ => none

theorem rsize (n : Nat) : Builtin.Range.rangeSize 0 n 1 = n := by
  unfold Builtin.Range.rangeSize
  rw [if_pos (by decide)]
  split
  · rw [Int.ediv_one]; omega
  · omega

theorem source_of {prog : Program} {w : World} {A : Around} {V : List Addr} {s : Shared} {a : AV} {items : List AV} {v : Value} {Q : Value → Shared → Prop} (hA : A.handled = none) (hi : Items a = some items) (hn : items.length < 2 ^ 60) (r : VR V s.heap a v)
    (h : ∀ I It o h', s.heap.get? I = none → h' = s.heap.push o → (∃ o, h'.get? I = some o) → It 0 h' → Source prog w A V s.heap items I It → Q (.ref I) { s with heap := h' }) : wpAny (model prog w) A (pyIter v) Q NoE s := by
  have hfresh : s.heap.get? s.heap.objs.size = none := by
    cases q : s.heap.get? s.heap.objs.size with
    | none => rfl
    | some o => exact absurd (Heap.lt_size q) (Nat.lt_irrefl _)
  cases a <;> cases hi
  · obtain ⟨l, vs, n, rfl, hlV, ho, hit⟩ := r
    have hlI : l ≠ s.heap.objs.size := fun q => by rw [q, hfresh] at ho; cases ho
    have hls : s.heap.IsTuple l vs.toArray := ⟨_, ho, rfl, n, rfl⟩
    refine wpAny_pyIter_tuple hls ?_
    refine h s.heap.objs.size (fun i h => h.IsTupleIter s.heap.objs.size l i) _ _ hfresh rfl ⟨_, Heap.get?_push_size _ rfl⟩ ⟨_, Heap.get?_push_size _ rfl, rfl, rfl⟩ ⟨?_, fun i s Q x hq => wpAny_pyIter_tupleiter x hq, ?_, ?_⟩
    · exact fun i h h' k x => x.at k
    · intro i a s' Q hia hI keep hQ
      obtain ⟨v, hv, rv⟩ := hit.get hia
      have hl' : s'.heap.IsTuple l vs.toArray := ⟨_, keep l _ hlV ho, rfl, n, rfl⟩
      refine wpAny_pyNext_tuple_item hI hl' (x := v) (by simpa using hv) fun h' hit' hb => ?_
      exact hQ v h' s'.toks (fun V' h'' k => VR.keeps k _ _ rv) hit' (let ⟨o, e, _⟩ := hit'; ⟨o, e⟩) hb.extBut
    · intro s' Q hI keep hQ
      have hl' : s'.heap.IsTuple l vs.toArray := ⟨_, keep l _ hlV ho, rfl, n, rfl⟩
      exact wpAny_pyNext_tuple_end hA hI hl' (by simp [hit.length]) fun h' hb => hQ h' s'.toks hb
  · obtain ⟨l, vs, n, rfl, hlV, ho, hit⟩ := r
    have hlI : l ≠ s.heap.objs.size := fun q => by rw [q, hfresh] at ho; cases ho
    have hls : s.heap.IsList l vs.toArray := ⟨_, ho, rfl, n, rfl⟩
    refine wpAny_pyIter_list hls ?_
    refine h s.heap.objs.size (fun i h => h.IsListIter s.heap.objs.size l i) _ _ hfresh rfl ⟨_, Heap.get?_push_size _ rfl⟩ ⟨_, Heap.get?_push_size _ rfl, rfl, rfl⟩ ⟨?_, fun i s Q x hq => wpAny_pyIter_listiter x hq, ?_, ?_⟩
    · exact fun i h h' k x => x.at k
    · intro i a s' Q hia hI keep hQ
      obtain ⟨v, hv, rv⟩ := hit.get hia
      have hl' : s'.heap.IsList l vs.toArray := ⟨_, keep l _ hlV ho, rfl, n, rfl⟩
      refine wpAny_pyNext_list_item hI hl' (x := v) (by simpa using hv) fun h' hit' hb => ?_
      exact hQ v h' s'.toks (fun V' h'' k => VR.keeps k _ _ rv) hit' (let ⟨o, e, _⟩ := hit'; ⟨o, e⟩) hb.extBut
    · intro s' Q hI keep hQ
      have hl' : s'.heap.IsList l vs.toArray := ⟨_, keep l _ hlV ho, rfl, n, rfl⟩
      exact wpAny_pyNext_list_end hA hI hl' (by simp [hit.length]) fun h' hb => hQ h' s'.toks hb
  · rename_i n
    obtain ⟨l, t1, t2, t3, rfl, hlV, ho⟩ := r
    have hn' : n < 2 ^ 60 := by simpa using hn
    refine wpAny_pyIter_range ho ?_ ?_
    · unfold Builtin.Range.small
      rw [rsize]
      unfold Builtin.Range.rangeFitsLong
      simp only [Bool.and_eq_true, Bool.or_eq_true, decide_eq_true_eq]
      refine ⟨⟨⟨⟨by omega, by omega⟩, by omega⟩, by omega⟩, .inr ?_⟩
      rw [if_pos (by decide)]
      simp only [Bool.and_eq_true, decide_eq_true_eq]
      omega
    rw [rsize]
    refine h s.heap.objs.size (fun i h => IsRangeIter h s.heap.objs.size i ((n : Int) - i) 1) _ _ hfresh rfl ⟨_, Heap.get?_push_size _ rfl⟩ (by
      show IsRangeIter _ _ _ _ _
      rw [show ((n : Int) - ((0 : Nat) : Int)) = n by omega]
      exact Heap.get?_push_size _ rfl) ⟨?_, fun i s Q x hq => wpAny_pyIter_rangeiter x hq, ?_, ?_⟩
    · exact fun i h h' k x => k _ x
    · intro i a s' Q hia hI keep hQ
      have hlt : i < n := by
        rcases Nat.lt_or_ge i n with h | h
        · exact h
        · simp [h] at hia
      have : a = .int i := by simp [hlt] at hia; exact hia.symm
      subst this
      refine wpAny_pyNext_range_item hI (by omega) fun h' hit' hs' => ?_
      refine hQ _ h' _ (fun V' h'' k => ⟨_, rfl⟩) ?_ ⟨_, hit'⟩ hs'.extBut
      have e2 : (n : Int) - ((i + 1 : Nat) : Int) = (n : Int) - (i : Int) - 1 := by push_cast; omega
      have e1 : ((i + 1 : Nat) : Int) = (i : Int) + 1 := by push_cast; rfl
      rw [e2, e1]
      exact hit'
    · intro s' Q hI keep hQ
      refine wpAny_pyNext_range_end hA hI (by simp) fun h' hb => hQ h' s'.toks hb
end Mine
end

-- part W15
section
open PySem PySem.W PyProof.Rows PySem.SeqAt
set_option Elab.async false
set_option linter.unusedVariables false
set_option maxRecDepth 100000
namespace Mine

theorem Stp.new {W D : List Addr} {s s' : Shared} (y : Stp W s s') (h : ∀ b ∈ W, b ∈ D ∨ s.heap.get? b = none) : Stp D s s' :=
  ⟨fun b o hb e => y.keep b o (fun hw => by
    rcases h b hw with q | q
    · exact hb q
    · rw [q] at e; cases e) e, y.there, y.gens, y.os⟩

theorem At.touch {c : Cx} {m mc : LM} {G : Heap → Prop} {s s' : Shared} {W : List Addr} (x : At c m mc G s) (y : Stp W s s') (hW : ∀ b ∈ W, b ∈ c.O ∧ b ≠ c.env.locals ∧ ∀ p ∈ c.env.cells, p.2 ≠ b) : At c m mc G s' := by
  have wV : ∀ b ∈ W, b ∈ c.V := fun b hb => List.mem_append_left _ (hW b hb).1
  have rr : ∀ {a v}, VR c.V s.heap a v → VR c.V s'.heap a v := fun {a v} r => VR.keeps (fun b o hb e => ⟨y.keep b o (fun h => hb (wV b h)) e, hb⟩) a v r
  refine ⟨?_, ?_, x.locD, x.g.keeps fun b o hb e => y.keep b o (fun h => hb (hW b h).1) e, x.gd.step y wV⟩
  · obtain ⟨f, ⟨o, es, ep, ho, r⟩, h⟩ := x.loc
    exact ⟨f, ⟨o, es, ep, y.keep _ _ (fun h => (hW _ h).2.1 rfl) ho, r⟩, fun n a e => let ⟨v, e1, e2⟩ := h n a e; ⟨v, e1, rr e2⟩⟩
  · intro n a e
    obtain ⟨b, v, h1, h2, ⟨o, ho, hd⟩, h3⟩ := x.cel n a e
    exact ⟨b, v, h1, h2, ⟨o, y.keep _ _ (fun h => (hW _ h).2.2 _ (mem_of_lookup h1) rfl) ho, hd⟩, rr h3⟩

structure IFs (c : Cx) (m mc : LM) (G : Heap → Prop) (ifs : List Expr) (K : Bool → (Heap → Prop) → Prop) : Prop where
  run : BJ c m mc G (forIn ifs true fun cnd r => if r = true then do let ok ← isTrue cnd c.env (eval cnd c.env); pure (ForInStep.yield ok) else pure (ForInStep.yield r)) K
theorem IFs.nil {c m mc G} {K : Bool → (Heap → Prop) → Prop} (k : K true G) : IFs c m mc G [] K := ⟨fun s x => by
  rw [List.forIn_nil]; exact wpAny_pure ⟨G, x, .refl _ _, k⟩⟩
theorem IFs.one {c m mc G t} {K : Bool → (Heap → Prop) → Prop} (h : BT c m mc G t K) : IFs c m mc G [t] K := ⟨fun s x => by
  rw [List.forIn_cons]
  refine wpAny_bind ?_
  rw [if_pos rfl]
  refine wpAny_bind (wpAny_imp (h.run s x) ?_)
  rintro b s1 ⟨G1, x1, y1, h1⟩
  refine wpAny_pure ?_
  dsimp only
  rw [List.forIn_nil]
  exact wpAny_pure ⟨G1, x1, y1, h1⟩⟩

/-- the frame of a comprehension -/
def compEnv (scope : Scope) (cl : List (Str × Addr)) (C : Addr) (env : Env) : Env := { (newEnv scope C env.globals cl env.qual none Value.none (some env) 0 : Env) with scope := relabel scope env }
def Cx.comp (c : Cx) (scope : Scope) (cl : List (Str × Addr)) (C acc I : Addr) : Cx := { c with env := compEnv scope cl C c.env, own := [C], outer := acc :: I :: c.O }

theorem Cx.comp_O {c : Cx} {scope cl C acc I b} : b ∈ (c.comp scope cl C acc I).O ↔ b = C ∨ b = acc ∨ b = I ∨ b ∈ c.O := by
  unfold Cx.comp
  show b ∈ [C] ++ (acc :: I :: c.O) ↔ _
  simp
theorem Cx.comp_V {c : Cx} {scope cl C acc I b} : b ∈ (c.comp scope cl C acc I).V ↔ b = C ∨ b = acc ∨ b = I ∨ b ∈ c.V := by
  unfold Cx.V
  rw [List.mem_append, Cx.comp_O, List.mem_append]
  show (b = C ∨ b = acc ∨ b = I ∨ b ∈ c.O) ∨ b ∈ c.D ↔ b = C ∨ b = acc ∨ b = I ∨ b ∈ c.O ∨ b ∈ c.D
  constructor
  · rintro ((h | h | h | h) | h) <;> simp [h]
  · rintro (h | h | h | h | h) <;> simp [h]

section
variable {c : Cx} {m mc mci : LM} {G : Heap → Prop} {scope : Scope} {cl : List (Str × Addr)} {C acc I : Addr} {s1 s4 : Shared} {items : List AV} {It : Nat → Heap → Prop}

theorem At.comp (x : At c m mc G s1) (y : Stp [] s1 s4) (n1 : s1.heap.get? C = none) (n2 : s1.heap.get? acc = none) (n3 : s1.heap.get? I = none)
    (t2 : ∃ o, s4.heap.get? acc = some o) (t3 : ∃ o, s4.heap.get? I = some o) (hns : s4.heap.Ns C fun _ => none)
    (hmc : ∀ x a, mci.lookup x = some a → mc.lookup x = some a ∧ cl.lookup x = c.env.cells.lookup x) : At (c.comp scope cl C acc I) [] mci G s4 := by
  have old : ∀ b o, s1.heap.get? b = some o → b ≠ C ∧ b ≠ acc ∧ b ≠ I := fun b o e => ⟨fun q => (by rw [q, n1] at e; cases e), fun q => (by rw [q, n2] at e; cases e), fun q => (by rw [q, n3] at e; cases e)⟩
  have rr : ∀ {a v}, VR c.V s1.heap a v → VR (c.comp scope cl C acc I).V s4.heap a v := fun {a v} r => VR.keeps (fun b o hb e => ⟨y.keep b o (by simp) e, fun h => by
    obtain ⟨q1, q2, q3⟩ := old b o e
    rcases Cx.comp_V.mp h with q | q | q | h
    · exact q1 q
    · exact q2 q
    · exact q3 q
    · exact hb h⟩) a v r
  refine ⟨⟨_, hns, fun x a e => by simp at e⟩, ?_, ?_, ?_, ?_⟩
  · intro z a e
    obtain ⟨e1, e2⟩ := hmc z a e
    obtain ⟨b, v, h1, h2, ⟨o, ho, hd⟩, h3⟩ := x.cel z a e1
    exact ⟨b, v, e2.trans h1, h2, ⟨o, y.keep _ _ (by simp) ho, hd⟩, rr h3⟩
  · exact fun h => by obtain ⟨o, e⟩ := x.gd.lt C (c.D_sub C h); rw [n1] at e; cases e
  · exact fun h' k => x.g h' fun b o hb e => k b o (fun h => by
      obtain ⟨q1, q2, q3⟩ := old b o e
      rcases Cx.comp_O.mp h with q | q | q | h
      · exact q1 q
      · exact q2 q
      · exact q3 q
      · exact hb h) (y.keep b o (by simp) e)
  · have fresh : ∀ v, s1.heap.get? v = none → c.K.lookup v = none ∧ v ≠ cStatics := fun v hv => by
      refine ⟨?_, ?_⟩
      · cases q : c.K.lookup v with
        | none => rfl
        | some o => rw [x.gd.k _ _ q] at hv; cases hv
      · rintro rfl
        obtain ⟨_, ⟨o, _, _, ho, _⟩, _⟩ := x.gd.nl
        rw [ho] at hv; cases hv
    refine ⟨fun a o e => y.keep a o (by simp) (x.gd.k a o e), x.gd.nl.keeps fun b o e => y.keep b o (by simp) e, fun v hv => ?_, fun v hv => ?_⟩
    · rcases Cx.comp_V.mp hv with rfl | rfl | rfl | hv
      · exact fresh _ n1
      · exact fresh _ n2
      · exact fresh _ n3
      · exact x.gd.hi v hv
    · rcases Cx.comp_V.mp hv with rfl | rfl | rfl | hv
      · obtain ⟨o, _, _, e, _⟩ := hns; exact ⟨o, e⟩
      · exact t2
      · exact t3
      · obtain ⟨o, e⟩ := x.gd.lt v hv; exact y.there v o e

/-- the turns of a comprehension -/
theorem comp_turns {elt iter : Expr} {x : Str} {px pos : Pos} {ifs : List Expr} {R : Result → Shared → Prop} (Inv : Nat → List AV → (Heap → Prop) → Prop)
    (src : Source c.prog c.w c.A c.V s1.heap items I It) (hn : items.length ≤ sizeLine)
    (x1 : At c m mc G s1) (y : Stp [] s1 s4) (n1 : s1.heap.get? C = none) (n2 : s1.heap.get? acc = none) (n3 : s1.heap.get? I = none) (d1 : C ≠ acc) (d2 : C ≠ I) (d3 : acc ≠ I)
    (t3 : ∃ o, s4.heap.get? I = some o) (hns : s4.heap.Ns C fun _ => none) (hit : It 0 s4.heap) (hacc : s4.heap.get? acc = some (LObj [] 0))
    (hmc : ∀ x a, mci.lookup x = some a → mc.lookup x = some a ∧ cl.lookup x = c.env.cells.lookup x) (hcl : ∀ p ∈ cl, p.2 ∈ c.V)
    (hkind : (relabel scope c.env).kind = .function) (hx : (relabel scope c.env).names.lookup x = some .local)
    (ht : ∀ it v, letOwnedTupleGo (.Name x px) it v = pure ())
    (h0 : Inv 0 [] G)
    (hb : ∀ i a outs G' ml, items[i]? = some a → Inv i outs G' → (∀ n, CxOk c n → CxOk (c.comp scope cl C acc I) n) → IFs (c.comp scope cl C acc I) ((x, a) :: ml) mci G' ifs fun ok G1 =>
      (ok = true → EV (c.comp scope cl C acc I) ((x, a) :: ml) mci G1 elt fun b G2 => Inv (i + 1) (outs ++ [b]) G2) ∧ (ok = false → Inv (i + 1) outs G1))
    (hR : ∀ outs G' s' vs n, Inv items.length outs G' → (∃ f, s'.heap.Ns C f) → s'.heap.get? acc = some (LObj vs n) → VRs (c.comp scope cl C acc I).V s'.heap outs vs → GB (C :: acc :: c.O) G' s'.heap → Stp c.D s1 s' → R (.ok .next) s') :
    codeAny c.M c.A (.compStart (.ListComp elt [⟨.Name x px, iter, ifs, 0⟩] scope pos) 0 (.ref I) (.ref acc) (compEnv scope cl C c.env)) R s4 := by
  have nD : ∀ b, s1.heap.get? b = none → b ∉ c.V := fun b e h => by obtain ⟨o, e'⟩ := x1.gd.lt b h; rw [e] at e'; cases e'
  have okc : ∀ n, CxOk c n → CxOk (c.comp scope cl C acc I) n := fun n ok => ⟨ok.a, fun d hd h => by
    rcases Cx.comp_O.mp h with rfl | rfl | rfl | h
    · exact nD _ n1 (c.D_sub _ hd)
    · exact nD _ n2 (c.D_sub _ hd)
    · exact nD _ n3 (c.D_sub _ hd)
    · exact ok.d d hd h⟩
  have atc : At (c.comp scope cl C acc I) [] mci G s4 := x1.comp y n1 n2 n3 ⟨_, hacc⟩ t3 hns hmc
  have cells : ∀ b, s1.heap.get? b = none → ∀ p ∈ (c.comp scope cl C acc I).env.cells, p.2 ≠ b := fun b e p hp q => nD b e (q ▸ hcl p hp)
  have touchI : ∀ b ∈ [I], b ∈ (c.comp scope cl C acc I).O ∧ b ≠ (c.comp scope cl C acc I).env.locals ∧ ∀ p ∈ (c.comp scope cl C acc I).env.cells, p.2 ≠ b := fun b hb => by
    rw [List.mem_singleton.mp hb]; exact ⟨Cx.comp_O.mpr (.inr (.inr (.inl rfl))), fun q => d2 (show C = I from q.symm), cells I n3⟩
  have touchA : ∀ b ∈ [acc], b ∈ (c.comp scope cl C acc I).O ∧ b ≠ (c.comp scope cl C acc I).env.locals ∧ ∀ p ∈ (c.comp scope cl C acc I).env.cells, p.2 ≠ b := fun b hb => by
    rw [List.mem_singleton.mp hb]; exact ⟨Cx.comp_O.mpr (.inr (.inl rfl)), fun q => d1 (show C = acc from q.symm), cells acc n2⟩
  have loop : codeAny c.M c.A (.compLoop (.ListComp elt [⟨.Name x px, iter, ifs, 0⟩] scope pos) 0 (.ref I) (.ref acc) (compEnv scope cl C c.env)) R s4 := by
    refine codeAny_compLoop_tests (fun k s' => ∃ i outs G' ml vs nn, k = items.length - i ∧ i ≤ items.length ∧ At (c.comp scope cl C acc I) ml mci G' s' ∧ Inv i outs G' ∧ It i s'.heap ∧
      s'.heap.get? acc = some (LObj vs nn) ∧ VRs (c.comp scope cl C acc I).V s'.heap outs vs ∧ Stp c.D s1 s' ∧ outs.length ≤ i) (fun k s' hk => ?_) items.length ⟨0, [], G, [], [], 0, rfl, Nat.zero_le _, atc, h0, hit, hacc, rfl, y.mono (by simp), Nat.le_refl _⟩ (ht _)
    obtain ⟨i, outs, G', ml, vs, nn, rfl, hle, xs, hi, hI, ha, hv, st, hol⟩ := hk
    have keep1 : ∀ b o, b ∉ c.V → s1.heap.get? b = some o → s'.heap.get? b = some o := fun b o hb e => st.keep b o (fun h => hb (c.D_sub b h)) e
    have old : ∀ b o, s1.heap.get? b = some o → b ≠ C ∧ b ≠ acc ∧ b ≠ I := fun b o e => ⟨fun q => (by rw [q, n1] at e; cases e), fun q => (by rw [q, n2] at e; cases e), fun q => (by rw [q, n3] at e; cases e)⟩
    rcases Nat.lt_or_ge i items.length with hlt | hge
    · refine wpAny_mono (Q := fun r s2 => ∃ v a, r = some v ∧ items[i]? = some a ∧ VR (c.comp scope cl C acc I).V s2.heap a v ∧ It (i + 1) s2.heap ∧ Stp [I] s' s2) (E := NoE) ?_ ?_ (fun _ _ z => z.elim)
      · refine src.item i items[i] s' _ (List.getElem?_eq_getElem hlt) hI keep1 fun v h' tk hv' hI' hthere hk' => ⟨v, items[i], rfl, List.getElem?_eq_getElem hlt, hv' _ _ fun b o hb e => ⟨hk' b o (old b o e).2.2 (keep1 b o hb e), fun h => ?_⟩, hI', ?_⟩
        · obtain ⟨q1, q2, q3⟩ := old b o e
          rcases Cx.comp_V.mp h with q | q | q | h
          · exact q1 q
          · exact q2 q
          · exact q3 q
          · exact hb h
        · exact ⟨fun b o hb e => hk' b o (fun q => hb (List.mem_singleton.mpr q)) e, fun b o e => by
            by_cases q : b = I
            · subst q; exact hthere
            · exact ⟨o, hk' b o q e⟩, .refl _, rfl⟩
      · rintro r s2 ⟨v, a, rfl, hia, rv, hI2, yI⟩
        have x2 := xs.touch yI touchI
        have hv2 : VRs (c.comp scope cl C acc I).V s2.heap outs vs := VRs.keeps (fun b o hb e => ⟨yI.keep b o (fun h => hb (by rw [List.mem_singleton.mp h]; exact Cx.comp_V.mpr (.inr (.inr (.inl rfl))))) e, hb⟩) _ _ hv
        refine wpAny_assign_Name (wpAny_mono (Q := fun _ s3 => At (c.comp scope cl C acc I) ((x, a) :: ml) mci G' s3 ∧ Stp ([C] ++ c.D) s2 s3) (E := NoE) ?_ ?_ (fun _ _ z => z.elim))
        · exact x2.store rv hx (List.mem_singleton.mpr rfl) (fun p hp => cells C n1 p hp) (by show ((relabel scope c.env).kind == .class || ((relabel scope c.env).kind == .module && _)) = false; rw [hkind]; rfl) fun s3 x4 y4 => ⟨x4, y4⟩
        · rintro _ s3 ⟨x3, y3⟩
          have nI3 : I ∉ [C] ++ c.D := fun h => by
            rcases List.mem_append.mp h with h | h
            · exact d2 (List.mem_singleton.mp h).symm
            · exact nD I n3 (c.D_sub I h)
          have nA3 : acc ∉ [C] ++ c.D := fun h => by
            rcases List.mem_append.mp h with h | h
            · exact d1 (List.mem_singleton.mp h).symm
            · exact nD acc n2 (c.D_sub acc h)
          refine wpAny_mono ((hb i a outs G' ml hia hi okc).run s3 x3) ?_ (fun _ _ z => z.elim)
          rintro ok s5 ⟨G5, x5, y5, hyes, hno⟩
          have sub : ∀ d ∈ c.D, d ∈ [C] ++ c.D := fun d hd => List.mem_append_right _ hd
          have base : Stp ([C] ++ c.D) s2 s5 := y3.trans (y5.mono sub)
          have tot : Stp c.D s1 s5 := by
            refine ⟨fun b o hb' e => base.keep b o (fun h => ?_) (yI.keep b o (fun h => (old b o e).2.2 (List.mem_singleton.mp h)) (st.keep b o hb' e)), fun b o e => ?_, st.gens.trans (yI.gens.trans base.gens), base.os.trans (yI.os.trans st.os)⟩
            · rcases List.mem_append.mp h with h | h
              · exact (old b o e).1 (List.mem_singleton.mp h)
              · exact hb' h
            · obtain ⟨o1, e1⟩ := st.there b o e
              obtain ⟨o2, e2⟩ := yI.there b o1 e1
              exact base.there b o2 e2
          have I5 : It (i + 1) s5.heap := src.loc _ _ _ (fun o e => base.keep I o nI3 e) hI2
          have A5 : s5.heap.get? acc = some (LObj vs nn) := base.keep _ _ nA3 (yI.keep _ _ (fun h => d3 (List.mem_singleton.mp h)) ha)
          have V5 : VRs (c.comp scope cl C acc I).V s5.heap outs vs := VRs.keeps (fun b o hb' e => ⟨base.keep b o (fun h => by
            rcases List.mem_append.mp h with h | h
            · exact hb' (Cx.comp_V.mpr (.inl (List.mem_singleton.mp h)))
            · exact hb' (Cx.comp_V.mpr (.inr (.inr (.inr (c.D_sub b h)))))) e, hb'⟩) _ _ hv2
          cases ok with
          | false =>
            rw [if_neg (by decide)]
            exact ⟨items.length - (i + 1), by omega, i + 1, outs, G5, (x, a) :: ml, vs, nn, rfl, hlt, x5, hno rfl, I5, A5, V5, tot, by omega⟩
          | true =>
            rw [if_pos rfl]
            refine wpAny_mono ((hyes rfl).run s5 x5) ?_ (fun _ _ z => z.elim)
            rintro u s6 ⟨b, G6, rb, x6, y6, h6⟩
            have nA6 : acc ∉ c.D := fun h => nD acc n2 (c.D_sub acc h)
            have nI6 : I ∉ c.D := fun h => nD I n3 (c.D_sub I h)
            have A6 := y6.keep acc _ nA6 A5
            have hlen : vs.length ≤ items.length := by rw [V5.length]; omega
            refine call_meets F.slot_list_append ⟨_, A6, rfl⟩ F.entry_list_append (F.args_list_append_2 _ _) (list_append acc vs.toArray nn u (by simp; omega)) ⟨A6, ?_⟩
            have hfr : ∀ o, s6.heap.get? acc = some o → (Obj.mapSeq (fun xs => xs.push u) o).isFreed = false := fun o e => by rw [A6] at e; cases e; rfl
            have yA : Stp [acc] s6 { s6 with heap := s6.heap.update acc (Obj.mapSeq fun xs => xs.push u) } :=
              ⟨fun b' o hb' e => (Heap.get?_update_other _ _ fun (q : acc = b') => hb' (List.mem_singleton.mpr q.symm)).trans e, fun b' o e => by
                by_cases q : b' = acc
                · subst q; exact ⟨_, Heap.get?_update_self _ e (hfr o e)⟩
                · exact ⟨o, (Heap.get?_update_other _ _ (Ne.symm q)).trans e⟩, .refl _, rfl⟩
            have x7 := x6.touch yA touchA
            have up := PySem.IsL.update (f := fun xs => xs.push u) (show PySem.IsL s6.heap acc vs.toArray nn from A6)
            have vmono : ∀ {l : List AV} {ws : List Value}, VRs (c.comp scope cl C acc I).V s6.heap l ws → VRs (c.comp scope cl C acc I).V (s6.heap.update acc (Obj.mapSeq fun xs => xs.push u)) l ws := fun {l ws} r =>
              VRs.keeps (fun b' o hb' e => ⟨yA.keep b' o (fun h => hb' (by rw [List.mem_singleton.mp h]; exact Cx.comp_V.mpr (.inr (.inl rfl)))) e, hb'⟩) _ _ r
            have V6 : VRs (c.comp scope cl C acc I).V s6.heap outs vs := V5.step y6
            have app : ∀ {l : List AV} {ws : List Value} {b : AV} {u : Value}, VRs (c.comp scope cl C acc I).V s6.heap l ws → VR (c.comp scope cl C acc I).V s6.heap b u → VRs (c.comp scope cl C acc I).V s6.heap (l ++ [b]) (ws ++ [u]) := by
              intro l
              induction l with
              | nil => intro ws b u r rb; cases r; exact ⟨u, [], rfl, rb, rfl⟩
              | cons a' l ih => intro ws b u r rb; obtain ⟨v', vr, rfl, r1, r2⟩ := r; exact ⟨v', vr ++ [u], rfl, r1, ih r2 rb⟩
            refine ⟨items.length - (i + 1), by omega, i + 1, outs ++ [b], G6, (x, a) :: ml, vs ++ [u], (if (vs.toArray.push u).size == vs.toArray.size then nn else nn + 1), rfl, hlt, x7, h6, src.loc _ _ _ (fun o e => (Heap.get?_update_other _ _ d3).trans (y6.keep I o nI6 e)) I5, ?_, vmono (app V6 rb), ?_, by simp; omega⟩
            · show (s6.heap.update acc _).get? acc = _
              have e : ∀ k, LObj (vs ++ [u]) k = ({ cls := .type "list", dict := none, data := .seq (vs.toArray.push u) k, slots := #[] } : Obj) := fun k => by simp [LObj]
              rw [e]
              exact up
            · have t6 := tot.trans y6
              exact ⟨fun b' o hb' e => yA.keep b' o (fun h => (old b' o e).2.1 (List.mem_singleton.mp h)) (t6.keep b' o hb' e), fun b' o e => by
                obtain ⟨o1, e1⟩ := t6.there b' o e
                exact yA.there b' o1 e1, t6.gens.trans yA.gens, yA.os.trans t6.os⟩
    · have hi' : i = items.length := by omega
      subst hi'
      refine wpAny_mono (Q := fun r s2 => r = none ∧ ∃ h' tk, s2 = { s' with heap := h', toks := tk } ∧ ∀ b o, b ≠ I → s'.heap.get? b = some o → h'.get? b = some o) (E := NoE) ?_ ?_ (fun _ _ z => z.elim)
      · exact src.done s' _ hI keep1 fun h' tk hk' => ⟨rfl, h', tk, rfl, hk'⟩
      · rintro r s2 ⟨rfl, h', tk, rfl, hk'⟩
        obtain ⟨f, hn', _⟩ := xs.loc
        refine hR outs G' _ vs nn hi ⟨f, hn'.at' fun o e => hk' _ o d2 e⟩ (hk' _ _ d3 ha) (VRs.keeps (fun b o hb' e => ⟨hk' b o (fun q => hb' (Cx.comp_V.mpr (.inr (.inr (.inl q))))) e, hb'⟩) _ _ hv) ?_ ?_
        · exact fun h'' k'' => xs.g h'' fun b o hb' e => k'' b o (fun h => hb' (by
            rcases List.mem_cons.mp h with q | h
            · exact Cx.comp_O.mpr (.inl q)
            rcases List.mem_cons.mp h with q | h
            · exact Cx.comp_O.mpr (.inr (.inl q))
            · exact Cx.comp_O.mpr (.inr (.inr (.inr h))))) (hk' b o (fun q => hb' (Cx.comp_O.mpr (.inr (.inr (.inl q))))) e)
        · exact ⟨fun b o hb' e => hk' b o (old b o e).2.2 (st.keep b o hb' e), fun b o e => by
            obtain ⟨o1, e1⟩ := st.there b o e
            exact ⟨o1, hk' b o1 (old b o e).2.2 e1⟩, st.gens, st.os⟩
  refine codeAny_compStart_list loop (wpAny_mono (Q := fun v s' => v = .ref I ∧ s' = s4) (E := NoE) (src.self 0 s4 _ hit ⟨rfl, rfl⟩) ?_ (fun _ _ z => z.elim))
  rintro v s' ⟨rfl, rfl⟩
  exact loop
end
end Mine
end

-- part W16
section
open PySem PySem.W PyProof.Rows PySem.SeqAt
set_option Elab.async false
set_option linter.unusedVariables false
set_option maxRecDepth 100000
namespace Mine

theorem get_fresh (h : Heap) : h.get? h.objs.size = none := by
  cases q : h.get? h.objs.size with
  | none => rfl
  | some o => exact absurd (Heap.lt_size q) (Nat.lt_irrefl _)
theorem get_ge {h : Heap} {b : Addr} (hb : h.objs.size ≤ b) : h.get? b = none := by
  cases q : h.get? b with
  | none => rfl
  | some o => exact absurd (Heap.lt_size q) (Nat.not_lt.mpr hb)

/-- what a comprehension's place needs -/
structure CompOk (c : Cx) (mc mci : LM) (x : Str) (px : Pos) (iter : Expr) (scope : Scope) (cl : List (Str × Addr)) : Prop where
  hs : ∀ x, foldedSetIterable iter c.env x = pure x
  hclos : closureFor scope c.env = pure cl
  hcell : ∀ y ∈ scope.names, y.2 ≠ .cell
  hkind : scope.kind = .function
  hnames : ∀ y ∈ scope.names, y.2 = .local → scope.names.lookup y.1 = some .local
  hx : scope.names.lookup x = some .local
  ht : ∀ it v, letOwnedTupleGo (.Name x px) it v = pure ()
  hmc : ∀ x a, mci.lookup x = some a → mc.lookup x = some a ∧ cl.lookup x = c.env.cells.lookup x
  hcl : ∀ p ∈ cl, p.2 ∈ c.V

def CompBody (c : Cx) (mci : LM) (x : Str) (ifs : List Expr) (elt : Expr) (scope : Scope) (cl : List (Str × Addr)) (items : List AV) (Inv : Nat → List AV → (Heap → Prop) → Prop) : Prop :=
  ∀ C acc I i a outs G' ml, items[i]? = some a → Inv i outs G' → (∀ n, CxOk c n → CxOk (c.comp scope cl C acc I) n) → IFs (c.comp scope cl C acc I) ((x, a) :: ml) mci G' ifs fun ok G1 =>
      (ok = true → EV (c.comp scope cl C acc I) ((x, a) :: ml) mci G1 elt fun b G2 => Inv (i + 1) (outs ++ [b]) G2) ∧ (ok = false → Inv (i + 1) outs G1)

theorem comp_open {c : Cx} {m mc mci : LM} {G : Heap → Prop} {x : Str} {px pos : Pos} {elt iter : Expr} {ifs : List Expr} {scope : Scope} {cl : List (Str × Addr)} {s1 : Shared} {a : AV} {xv : Value} {items : List AV}
    (O : CompOk c mc mci x px iter scope cl) (hA : c.A.handled = Option.none) (x1 : At c m mc G s1) (ra : VR c.V s1.heap a xv) (hi : Items a = some items) (hn : items.length ≤ sizeLine)
    (Inv : Nat → List AV → (Heap → Prop) → Prop) (h0 : Inv 0 [] G) (hb : CompBody c mci x ifs elt scope cl items Inv) {RR : Value → Addr → Result → Shared → Prop}
    (hR : ∀ acc C outs G' s' vs n, s1.heap.get? acc = none → s1.heap.get? C = none → acc ≠ C → Inv items.length outs G' → (∃ f, s'.heap.Ns C f) → s'.heap.get? acc = some (LObj vs n) → VRs c.V s'.heap outs vs →
      (∀ v ∈ c.V, v ≠ C ∧ v ≠ acc) → VRs (C :: acc :: c.V) s'.heap outs vs → GB (C :: acc :: c.O) G' s'.heap → Stp c.D s1 s' → RR (.ref acc) C (.ok .next) s') :
    wpAny c.M c.A (pyIter xv) (fun it s₂ => wpAny c.M c.A (newList []) (fun acc s₃ => wpAny c.M c.A (newFunctionEnv scope c.env.globals cl [] c.env.qual Option.none Value.none (some c.env)) (fun cenv s₄ =>
      codeAny c.M c.A (.compStart (.ListComp elt [⟨.Name x px, iter, ifs, 0⟩] scope pos) 0 it acc { cenv with scope := relabel scope c.env }) (RR acc cenv.locals) s₄) NoE s₃) NoE s₂) NoE s1 := by
  refine source_of hA hi (by unfold sizeLine at hn; omega) ra fun I It o h2 nI e2 tI hI src => ?_
  subst e2
  refine wpAny_newObj_type (wpAny_newFunctionEnv O.hcell (by intro y hy; simp at hy) (fun h₁ hns₁ hsb₁ => ?_) O.hkind) (by show (#[] : Array Value).size ≤ _; simp)
  dsimp only at hns₁ hsb₁ ⊢
  generalize hH1 : s1.heap.push o = H1 at *
  generalize hH2 : H1.push { cls := .type "list", dict := none, data := .seq ([] : List Value).toArray } = H2 at hns₁ hsb₁ ⊢
  have z1 : H1.objs.size = s1.heap.objs.size + 1 := by rw [← hH1, Heap.size_push]
  have z2 : H2.objs.size = H1.objs.size + 1 := by rw [← hH2, Heap.size_push]
  have k1 : ∀ b o, s1.heap.get? b = some o → H1.get? b = some o := fun b o' e => by rw [← hH1]; exact Heap.get?_push_of_some _ e
  have k2 : ∀ b o, H1.get? b = some o → H2.get? b = some o := fun b o' e => by rw [← hH2]; exact Heap.get?_push_of_some _ e
  have k3 : ∀ b o, H2.get? b = some o → h₁.get? b = some o := fun b o' e => hsb₁.extBut b o' (Nat.ne_of_lt (Heap.lt_size e)) (Heap.get?_push_of_some _ e)
  have nC : s1.heap.get? H2.objs.size = none := get_ge (by omega)
  have nA : s1.heap.get? H1.objs.size = none := get_ge (by omega)
  have hacc : H2.get? H1.objs.size = some (LObj [] 0) := by rw [← hH2]; exact Heap.get?_push_size _ rfl
  obtain ⟨oI, tI⟩ := tI
  have hIlt : (I : Nat) < H1.objs.size := Heap.lt_size tI
  have d1 : (H2.objs.size : Nat) ≠ H1.objs.size := by omega
  have d2 : H2.objs.size ≠ I := Nat.ne_of_gt (Nat.lt_of_lt_of_le hIlt (by omega))
  have d3 : H1.objs.size ≠ I := Nat.ne_of_gt hIlt
  refine comp_turns (c := c) (m := m) (mc := mc) (mci := mci) (G := G) (scope := scope) (cl := cl) (C := H2.objs.size) (acc := H1.objs.size) (I := I) (s1 := s1) (items := items) (It := It) Inv src hn x1
    (Stp.grow (fun b o e => k3 _ _ (k2 _ _ (k1 _ _ e))) rfl rfl) nC nA nI d1 d2 d3 ⟨oI, k3 _ _ (k2 _ _ tI)⟩ hns₁
    (src.loc _ _ _ (fun o e => k3 _ _ (k2 _ _ e)) hI) (k3 _ _ hacc) O.hmc O.hcl O.hkind (lookup_relabel_local O.hx) O.ht h0
    (fun i a outs G' ml hia hinv okc => hb _ _ _ i a outs G' ml hia hinv okc) ?_
  intro outs G' s' vs n hinv hC ha hv g st
  have nV : ∀ b, s1.heap.get? b = none → ∀ v ∈ c.V, v ≠ b := fun b e v hv q => by obtain ⟨o, e'⟩ := x1.gd.lt v hv; rw [q, e] at e'; cases e'
  refine hR _ _ outs G' s' vs n nA nC (Ne.symm d1) hinv hC ha (VRs.keeps (fun b o hb e => ⟨e, fun h => hb (Cx.comp_V.mpr (.inr (.inr (.inr h))))⟩) _ _ hv) (fun v hv => ⟨nV _ nC v hv, nV _ nA v hv⟩)
    (VRs.keeps (fun b o hb e => ⟨e, fun h => hb (by
      rcases List.mem_cons.mp h with q | h
      · exact Cx.comp_V.mpr (.inl q)
      rcases List.mem_cons.mp h with q | h
      · exact Cx.comp_V.mpr (.inr (.inl q))
      · exact Cx.comp_V.mpr (.inr (.inr (.inr h))))⟩) _ _ hv) g st

theorem EV.comp {c : Cx} {m mc mci : LM} {G : Heap → Prop} {K : AK} {x : Str} {px pos : Pos} {elt iter : Expr} {ifs : List Expr} {scope : Scope} {cl : List (Str × Addr)} (O : CompOk c mc mci x px iter scope cl) (hA : c.A.handled = Option.none)
    (Inv : Nat → List AV → (Heap → Prop) → Prop)
    (h : EV c m mc G iter fun a G1 => ∃ items, Items a = some items ∧ items.length ≤ sizeLine ∧ Inv 0 [] G1 ∧ CompBody c mci x ifs elt scope cl items Inv ∧ ∀ outs G', Inv items.length outs G' → K (.lst outs) G') :
    EV c m mc G (.ListComp elt [⟨.Name x px, iter, ifs, 0⟩] scope pos) K := ⟨fun s x0 => by
  rw [eval_ListComp]
  refine wpAny_comprehension_free (use := Option.none) (g := ⟨.Name x px, iter, ifs, 0⟩) (gs := []) rfl O.hs O.hclos O.hkind O.hnames (wpAny_imp (h.run s x0) ?_)
  rintro xv s1 ⟨a, G1, ra, x1, y1, items, hi, hn, h0, hb, hk⟩
  refine comp_open (RR := fun acc C => compPost c.M c.A NoE Option.none (fun v s' => ∃ a G', VR c.V s'.heap a v ∧ At c m mc G' s' ∧ Stp c.D s s' ∧ K a G') acc C) O hA x1 ra hi hn Inv h0 hb ?_
  intro acc C outs G' s' vs n nA nC hAC hinv hC ha hv nV hv2 g st
  obtain ⟨f, hf⟩ := hC
  refine ⟨f, hf, fun h' hs' => ?_⟩
  have k : ∀ b o, b ≠ C → s'.heap.get? b = some o → h'.get? b = some o := hs'.extBut
  have st' : Stp c.D s1 { s' with heap := h' } := ⟨fun b o hb' e => k b o (fun q => by rw [q, nC] at e; cases e) (st.keep b o hb' e), fun b o e => by
    obtain ⟨o1, e1⟩ := st.there b o e
    exact ⟨o1, k b o1 (fun q => by rw [q, nC] at e; cases e) e1⟩, st.gens, st.os⟩
  refine ⟨.lst outs, G', ⟨acc, vs, n, rfl, fun h => (nV acc h).2 rfl, k _ _ hAC ha, ?_⟩, x1.step st' (fun h'' k'' => g h'' fun b o hb' e => ?_), y1.trans st', hk outs G' hinv⟩
  · exact VRs.keeps (fun b o hb' e => ⟨k b o (fun q => hb' (by rw [q]; exact List.mem_cons_self ..)) e, fun h => hb' (List.mem_cons_of_mem _ (List.mem_cons_of_mem _ h))⟩) _ _ hv2
  · exact k'' b o (fun h => hb' (List.mem_cons_of_mem _ (List.mem_cons_of_mem _ h))) (k b o (fun q => hb' (by rw [q]; exact List.mem_cons_self ..)) e)⟩
end Mine
end

-- part W17
section
open PySem PySem.W PyProof.Rows PySem.SeqAt
set_option Elab.async false
set_option linter.unusedVariables false
set_option maxRecDepth 100000
namespace Mine

theorem GB.keeps_sub {O O' : List Addr} {G : Heap → Prop} {h : Heap} (x : GB O G h) (k : ∀ b ∈ O', b ∈ O) : GB O' G h := fun h' k' => x h' fun b o hb e => k' b o (fun h => hb (k b h)) e

theorem At.plusD {c : Cx} {m mc : LM} {G G' : Heap → Prop} {s s' : Shared} {I : Addr} (x : At c m mc G s) (y : Stp c.D s s') (hn : s.heap.get? I = none) (hI : ∃ o, s'.heap.get? I = some o) (g : GB (I :: c.O) G' s'.heap) :
    At (c.plus I) m mc G' s' ∧ I ∉ c.V := by
  have hIV : I ∉ c.V := fun h => by obtain ⟨o, e⟩ := x.gd.lt I h; rw [hn] at e; cases e
  have old : ∀ b o, s.heap.get? b = some o → b ≠ I := fun b o e q => by subst q; rw [hn] at e; cases e
  have kD : ∀ b o, b ∉ c.V → s.heap.get? b = some o → s'.heap.get? b = some o := fun b o hb e => y.keep b o (fun h => hb (c.D_sub b h)) e
  have rr : ∀ {a v}, VR c.V s.heap a v → VR (c.plus I).V s'.heap a v := fun {a v} r => VR.keeps (fun b o hb e => ⟨kD b o hb e, fun h => by
    rcases Cx.plus_V.mp h with q | h
    · exact old b o e q
    · exact hb h⟩) a v r
  have x' := x.step y (G' := fun _ => True) (fun _ _ => trivial)
  refine ⟨⟨?_, ?_, x.locD, ?_, ?_⟩, hIV⟩
  · obtain ⟨f, ⟨o, es, ep, ho, r⟩, h⟩ := x.loc
    exact ⟨f, ⟨o, es, ep, y.keep _ _ x.locD ho, r⟩, fun n a e => let ⟨v, e1, e2⟩ := h n a e; ⟨v, e1, rr e2⟩⟩
  · intro n a e
    obtain ⟨b, v, h1, h2, ⟨o, ho, hd⟩, h3⟩ := x.cel n a e
    exact ⟨b, v, h1, h2, ⟨o, y.keep _ _ h2 ho, hd⟩, rr h3⟩
  · exact fun h' k => g h' fun b o hb e => k b o (fun h => by
      rcases Cx.plus_O.mp h with q | h
      · exact hb (by rw [q]; exact List.mem_cons_self ..)
      · exact hb (List.mem_cons_of_mem _ h)) e
  · refine ⟨x'.gd.k, x'.gd.nl, fun v hv => ?_, fun v hv => ?_⟩
    · rcases Cx.plus_V.mp hv with rfl | hv
      · refine ⟨?_, ?_⟩
        · cases q : c.K.lookup v with
          | none => exact q
          | some o => exact absurd rfl (old v o (x.gd.k _ _ q))
        · rintro rfl
          obtain ⟨_, ⟨o, _, _, ho, _⟩, _⟩ := x.gd.nl
          exact old _ o ho rfl
      · exact x.gd.hi v hv
    · rcases Cx.plus_V.mp hv with rfl | hv
      · exact hI
      · exact x'.gd.lt v hv

theorem X1.assignComp {c : Cx} {m mc mci : LM} {G : Heap → Prop} {KF : FK} {x y : Str} {px py pos spos : Pos} {elt iter : Expr} {ifs : List Expr} {scope : Scope} {cl : List (Str × Addr)} (O : CompOk c mc mci x px iter scope cl) (hA : c.A.handled = Option.none)
    (E : EnvOk c) (hcv : ∀ p ∈ c.env.cells, p.2 ∈ c.V) (hy : c.env.kindOf y = some .local) (hsw : swapsWith (.ListComp elt [⟨.Name x px, iter, ifs, 0⟩] scope pos) (some (.Name y py)) spos.line c.env = pure true)
    (Inv : Nat → List AV → (Heap → Prop) → Prop)
    (h : EV c m mc G iter fun a G1 => ∃ items, Items a = some items ∧ items.length ≤ sizeLine ∧ Inv 0 [] G1 ∧ CompBody c mci x ifs elt scope cl items Inv ∧ ∀ outs G', Inv items.length outs G' → KF .next ((y, .lst outs) :: m) mc G') :
    X1 c m mc G (.Assign [.Name y py] (.ListComp elt [⟨.Name x px, iter, ifs, 0⟩] scope pos) spos) KF := ⟨fun s x0 => by
  rw [exec_Assign_Name_used _ _ _ _ hsw]
  refine wpAny_bind (wpAny_standAt (wpAny_bind ?_))
  show wpAny _ _ (do let _ ← comprehension (Expr.ListComp elt [⟨Expr.Name x px, iter, ifs, 0⟩] scope pos) scope c.env _ (newList []) false (eval iter c.env) (some (PySem.assign (Expr.Name y py) c.env))) _ _ s
  refine wpAny_bind (wpAny_mono (wpAny_comprehension_free (use := some (PySem.assign (Expr.Name y py) c.env)) (g := (⟨Expr.Name x px, iter, ifs, 0⟩ : Comprehension)) (gs := [])
    (Q := fun _ s' => ∃ fa m' mc' G', FRel c.V s'.heap fa .next ∧ At c m' mc' G' s' ∧ Stp (c.own ++ c.D) s s' ∧ KF fa m' mc' G') rfl O.hs O.hclos O.hkind O.hnames (wpAny_imp (h.run s x0) ?_)) (fun _ s' hq => wpAny_pure (wpAny_pure hq)) fun _ _ e => e)
  rintro xv s1 ⟨a, G1, ra, x1, y1, items, hi, hn, h0, hb, hk⟩
  refine comp_open (RR := fun acc C => compPost c.M c.A NoE (some (PySem.assign (Expr.Name y py) c.env)) (fun _ s' => ∃ fa m' mc' G', FRel c.V s'.heap fa .next ∧ At c m' mc' G' s' ∧ Stp (c.own ++ c.D) s s' ∧ KF fa m' mc' G') acc C) O hA x1 ra hi hn Inv h0 hb ?_
  intro acc C outs G' s' vs n nA nC hAC hinv hC ha hv nV hv2 g st
  obtain ⟨f, hf⟩ := hC
  obtain ⟨x2, hCV⟩ := x1.plusD (I := C) st nC (let ⟨o, _, _, e, _⟩ := hf; ⟨o, e⟩) (g.keeps_sub (fun b hb => by
    rcases List.mem_cons.mp hb with q | hb
    · rw [q]; exact List.mem_cons_self ..
    · exact List.mem_cons_of_mem _ (List.mem_cons_of_mem _ hb)))
  have hlst : VR (c.plus C).V s'.heap (.lst outs) (.ref acc) := ⟨acc, vs, n, rfl, fun h => by
    rcases Cx.plus_V.mp h with q | h
    · exact hAC q
    · exact (nV acc h).2 rfl, ha, VRs.keeps (fun b o hb' e => ⟨e, fun h => hb' (by
      rcases Cx.plus_V.mp h with q | h
      · rw [q]; exact List.mem_cons_self ..
      · exact List.mem_cons_of_mem _ (List.mem_cons_of_mem _ h))⟩) _ _ hv2⟩
  show wpAny _ _ (PySem.assign (Expr.Name y py) c.env (.ref acc)) _ _ _
  refine wpAny_assign_Name (x2.store hlst hy E.own E.cells (by show (c.env.scope.kind == .class || (c.env.scope.kind == .module && c.env.locals != c.env.globals)) = false; rw [E.kind]; rfl) fun s3 x3 y3 => ?_)
  have nC3 : C ∉ (c.plus C).own ++ (c.plus C).D := fun h => hCV (c.own_sub C h)
  refine ⟨f, hf.at' fun o e => y3.keep C o nC3 e, fun h' hs' => ?_⟩
  have k : ∀ b o, b ≠ C → s3.heap.get? b = some o → h'.get? b = some o := hs'.extBut
  have x4 : At c ((y, .lst outs) :: m) mc G' { s3 with heap := h' } := x3.leave hCV E.own (fun p hp q => hCV (q ▸ hcv p hp)) k
  have y3' : Stp (c.own ++ c.D) s' s3 := y3
  refine ⟨.next, _, _, _, rfl, x4, y1.own.trans ⟨fun b o hb' e => ?_, fun b o e => ?_, st.gens.trans y3'.gens, y3'.os.trans st.os⟩, hk outs G' hinv⟩
  · exact k b o (fun q => by rw [q, nC] at e; cases e) (y3'.keep b o hb' (st.keep b o (fun h => hb' (List.mem_append_right _ h)) e))
  · obtain ⟨o1, e1⟩ := st.there b o e
    obtain ⟨o2, e2⟩ := y3'.there b o1 e1
    exact ⟨o2, k b o2 (fun q => by rw [q, nC] at e; cases e) e2⟩⟩
end Mine
end

-- part W18
section
open PySem PySem.W PyProof.Rows PySem.SeqAt
set_option Elab.async false
set_option linter.unusedVariables false
set_option maxRecDepth 100000
namespace Mine

theorem X1.forS {c : Cx} {m mc : LM} {G : Heap → Prop} {KF : FK} {x : Str} {xp pos : Pos} {iter : Expr} {body : List Stmt} (E : EnvOk c) (hA : c.A.handled = none) (hl : c.env.kindOf x = some .local)
    (hcl : ∀ p ∈ c.env.cells, p.2 ∈ c.V) (hs : ∀ x, foldedSetIterable iter c.env x = pure x) (ht : ∀ it v, letOwnedTupleGo (.Name x xp) it v = pure ())
    (Inv : Nat → LM → LM → (Heap → Prop) → Prop)
    (h : EV c m mc G iter fun a G1 => ∃ items, Items a = some items ∧ items.length < 2 ^ 60 ∧ Inv 0 m mc G1 ∧
      (∀ i a m' mc' G', items[i]? = some a → Inv i m' mc' G' → ∀ I, I ∉ c.V → XS (c.plus I) ((x, a) :: m') mc' G' body fun fa m3 mc3 G3 => match fa with
        | .next => Inv (i + 1) m3 mc3 G3 | .cont => Inv (i + 1) m3 mc3 G3 | .brk => KF .next m3 mc3 G3 | .ret a => KF (.ret a) m3 mc3 G3) ∧
      (∀ m' mc' G', Inv items.length m' mc' G' → KF .next m' mc' G')) : X1 c m mc G (.For (.Name x xp) iter body [] pos) KF := ⟨fun s h0 => by
  refine wpAny_For (wpAny_imp (h.run s h0) ?_) hs
  rintro v s1 ⟨a, G1, ra, x1, y1, items, hitems, hlen, hi0, hbody, hend⟩
  refine source_of hA hitems hlen ra fun I It o h2 hn1 e2 tI hI0 src => ?_
  subst e2
  have st0 : Stp [] s1 { s1 with heap := s1.heap.push o } := .push _ _
  obtain ⟨x2, hIV⟩ := x1.plus (I := I) st0 hn1 tI
  have st1 : ∀ b o, s1.heap.get? b = some o → b ≠ I := fun b o e q => by rw [q, hn1] at e; cases e
  have goal : codeAny c.M c.A (.forLoop (.Name x xp) (.ref I) body [] c.env) (fun r s' => ∃ f fa m' mc' G', r = .ok f ∧ FRel c.V s'.heap fa f ∧ At c m' mc' G' s' ∧ Stp (c.own ++ c.D) s1 s' ∧ KF fa m' mc' G') { s1 with heap := s1.heap.push o } := by
    refine codeAny_forLoop (I := fun k s' => ∃ i m' mc' G', k = items.length - i ∧ i ≤ items.length ∧ At (c.plus I) m' mc' G' s' ∧ Inv i m' mc' G' ∧ It i s'.heap ∧ Stp (c.own ++ c.D) s1 s')
      (fun k s' hk => ?_) items.length ⟨0, m, mc, G1, rfl, Nat.zero_le _, x2, hi0, hI0, st0.mono (by simp)⟩ (ht _)
    obtain ⟨i, m', mc', G', rfl, hle, xs, hi, hiter, st⟩ := hk
    have cel : ∀ p ∈ c.env.cells, p.2 ≠ I := fun p hp q => hIV (q ▸ hcl p hp)
    have keep1 : ∀ b o, b ∉ c.V → s1.heap.get? b = some o → s'.heap.get? b = some o := fun b o hb e => st.keep b o (fun h => hb (c.own_sub b h)) e
    rcases Nat.lt_or_ge i items.length with hlt | hge
    · refine wpAny_mono (Q := fun r s2 => ∃ v a, r = some v ∧ items[i]? = some a ∧ VR (c.plus I).V s2.heap a v ∧ It (i + 1) s2.heap ∧ Stp [I] s' s2) (E := NoE) ?_ ?_ (fun _ _ z => z.elim)
      · refine src.item i items[i] s' _ (List.getElem?_eq_getElem hlt) hiter keep1 fun v h' tk hv' hI' hthere hk' => ⟨v, items[i], rfl, List.getElem?_eq_getElem hlt, hv' _ _ fun b o hb e => ⟨hk' b o (st1 b o e) (keep1 b o hb e), fun h => ?_⟩, hI', ?_⟩
        · rcases Cx.plus_V.mp h with q | h
          · exact st1 b o e q
          · exact hb h
        · exact ⟨fun b o hb e => hk' b o (fun q => hb (List.mem_singleton.mpr q)) e, fun b o e => by
            by_cases q : b = I
            · subst q; exact hthere
            · exact ⟨o, hk' b o q e⟩, .refl _, rfl⟩
      · rintro r s2 ⟨v, a, rfl, hia, rv, hI2, yI⟩
        have x3 := xs.other hIV E.own cel yI
        refine wpAny_assign_Name (wpAny_mono (Q := fun _ s3 => At (c.plus I) ((x, a) :: m') mc' G' s3 ∧ Stp ((c.plus I).own ++ (c.plus I).D) s2 s3) (E := NoE) ?_ ?_ (fun _ _ z => z.elim))
        · exact x3.store rv hl E.own E.cells (by show (c.env.scope.kind == .class || (c.env.scope.kind == .module && c.env.locals != c.env.globals)) = false; rw [E.kind]; rfl) fun s3 x4 y4 => ⟨x4, y4⟩
        · rintro _ s3 ⟨x4, y4⟩
          refine wpAny_mono ((hbody i a m' mc' G' hia hi I hIV).run s3 x4) ?_ (fun _ _ z => z.elim)
          rintro f s4 ⟨fa, m5, mc5, G5, rf, x5, y5, k5⟩
          have yb : Stp ((c.plus I).own ++ (c.plus I).D) s2 s4 := y4.trans y5
          have nI : I ∉ (c.plus I).own ++ (c.plus I).D := fun q => hIV (c.own_sub I q)
          have stAll : Stp (c.own ++ c.D) s1 s4 := ⟨fun b o hb e => yb.keep b o hb (yI.keep b o (fun q => st1 b o e (List.mem_singleton.mp q)) (st.keep b o hb e)), fun b o e => by
            obtain ⟨o1, e1⟩ := st.there b o e
            obtain ⟨o2, e2⟩ := yI.there b o1 e1
            exact yb.there b o2 e2, st.gens.trans (yI.gens.trans yb.gens), yb.os.trans (yI.os.trans st.os)⟩
          have next : Inv (i + 1) m5 mc5 G5 → ∃ k', k' < items.length - i ∧ ∃ i m' mc' G', k' = items.length - i ∧ i ≤ items.length ∧ At (c.plus I) m' mc' G' s4 ∧ Inv i m' mc' G' ∧ It i s4.heap ∧ Stp (c.own ++ c.D) s1 s4 := fun hn =>
            ⟨items.length - (i + 1), by omega, i + 1, m5, mc5, G5, rfl, hlt, x5, hn, src.loc _ _ _ (fun o e => yb.keep I o nI e) hI2, stAll⟩
          cases fa with
          | next => cases rf; exact next k5
          | cont => cases rf; exact next k5
          | brk => cases rf; exact ⟨.next, .next, m5, mc5, G5, rfl, rfl, x5.minus, stAll, k5⟩
          | ret b => obtain ⟨u, rfl, ru⟩ := rf; exact ⟨.ret u, .ret b, m5, mc5, G5, rfl, FRel.minus (c := c) (I := I) ⟨u, rfl, ru⟩, x5.minus, stAll, k5⟩
    · have hi' : i = items.length := by omega
      subst hi'
      refine wpAny_mono (Q := fun r s2 => r = none ∧ ∃ h' tk, s2 = { s' with heap := h', toks := tk } ∧ ∀ b o, b ≠ I → s'.heap.get? b = some o → h'.get? b = some o) (E := NoE) ?_ ?_ (fun _ _ z => z.elim)
      · exact src.done s' _ hiter keep1 fun h' tk hk' => ⟨rfl, h', tk, rfl, hk'⟩
      · rintro r s2 ⟨rfl, h', tk, rfl, hb⟩
        have x3 : At c m' mc' G' { s' with heap := h', toks := tk } := xs.leave hIV E.own cel hb
        refine wpAny_execs_nil ?_
        refine ⟨.next, .next, m', mc', G', rfl, rfl, x3, ?_, hend _ _ _ hi⟩
        exact ⟨fun b o hb' e => hb b o (st1 b o e) (st.keep b o hb' e), fun b o e => by
            obtain ⟨o1, e1⟩ := st.there b o e
            exact ⟨o1, hb b o1 (st1 b o e) e1⟩, st.gens, st.os⟩
  refine codeAny_mono goal ?_
  rintro r s' ⟨f, fa, m', mc', G', rfl, rf, xf, st, k⟩
  exact ⟨fa, m', mc', G', rf, xf, y1.own.trans st, k⟩⟩
end Mine
end

-- part W40
section
open PySem PySem.W PyProof.Rows
set_option Elab.async false
set_option linter.unusedVariables false
set_option maxRecDepth 100000
namespace Mine

def GXn (n : Nat) (a b : Array GenState) : Prop := (∀ i, i < n → b[i]? = a[i]?) ∧ (AllBare a → AllBare b)
theorem GXn.refl (n a) : GXn n a a := ⟨fun _ _ => rfl, id⟩
theorem GXn.trans {n a b c} (x : GXn n a b) (y : GXn n b c) : GXn n a c := ⟨fun i h => (y.1 i h).trans (x.1 i h), fun h => y.2 (x.2 h)⟩
theorem GX.n {n a b} (x : GX a b) (h : n ≤ a.size) : GXn n a b := ⟨fun i hi => x.1 i (by omega), x.2⟩
theorem GX.thenN {a b c} (x : GX a b) (y : GXn a.size b c) : GX a c := ⟨fun i h => (y.1 i h).trans (x.1 i h), fun h => y.2 (x.2 h)⟩

def Cx.wide (c : Cx) (W : List Addr) : Cx := { c with outer := W ++ c.outer }
theorem Cx.wide_O {c : Cx} {W : List Addr} {b : Addr} : b ∈ (c.wide W).O ↔ b ∈ W ∨ b ∈ c.O := by
  unfold Cx.wide Cx.O
  simp only [List.mem_append]
  constructor <;> (intro h; rcases h with h | h | h <;> simp [h])
theorem Cx.wide_V {c : Cx} {W : List Addr} {b : Addr} : b ∈ (c.wide W).V ↔ b ∈ W ∨ b ∈ c.V := by
  unfold Cx.V
  rw [List.mem_append, Cx.wide_O, List.mem_append]
  show (b ∈ W ∨ b ∈ c.O) ∨ b ∈ c.D ↔ b ∈ W ∨ b ∈ c.O ∨ b ∈ c.D
  constructor
  · rintro ((h | h) | h) <;> simp [h]
  · rintro (h | h | h) <;> simp [h]
theorem CxOk.wide {c : Cx} {n : Nat} {W : List Addr} (ok : CxOk c n) (hI : ∀ I ∈ W, I ∉ c.D) : CxOk (c.wide W) n :=
  ⟨ok.a, fun d hd h => by
    rcases Cx.wide_O.mp h with h | h
    · exact hI d h hd
    · exact ok.d d hd h⟩
theorem EnvOk.wide {c : Cx} {W : List Addr} (E : EnvOk c) : EnvOk (c.wide W) := ⟨E.own, E.cells, E.kind⟩

theorem At.wide {c : Cx} {m mc : LM} {G : Heap → Prop} {s s' : Shared} {W : List Addr} (x : At c m mc G s) (y : Hp [] s s') (hn : ∀ I ∈ W, s.heap.get? I = none) (hI : ∀ I ∈ W, ∃ o, s'.heap.get? I = some o) : At (c.wide W) m mc G s' ∧ ∀ I ∈ W, I ∉ c.V := by
  have hIV : ∀ I ∈ W, I ∉ c.V := fun I hi h => by obtain ⟨o, e⟩ := x.gd.lt I h; rw [hn I hi] at e; cases e
  have old : ∀ b o, s.heap.get? b = some o → b ∉ W := fun b o e q => by rw [hn b q] at e; cases e
  have rr : ∀ {a v}, VR c.V s.heap a v → VR (c.wide W).V s'.heap a v := fun {a v} r => VR.keeps (fun b o hb e => ⟨y.keep b o (by simp) e, fun h => by
    rcases Cx.wide_V.mp h with q | h
    · exact old b o e q
    · exact hb h⟩) a v r
  refine ⟨⟨?_, ?_, x.locD, ?_, ?_⟩, hIV⟩
  · obtain ⟨f, ⟨o, es, ep, ho, r⟩, h⟩ := x.loc
    exact ⟨f, ⟨o, es, ep, y.keep _ _ (by simp) ho, r⟩, fun n a e => let ⟨v, e1, e2⟩ := h n a e; ⟨v, e1, rr e2⟩⟩
  · intro n a e
    obtain ⟨b, v, h1, h2, ⟨o, ho, hd⟩, h3⟩ := x.cel n a e
    exact ⟨b, v, h1, h2, ⟨o, y.keep _ _ (by simp) ho, hd⟩, rr h3⟩
  · exact fun h' k => x.g h' fun b o hb e => k b o (fun h => by
      rcases Cx.wide_O.mp h with q | h
      · exact old b o e q
      · exact hb h) (y.keep b o (by simp) e)
  · refine ⟨fun a o e => y.keep a o (by simp) (x.gd.k a o e), x.gd.nl.keeps fun b o e => y.keep b o (by simp) e, fun v hv => ?_, fun v hv => ?_⟩
    · rcases Cx.wide_V.mp hv with hw | hv
      · refine ⟨?_, ?_⟩
        · cases q : c.K.lookup v with
          | none => exact q
          | some o => exact absurd hw (old v o (x.gd.k _ _ q))
        · rintro rfl
          obtain ⟨_, ⟨o, _, _, ho, _⟩, _⟩ := x.gd.nl
          exact old _ o ho hw
      · exact x.gd.hi v hv
    · rcases Cx.wide_V.mp hv with hw | hv
      · exact hI v hw
      · obtain ⟨o, e⟩ := x.gd.lt v hv; exact y.there v o e

theorem At.otherW {c : Cx} {m mc : LM} {G : Heap → Prop} {s s' : Shared} {W : List Addr} (x : At (c.wide W) m mc G s) (hIc : ∀ I ∈ W, I ∉ c.V) (hloc : c.env.locals ∈ c.own) (hcel : ∀ p ∈ c.env.cells, p.2 ∉ W) (y : Hp W s s') : At (c.wide W) m mc G s' := by
  have wV : ∀ b ∈ W, b ∈ (c.wide W).V := fun b h => Cx.wide_V.mpr (.inl h)
  have rr : ∀ {a v}, VR (c.wide W).V s.heap a v → VR (c.wide W).V s'.heap a v := fun {a v} r => VR.keeps (fun b o hb e => ⟨y.keep b o (fun h => hb (wV b h)) e, hb⟩) a v r
  refine ⟨?_, ?_, x.locD, x.g.keeps fun b o hb e => y.keep b o (fun h => hb (Cx.wide_O.mpr (.inl h))) e, ?_⟩
  · obtain ⟨f, ⟨o, es, ep, ho, r⟩, h⟩ := x.loc
    refine ⟨f, ⟨o, es, ep, y.keep _ _ (fun h => ?_) ho, r⟩, fun n a e => let ⟨v, e1, e2⟩ := h n a e; ⟨v, e1, rr e2⟩⟩
    exact hIc _ h (List.mem_append_left _ (List.mem_append_left _ hloc))
  · intro n a e
    obtain ⟨b, v, h1, h2, ⟨o, ho, hd⟩, h3⟩ := x.cel n a e
    exact ⟨b, v, h1, h2, ⟨o, y.keep _ _ (fun h => hcel _ (mem_of_lookup h1) h) ho, hd⟩, rr h3⟩
  · refine ⟨fun a o e => y.keep a o (fun hd => ?_) (x.gd.k a o e), ?_, x.gd.hi, fun v hv => let ⟨o, e⟩ := x.gd.lt v hv; y.there v o e⟩
    · have := (x.gd.hi a (wV a hd)).1
      rw [this] at e; cases e
    · obtain ⟨mc', ⟨o, es, ep, ho, r⟩, q⟩ := x.gd.nl
      exact ⟨mc', ⟨o, es, ep, y.keep _ _ (fun hd => (x.gd.hi _ (wV _ hd)).2 rfl) ho, r⟩, q⟩

theorem At.leaveW {c : Cx} {m mc : LM} {G : Heap → Prop} {s : Shared} {W : List Addr} (x : At (c.wide W) m mc G s) : At c m mc G s := by
  have rr : ∀ {a v}, VR (c.wide W).V s.heap a v → VR c.V s.heap a v := fun {a v} r => VR.keeps (fun b o hb e => ⟨e, fun h => hb (Cx.wide_V.mpr (.inr h))⟩) a v r
  refine ⟨?_, ?_, x.locD, fun h' k => x.g h' fun b o hb e => k b o (fun h => hb (Cx.wide_O.mpr (.inr h))) e, ⟨x.gd.k, x.gd.nl, fun v hv => x.gd.hi v (Cx.wide_V.mpr (.inr hv)), fun v hv => x.gd.lt v (Cx.wide_V.mpr (.inr hv))⟩⟩
  · obtain ⟨f, hn, h⟩ := x.loc
    exact ⟨f, hn, fun n a e => let ⟨v, e1, e2⟩ := h n a e; ⟨v, e1, rr e2⟩⟩
  · intro n a e
    obtain ⟨b, v, h1, h2, h4, h3⟩ := x.cel n a e
    exact ⟨b, v, h1, h2, h4, rr h3⟩

theorem FRel.leaveW {c : Cx} {s : Shared} {W : List Addr} {fa : FA} {f : Flow} (r : FRel (c.wide W).V s.heap fa f) : FRel c.V s.heap fa f :=
  FRel.keeps (fun b o hb e => ⟨e, fun h => hb (Cx.wide_V.mpr (.inr h))⟩) fa f r

def Kp (W : List Addr) (s s' : Shared) : Prop := ∀ b o, b ∉ W → s.heap.get? b = some o → s'.heap.get? b = some o
theorem At.leaveK {c : Cx} {m mc : LM} {G : Heap → Prop} {s s' : Shared} {W : List Addr} (x : At (c.wide W) m mc G s) (hIc : ∀ I ∈ W, I ∉ c.V) (hloc : c.env.locals ∈ c.own) (hcel : ∀ p ∈ c.env.cells, p.2 ∉ W) (k : Kp W s s') : At c m mc G s' := by
  have wV : ∀ b ∈ W, b ∈ (c.wide W).V := fun b h => Cx.wide_V.mpr (.inl h)
  have rr : ∀ {a v}, VR (c.wide W).V s.heap a v → VR c.V s'.heap a v := fun {a v} r => VR.keeps (fun b o hb e => ⟨k b o (fun h => hb (wV b h)) e, fun h => hb (Cx.wide_V.mpr (.inr h))⟩) a v r
  refine ⟨?_, ?_, x.locD, fun h' k' => x.g h' fun b o hb e => k' b o (fun h => hb (Cx.wide_O.mpr (.inr h))) (k b o (fun h => hb (Cx.wide_O.mpr (.inl h))) e), ⟨fun a o e => k a o (fun hd => ?_) (x.gd.k a o e), ?_, fun v hv => x.gd.hi v (Cx.wide_V.mpr (.inr hv)), fun v hv => ?_⟩⟩
  · obtain ⟨f, ⟨o, es, ep, ho, r⟩, h⟩ := x.loc
    exact ⟨f, ⟨o, es, ep, k _ _ (fun h => hIc _ h (List.mem_append_left _ (List.mem_append_left _ hloc))) ho, r⟩, fun n a e => let ⟨v, e1, e2⟩ := h n a e; ⟨v, e1, rr e2⟩⟩
  · intro n a e
    obtain ⟨b, v, h1, h2, ⟨o, ho, hd⟩, h3⟩ := x.cel n a e
    exact ⟨b, v, h1, h2, ⟨o, k _ _ (fun h => hcel _ (mem_of_lookup h1) h) ho, hd⟩, rr h3⟩
  · have := (x.gd.hi a (wV a hd)).1
    rw [show (c.wide W).K.lookup a = c.K.lookup a from rfl, e] at this; cases this
  · obtain ⟨mc', ⟨o, es, ep, ho, r⟩, q⟩ := x.gd.nl
    exact ⟨mc', ⟨o, es, ep, k _ _ (fun hd => (x.gd.hi _ (wV _ hd)).2 rfl) ho, r⟩, q⟩
  · obtain ⟨o, e⟩ := x.gd.lt v (Cx.wide_V.mpr (.inr hv))
    exact ⟨o, k v o (fun h => hIc v h hv) e⟩

/-- an iterator: W are the addresses that its steps turn; n: the generators that were there ahead of it -/
structure SrcG (prog : Program) (w : World) (A : Around) (V : List Addr) (n : Nat) (items : List AV) (W : List Addr) (it : Value) (St : Nat → Shared → Prop) (Mid : Nat → Value → Shared → Prop) : Prop where
  frame : ∀ i s s', (∀ b o, b ∉ V → s.heap.get? b = some o → s'.heap.get? b = some o) → GX s.gens s'.gens → (∀ b o, s.heap.get? b = some o → ∃ o', s'.heap.get? b = some o') → St i s → St i s'
  item : ∀ i a s Q, items[i]? = some a → St i s → (∀ v ∈ W ++ V, ∃ o, s.heap.get? v = some o) → (∀ v s', VR (W ++ V) s'.heap a v → Mid (i + 1) v s' → Hp W s s' → GXn n s.gens s'.gens → s'.os = s.os → Q (some v) s') → wpAny (model prog w) A (pyNext it) Q NoE s
  go : ∀ i v s elts k pos Q, Mid i v s → (∀ s', St i s' → Hp W s s' → GXn n s.gens s'.gens → s'.os = s.os → Q () s') → wpAny (model prog w) A (letOwnedTupleGo (.Tuple elts k pos) it v) Q NoE s
  done : ∀ s Q, St items.length s → (∀ s', Kp W s s' → GXn n s.gens s'.gens → s'.os = s.os → Q none s') → wpAny (model prog w) A (pyNext it) Q NoE s

structure IT (c : Cx) (m mc : LM) (G : Heap → Prop) (iter : Expr) (K : List AV → (Heap → Prop) → Prop) : Prop where
  run : ∀ s, At c m mc G s → wpAny c.M c.A (eval iter c.env) (fun v s1 => wpAny c.M c.A (pyIter v) (fun it s2 => ∃ items W St Mid G', SrcG c.prog c.w c.A c.V s.gens.size items W it St Mid ∧ St 0 s2 ∧ At (c.wide W) m mc G' s2 ∧
    (∀ I ∈ W, I ∉ c.V ∧ s.heap.get? I = none) ∧ Stp c.D s s2 ∧ K items G') NoE s1) NoE s

structure TG (c : Cx) (m mc : LM) (G : Heap → Prop) (target : Expr) (a : AV) (m' : LM) : Prop where
  run : ∀ s v, At c m mc G s → VR c.V s.heap a v → wpAny c.M c.A (assign target c.env v) (fun _ s' => At c m' mc G s' ∧ Stp (c.own ++ c.D) s s') NoE s

theorem TG.name {c : Cx} {m mc : LM} {G : Heap → Prop} {x : Str} {px : Pos} {a : AV} (E : EnvOk c) (hl : c.env.kindOf x = some .local) : TG c m mc G (.Name x px) a ((x, a) :: m) := ⟨fun s v at0 r =>
  wpAny_assign_Name (at0.store r hl E.own E.cells (by rw [E.kind]; rfl) fun s' x' y' => ⟨x', y'⟩)⟩

theorem TG.pair {c : Cx} {m m1 m2 mc : LM} {G : Heap → Prop} {t1 t2 : Expr} {k : Nat} {pos : Pos} {a b : AV} (hA : c.A.handled = none) (h1 : TG c m mc G t1 a m1) (h2 : TG c m1 mc G t2 b m2)
    (he : assignEach [t1, t2] c.env = [(false, assign t1 c.env), (false, assign t2 c.env)]) : TG c m mc G (.Tuple [t1, t2] k pos) (.tup [a, b]) m2 := ⟨fun s v at0 r => by
  obtain ⟨p, vs, n, rfl, hp, ho, v1, vr, rfl, r1, v2, vr2, rfl, r2, rfl⟩ := r
  refine wpAny_assign_Tuple (items := #[v1, v2]) hA ⟨_, ho, rfl, n, rfl⟩ (by rw [he]; rfl) (by rw [he]; rfl) fun h' hb => ?_
  have st : Stp [] s { s with heap := h' } := Stp.grow (fun b o e => hb b o (Nat.ne_of_lt (Heap.lt_size e)) e) rfl rfl
  rw [he]
  show wpAny _ _ (do holding [v2] (assign t1 c.env v1); do holding [] (assign t2 c.env v2); pure ()) _ _ _
  refine wpAny_bind (wpAny_holding (wpAny_imp (h1.run _ v1 (at0.pure st) (r1.step (st.mono (by simp)))) ?_))
  rintro _ s2 ⟨x2, y2⟩
  refine wpAny_bind (wpAny_holding (wpAny_imp (h2.run _ v2 x2 ((r2.step (st.mono (by simp))).stepO y2)) ?_))
  rintro _ s3 ⟨x3, y3⟩
  exact wpAny_pure ⟨x3, (st.mono (by simp)).trans (y2.trans y3)⟩⟩

theorem X1.forT {c : Cx} {m mc : LM} {G : Heap → Prop} {KF : FK} {elts : List Expr} {k : Nat} {tpos pos : Pos} {iter : Expr} {body : List Stmt} (E : EnvOk c) (hA : c.A.handled = none)
    (hcl : ∀ p ∈ c.env.cells, p.2 ∈ c.V) (hs : ∀ x, foldedSetIterable iter c.env x = pure x)
    (Inv : Nat → LM → LM → (Heap → Prop) → Prop)
    (h : IT c m mc G iter fun items G1 => Inv 0 m mc G1 ∧
      (∀ i a m' mc' G', items[i]? = some a → Inv i m' mc' G' → ∀ W, (∀ I ∈ W, I ∉ c.V) → ∃ m'', TG (c.wide W) m' mc' G' (.Tuple elts k tpos) a m'' ∧ XS (c.wide W) m'' mc' G' body fun fa m3 mc3 G3 => match fa with
        | .next => Inv (i + 1) m3 mc3 G3 | .cont => Inv (i + 1) m3 mc3 G3 | .brk => KF .next m3 mc3 G3 | .ret a => KF (.ret a) m3 mc3 G3) ∧
      (∀ m' mc' G', Inv items.length m' mc' G' → KF .next m' mc' G')) : X1 c m mc G (.For (.Tuple elts k tpos) iter body [] pos) KF := ⟨fun s h0 => by
  refine wpAny_For (wpAny_imp (h.run s h0) ?_) hs
  intro v s1 h1
  refine wpAny_imp h1 ?_
  rintro it s2 ⟨items, W, St, Mid, G1, src, hst, x2, hW, y2, hi0, hbody, hend⟩
  have hWV : ∀ I ∈ W, I ∉ c.V := fun I h => (hW I h).1
  have old : ∀ b o, s.heap.get? b = some o → b ∉ W := fun b o e q => by rw [(hW b q).2] at e; cases e
  have nW : ∀ I ∈ W, I ∉ (c.wide W).own ++ (c.wide W).D := fun I h q => hWV I h (c.own_sub I q)
  have cel : ∀ p ∈ c.env.cells, p.2 ∉ W := fun p hp q => hWV _ q (hcl p hp)
  have goal : codeAny c.M c.A (.forLoop (.Tuple elts k tpos) it body [] c.env) (fun r s' => ∃ f fa m' mc' G', r = .ok f ∧ FRel c.V s'.heap fa f ∧ At c m' mc' G' s' ∧ Stp (c.own ++ c.D) s s' ∧ KF fa m' mc' G') s2 := by
    refine codeAny_forLoop_any (fun k s' => ∃ i m' mc' G', k = items.length - i ∧ i ≤ items.length ∧ At (c.wide W) m' mc' G' s' ∧ Inv i m' mc' G' ∧ St i s' ∧ Stp (c.own ++ c.D) s s')
      (fun k s' hk => ?_) items.length ⟨0, m, mc, G1, rfl, Nat.zero_le _, x2, hi0, hst, y2.own⟩
    obtain ⟨i, m', mc', G', rfl, hle, xs, hi, hiter, st⟩ := hk
    have ltW : ∀ v ∈ W ++ c.V, ∃ o, s'.heap.get? v = some o := fun v hv => xs.gd.lt v (Cx.wide_V.mpr (List.mem_append.mp hv))
    rcases Nat.lt_or_ge i items.length with hlt | hge
    · refine wpAny_mono (Q := fun r s3 => ∃ v, r = some v ∧ VR (W ++ c.V) s3.heap items[i] v ∧ Mid (i + 1) v s3 ∧ Hp W s' s3 ∧ GXn s.gens.size s'.gens s3.gens ∧ s3.os = s'.os) (E := NoE)
        (src.item i items[i] s' _ (List.getElem?_eq_getElem hlt) hiter ltW fun v s3 a b c d e => ⟨v, rfl, a, b, c, d, e⟩) ?_ (fun _ _ z => z.elim)
      rintro _ s3 ⟨v, rfl, rv, hmid, y3, g3, o3⟩
      have stp3 : ∀ {s4}, Hp W s' s4 → GXn s.gens.size s'.gens s4.gens → s4.os = s'.os → Stp (c.own ++ c.D) s s4 := fun {s4} y g o => ⟨fun b o' hb e => y.keep b o' (old b o' e) (st.keep b o' hb e), fun b o' e => by
          obtain ⟨o1, e1⟩ := st.there b o' e
          exact y.there b o1 e1, st.gens.thenN g, o.trans st.os⟩
      have x3 := xs.otherW hWV E.own cel y3
      refine wpAny_mono (Q := fun _ s4 => St (i + 1) s4 ∧ Hp W s3 s4 ∧ GXn s.gens.size s3.gens s4.gens ∧ s4.os = s3.os) (E := NoE) (src.go (i + 1) v s3 elts _ tpos _ hmid fun s4 a b c d => ⟨a, b, c, d⟩) ?_ (fun _ _ z => z.elim)
      rintro _ s4 ⟨hst4, y4, g4, o4⟩
      have x4 := x3.otherW hWV E.own cel y4
      have rv4 : VR (c.wide W).V s4.heap items[i] v := VR.keeps (fun b o hb e => ⟨y4.keep b o (fun h => hb (List.mem_append_left _ h)) e, fun h => hb (List.mem_append.mpr (Cx.wide_V.mp h))⟩) _ _ rv
      have st4 : Stp (c.own ++ c.D) s s4 := stp3 (y3.trans y4) (g3.trans g4) (o4.trans o3)
      obtain ⟨m'', tg, hb⟩ := hbody i items[i] m' mc' G' (List.getElem?_eq_getElem hlt) hi W hWV
      refine wpAny_mono (tg.run s4 v x4 rv4) ?_ (fun _ _ z => z.elim)
      rintro _ s5 ⟨x5, y5⟩
      refine wpAny_mono (hb.run s5 x5) ?_ (fun _ _ z => z.elim)
      rintro f s6 ⟨fa, m6, mc6, G6, rf, x6, y6, k6⟩
      have yb : Stp (c.own ++ c.D) s4 s6 := Stp.trans y5 y6
      have stAll : Stp (c.own ++ c.D) s s6 := st4.trans yb
      have hst6 : St (i + 1) s6 := src.frame _ s4 s6 (fun b o hb e => yb.keep b o (fun h => hb (c.own_sub b h)) e) yb.gens yb.there hst4
      have next : Inv (i + 1) m6 mc6 G6 → ∃ k', k' < items.length - i ∧ ∃ i m' mc' G', k' = items.length - i ∧ i ≤ items.length ∧ At (c.wide W) m' mc' G' s6 ∧ Inv i m' mc' G' ∧ St i s6 ∧ Stp (c.own ++ c.D) s s6 := fun hn =>
        ⟨items.length - (i + 1), by omega, i + 1, m6, mc6, G6, rfl, hlt, x6, hn, hst6, stAll⟩
      cases fa with
      | next => cases rf; exact next k6
      | cont => cases rf; exact next k6
      | brk => cases rf; exact ⟨.next, .next, m6, mc6, G6, rfl, rfl, x6.leaveW, stAll, k6⟩
      | ret b => obtain ⟨u, rfl, ru⟩ := rf; exact ⟨.ret u, .ret b, m6, mc6, G6, rfl, FRel.leaveW (c := c) (W := W) ⟨u, rfl, ru⟩, x6.leaveW, stAll, k6⟩
    · have hi' : i = items.length := by omega
      subst hi'
      refine wpAny_mono (Q := fun r s3 => r = none ∧ Kp W s' s3 ∧ GXn s.gens.size s'.gens s3.gens ∧ s3.os = s'.os) (E := NoE)
        (src.done s' _ hiter fun s3 c d e => ⟨rfl, c, d, e⟩) ?_ (fun _ _ z => z.elim)
      rintro _ s3 ⟨rfl, y3, g3, o3⟩
      have x3 := xs.leaveK hWV E.own cel y3
      refine wpAny_execs_nil ?_
      exact ⟨.next, .next, m', mc', G', rfl, rfl, x3, ⟨fun b o' hb e => y3 b o' (old b o' e) (st.keep b o' hb e), fun b o' e => by
          obtain ⟨o1, e1⟩ := st.there b o' e
          exact ⟨o1, y3 b o1 (old b o' e) e1⟩, st.gens.thenN g3, o3.trans st.os⟩, hend _ _ _ hi⟩
  refine codeAny_mono goal ?_
  rintro r s' ⟨f, fa, m', mc', G', rfl, rf, xf, st, k⟩
  exact ⟨fa, m', mc', G', rf, xf, st, k⟩⟩
end Mine
end

-- part W41
section
open PySem PySem.W PyProof.Rows
set_option Elab.async false
set_option linter.unusedVariables false
set_option maxRecDepth 100000
namespace Mine

section
variable {prog : Program} {w : World} {A : Around} {E : Value → Shared → Prop} {s : Shared}

theorem pyNext_genF {a : Addr} {g n : Nat} {gs : GenState} {P : Nat → Shared → Shared → Prop} {Y : Protocol} {Q : Option Value → Shared → Prop} (hh : A.handled = none)
    (hl : s.heap.NoLimit) (hroom : A.depth < recursionLimit)
    (hg : s.heap.IsGen a g) (hgs : s.gens[g]? = some gs)
    (hgo : gs.Goes (model prog w) A.in1 (fun n s₀ r s₁ => r = .ok (.ret .none) ∧ P n s₀ s₁) Y n (.send .none) (s.setGen g .running))
    (hY : ∀ v s₁ gs', gs'.bare = true → Y (n - 1) (s.setGen g .running) v s₁ (fun r' s'' => match n with
        | 0 => False
        | m + 1 => gs'.Goes (model prog w) A.in1 (fun n s₀ r s₁ => r = .ok (.ret .none) ∧ P n s₀ s₁) Y m r' s'') → Q (some v) (s₁.setGen g gs'))
    (hP : ∀ s₁, P n (s.setGen g .running) s₁ → ∀ h', (∀ b o, s₁.heap.get? b = some o → h'.get? b = some o) → Q none { s₁.setGen g .finished with heap := h' }) :
    wpAny (model prog w) A (pyNext (.ref a)) Q E s := by
  unfold pyNext
  refine wpAny_bind (wpAny_attempt (wpAny_callSpecial?_slot (name := Str.ofString "__next__") hg.typeIs slot_gen_next
    (wpAny_call_entry slot_gen_next hg.typeIs entry_gen_next ?_ (args_gen_next _))))
  show wpAny _ A.in1 (Builtin.Generator.genWake (.ref a) (.send .none)) _ _ s
  unfold Builtin.Generator.genWake
  refine wpAny_bind (wpAny_holding (wpAny_genNumber hg (wpAny_bind (wpAny_genState hgs ?_))))
  cases gs with
  | running => exact hgo.elim
  | finished => exact hgo.elim
  | _ =>
    refine wpAny_bind (wpAny_roomToWake hl hroom ?_)
    show wpAny _ A.in1 (.resume g (.send .none) [] _) _ _ s
    refine wpAny_resumeQ hgs hgo (fun x s₁ hx => ?_) (fun v s₁ gs' hb hv => ?_)
    · obtain ⟨rfl, hp⟩ := hx
      show wpAny _ A.in1 (newExc (.type "StopIteration") [] >>= _) _ _ _
      refine wpAny_bind ?_
      simp only [newExc, newTuple]
      refine wpAny_bind (wpAny_newObj_type ?_ (by size_fits))
      refine wpAny_bind (m := firstArgMember _ _) (wpAny_of_eq (a := Value.none) (by first | rfl | (simp only [firstArgMember]; rfl)) ?_)
      refine wpAny_newObj_type ?_ (by size_fits)
      simp only [raiseNew]
      refine wpAny_bind (wpAny_bind (wpAny_handled ?_))
      first | rw [show A.in1.handled = none from hh] | rw [hh]
      refine wpAny_throw ?_
      refine wpAny_bind (wpAny_isInstance (T := "StopIteration") (b := true) ⟨_, Heap.get?_push_size _ rfl, rfl⟩ isSubtype_stop ?_)
      exact wpAny_pure (hP s₁ hp _ fun b o hb => Heap.get?_push_of_some _ (Heap.get?_push_of_some _ hb))
    · exact wpAny_pure ⟨v, rfl, wpAny_pure (hY v s₁ gs' hb hv)⟩
end

theorem setGen_other {s : Shared} {g i : Nat} {x : GenState} (h : i ≠ g) : (s.setGen g x).gens[i]? = s.gens[i]? := (GenOnly.setGen s g x).2 i h
theorem setGen_bare {s : Shared} {g : Nat} {x : GenState} (hb : x.bare = true) (h : AllBare s.gens) : AllBare (s.setGen g x).gens := fun y hy => by
  obtain ⟨i, hi, rfl⟩ := Array.mem_iff_getElem.mp hy
  by_cases e : i = g
  · subst e
    have : (s.setGen i x).gens[i]? = some x := by
      have hlt : i < s.gens.size := by have := (GenOnly.setGen s i x).1; omega
      exact setGen_self (gs := s.gens[i]) (Array.getElem?_eq_getElem hlt)
    rw [Array.getElem?_eq_getElem hi] at this
    rw [Option.some.inj this]
    exact hb
  · have h1 := setGen_other (s := s) (x := x) e
    rw [Array.getElem?_eq_getElem hi] at h1
    obtain ⟨hi', e'⟩ := Array.getElem?_eq_some_iff.mp h1.symm
    exact e' ▸ h _ (Array.getElem_mem hi')

/-- the state of a generator of which j items have been taken -/
structure GenSt (d : GN) (A : Around) (a : Addr) (g : Nat) (j : Nat) (s : Shared) : Prop where
  gen : s.heap.IsGen a g
  nl : s.heap.NoLimit
  go : ∃ gs, s.gens[g]? = some gs ∧ j ≤ d.items.length ∧ ∀ s'', Hp d.O s s'' → gs.Goes (model d.prog d.w) A.in1 d.R d.Y (d.items.length - j) (.send .none) s''

theorem GenSt.src {d : GN} {A : Around} {a : Addr} {g n : Nat} {k : Nat} (hA : AOk A k) (ha : a ∉ d.L :: d.O) (hst : cStatics ∉ d.L :: d.O) (hn : n ≤ g) :
    SrcG d.prog d.w A d.O n d.items [d.L] (.ref a) (GenSt d A a g) (fun i _ s => GenSt d A a g i s) where
  frame := fun i s s' k gx t x => by
    obtain ⟨gs, hgs, hj, hgo⟩ := x.go
    refine ⟨?_, ?_, gs, ?_, hj, fun s'' hp => hgo s'' (Hp.trans ⟨k, t⟩ hp)⟩
    · obtain ⟨o, nm, qn, ho, r⟩ := x.gen
      exact ⟨o, nm, qn, k a o (fun h => ha (List.mem_cons_of_mem _ h)) ho, r⟩
    · obtain ⟨mc, ⟨o, es, ep, ho, r⟩, q⟩ := x.nl
      exact ⟨mc, ⟨o, es, ep, k _ _ (fun h => hst (List.mem_cons_of_mem _ h)) ho, r⟩, q⟩
    · rw [gx.1 g (by rcases Nat.lt_or_ge g s.gens.size with h | h; exact h; simp [h] at hgs)]; exact hgs
  item := fun i it s Q hia x lt hQ => by
    obtain ⟨gs, hgs, hj, hgo⟩ := x.go
    have hlt : i < d.items.length := by
      rcases Nat.lt_or_ge i d.items.length with h | h
      · exact h
      · simp [h] at hia
    obtain ⟨m, hm⟩ : ∃ m, d.items.length - i = m + 1 := ⟨d.items.length - i - 1, by omega⟩
    rw [hm] at hgo
    refine pyNext_genF (P := d.P) (Y := d.Y) hA.handled x.nl hA.room x.gen hgs (hgo _ ⟨fun _ _ _ e => e, fun _ o e => ⟨o, e⟩⟩) (fun v s₁ gs' hb hv => ?_) (fun s₁ hp h' hk => ?_)
    · obtain ⟨it', hit', rv, st, hkap⟩ := hv
      have e1 : m + 1 - 1 = m := rfl
      rw [e1] at hit'
      have : d.items.reverse[m]? = d.items[i]? := by
        rw [List.getElem?_reverse (by omega)]
        congr 1; omega
      rw [this, hia] at hit'
      cases hit'
      have rv' : VR ([d.L] ++ d.O) s₁.heap it v := by unfold GN.V at rv; rwa [List.append_nil] at rv
      have hgs1 : s₁.gens[g]? = some .running := by
        rw [st.gens.1 g (by have := setGen_self (x := .running) hgs; rcases Nat.lt_or_ge g (s.setGen g .running).gens.size with h | h; exact h; simp [h] at this)]
        exact setGen_self hgs
      refine hQ v _ rv' ⟨?_, ?_, gs', setGen_self hgs1, hlt, fun s'' hp => ?_⟩ ⟨fun b o hb e => st.keep b o hb e, fun b o e => st.there b o e⟩ ⟨fun i hi => ?_, fun hbare => ?_⟩ st.os
      · obtain ⟨o, nm, qn, ho, r⟩ := x.gen
        exact ⟨o, nm, qn, st.keep a o (fun h => ha (by rw [List.mem_singleton.mp h]; exact List.mem_cons_self ..)) ho, r⟩
      · obtain ⟨mc, ⟨o, es, ep, ho, r⟩, q⟩ := x.nl
        exact ⟨mc, ⟨o, es, ep, st.keep _ _ (fun h => hst (by rw [List.mem_singleton.mp h]; exact List.mem_cons_self ..)) ho, r⟩, q⟩
      · rw [show d.items.length - (i + 1) = m by omega]
        exact hkap s'' ⟨hp.keep, hp.there⟩
      · have hig : i ≠ g := by omega
        rw [setGen_other hig, st.gens.1 i (by
          have h1 : g < (s.setGen g .running).gens.size := by
            have := setGen_self (x := .running) hgs
            rcases Nat.lt_or_ge g (s.setGen g .running).gens.size with h | h
            · exact h
            · simp [h] at this
          omega), setGen_other hig]
      · exact setGen_bare hb (st.gens.2 (setGen_bare rfl hbare))
    · exact absurd hp.1 (Nat.succ_ne_zero m)
  go := fun i v s elts k pos Q x hQ => by
    have self := hQ s x (Hp.refl _ _) (GXn.refl _ _) rfl
    unfold letOwnedTupleGo
    cases v with
    | ref b =>
      obtain ⟨o, nm, qn, ho, hc, hd, _⟩ := x.gen
      refine wpAny_bind (wpAny_load ho ?_)
      rw [hc, hd]
      show wpAny _ A (if (["enumerate", "zip", "dict_itemiterator", "dict_reverseitemiterator", "odict_iterator", "itertools.zip_longest", "itertools.pairwise"].contains "generator" && _) = true then _ else _) Q _ s
      rw [if_neg (by
        intro h
        rw [show (["enumerate", "zip", "dict_itemiterator", "dict_reverseitemiterator", "odict_iterator", "itertools.zip_longest", "itertools.pairwise"].contains "generator") = false from by decide, Bool.false_and] at h
        cases h)]
      exact wpAny_pure self
    | _ => exact wpAny_pure self
  done := fun s Q x hQ => by
    obtain ⟨gs, hgs, hj, hgo⟩ := x.go
    rw [Nat.sub_self] at hgo
    refine pyNext_genF (P := d.P) (Y := d.Y) hA.handled x.nl hA.room x.gen hgs (hgo _ ⟨fun _ _ _ e => e, fun _ o e => ⟨o, e⟩⟩) (fun v s₁ gs' hb hv => ?_) (fun s₁ hp h' hk => ?_)
    · obtain ⟨_, _, _, _, hkap⟩ := hv
      exact False.elim (hkap s₁ (Hp.refl _ _))
    · obtain ⟨_, st⟩ := hp
      refine hQ _ (fun b o hb e => hk b o (st.keep b o hb e)) ⟨fun i hi => ?_, fun hbare => ?_⟩ st.os
      · have hig : i ≠ g := by omega
        show (s₁.setGen g .finished).gens[i]? = _
        rw [setGen_other hig, st.gens.1 i (by
          have h1 : g < (s.setGen g .running).gens.size := by
            have := setGen_self (x := .running) hgs
            rcases Nat.lt_or_ge g (s.setGen g .running).gens.size with h | h
            · exact h
            · simp [h] at this
          omega), setGen_other hig]
      · exact setGen_bare (s := s₁) rfl (st.gens.2 (setGen_bare rfl hbare))

/-- the contract of a generator function: the place V of its consumer is told when the first item is asked -/
def GCT (prog : Program) (w : World) (K : Frag) (n : Nat) (f : Value) (as : List AV) (items : List AV) : Prop :=
  ∀ A, AOk A n → ∀ V vs s, Gd K V s → VRs V s.heap as vs → codeAny (model prog w) A (.call f ⟨vs, []⟩) (fun r s' => ∃ a L g, r = .ok (.ret (.ref a)) ∧ s'.heap.IsGen a g ∧ s.heap.get? a = none ∧ s.heap.get? L = none ∧ (∃ o, s'.heap.get? L = some o) ∧ Stp [] s s' ∧
    ∀ A₁ V' s'', AOk A₁ n → Gd K V' s'' → L ∉ V' → a ∉ V' → (∀ b ∈ V', b ∈ V ∨ s.heap.get? b = none) → (∀ b o, s'.heap.get? b = some o → s''.heap.get? b = some o) → s''.gens = s'.gens →
      ∃ St, SrcG prog w A₁ V' s.gens.size items [L] (.ref a) St (fun i _ s => St i s) ∧ St 0 s'' ∧ ∀ i s, St i s → s.heap.IsGen a g) s

theorem GCT.def {prog : Program} {w : World} {K : Frag} {n : Nat} {f : Addr} {as items : List AV} {fd : FuncData} {o : Obj} {body : List Stmt} {names : List Str}
    (ho : K.lookup f = some o) (hd : o.data = .func fd) (hb : fd.body = .stmts body) (hcd : codeIn K fd.code fd.qualname = true)
    (hbind : ∀ (vs : List Value) (s : Shared) (V : List Addr), K.In s.heap → VRs V s.heap as vs → BindsTo s fd ⟨vs, []⟩ (names.zip vs))
    (hcell : ∀ x ∈ fd.scope.names, x.2 ≠ .cell) (hloc : ∀ x ∈ names, fd.scope.names.lookup x = some .local)
    (hco : fd.scope.isCoroutine = false) (hgen : fd.scope.isGenerator = true) (hk : fd.scope.kind = .function) (hclo : fd.closure = [])
    (h : ∀ A L O, AOk A n → L ∉ O → SJ ⟨prog, w, K, A, callEnv fd L f, L, O, items⟩ items.length (.func body (callEnv fd L f)) [] (names.zip as).reverse ((model prog w).den (.func body (callEnv fd L f)))) :
    GCT prog w K (n + 1) (.ref f) as items := by
  intro A hA V vs s gd hr
  refine codeAny_call_generator hA.room (gd.k _ _ ho) hd hco hgen hb (codeRec_of gd.k hcd) (hbind vs s _ gd.k hr _ _ _ _ ?_)
  refine wpAny_newFunctionEnv hcell (fun x hx => hloc x.1 (List.of_mem_zip hx).1) (fun h₀ hns hsb => ?_) hk
  have key : ∀ b o, s.heap.get? b = some o → b ≠ s.heap.objs.size := fun b o e => Nat.ne_of_lt (Heap.lt_size e)
  have hkeep : ∀ b o, s.heap.get? b = some o → h₀.get? b = some o := fun b o e => hsb.extBut b o (key b o e) (Heap.get?_push_of_some _ e)
  refine ⟨gd.nl.keeps hkeep, ?_⟩
  dsimp only at hns hsb ⊢
  show ∃ a L g, _
  have hz0 : h₀.objs.size = s.heap.objs.size + 1 := by rw [hsb.1, Heap.size_push]
  have nlt : cStatics < s.heap.objs.size := let ⟨_, hn, _⟩ := gd.nl; hn.lt
  have hLo : ∃ o, h₀.get? s.heap.objs.size = some o := by obtain ⟨o, _, _, e, _⟩ := hns; exact ⟨o, e⟩
  refine ⟨_, s.heap.objs.size, s.gens.size, rfl, ⟨_, _, _, Heap.get?_push_size _ rfl, rfl, rfl, rfl⟩, ?_, ?_, (let ⟨o, e⟩ := hLo; ⟨o, Heap.get?_push_of_some _ e⟩), ?_, ?_⟩
  · cases q : s.heap.get? h₀.objs.size with
    | none => rfl
    | some o => exact absurd (Heap.lt_size q) (by rw [hz0]; exact Nat.not_lt.mpr (Nat.le_succ _))
  · cases q : s.heap.get? s.heap.objs.size with
    | none => rfl
    | some o => exact absurd (Heap.lt_size q) (Nat.lt_irrefl _)
  · refine ⟨fun b o _ e => Heap.get?_push_of_some _ (hkeep b o e), fun b o e => ⟨o, Heap.get?_push_of_some _ (hkeep b o e)⟩, ⟨fun i hi => ?_, fun hb => AllBare.push hb rfl⟩, rfl⟩
    show (s.gens.push _)[i]? = _
    rw [Array.getElem?_push, if_neg (by omega)]
  · intro A₁ V' s'' hA₁ gd' LV aV hr' keep hg
    have src := GenSt.src (d := ⟨prog, w, K, A₁.in1, callEnv fd s.heap.objs.size f, s.heap.objs.size, V', items⟩) (a := h₀.objs.size) (g := s.gens.size) (n := s.gens.size) hA₁ (fun h => by
      rcases List.mem_cons.mp h with e | h
      · rw [hz0] at e; exact Nat.succ_ne_self _ e
      · exact aV h) (fun h => by
      rcases List.mem_cons.mp h with e | h
      · exact Nat.ne_of_lt nlt e
      · exact (gd'.hi _ h).2 rfl) (Nat.le_refl _)
    refine ⟨_, src, ?_, fun i s x => x.gen⟩
    have keepA : ∀ b o, h₀.get? b = some o → s''.heap.get? b = some o := fun b o e => keep b o (Heap.get?_push_of_some _ e)
    refine ⟨⟨_, _, _, keep _ _ (Heap.get?_push_size _ rfl), rfl, rfl, rfl⟩, gd'.nl, .fresh (.func body (callEnv fd s.heap.objs.size f)), ?_, Nat.zero_le _, fun s3 hp => ?_⟩
    · rw [hg]; exact Array.getElem?_push_size ..
    · refine ⟨rfl, ?_⟩
      have hin := (show AOk A₁.in1 n from hA₁.in1)
      refine (h A₁.in1 s.heap.objs.size V' hin LV).run s3 s3 (At.hp (s := s'') ?_ hp LV hclo) (.refl _ _)
      have hL3 : ∃ o, s''.heap.get? s.heap.objs.size = some o := let ⟨o', e'⟩ := hLo; ⟨o', keepA _ _ e'⟩
      have hns' : s''.heap.Ns s.heap.objs.size (fun x => (names.zip vs).reverse.lookup x) := let ⟨o, es, ep, e, r⟩ := hns; ⟨o, es, ep, keepA _ _ e, r⟩
      have LVn : ∀ b ∈ V', b ≠ s.heap.objs.size := fun b hb q => LV (q ▸ hb)
      have hlarge : ∀ {a v}, VR V s.heap a v → VR (GN.cx ⟨prog, w, K, A₁.in1, callEnv fd s.heap.objs.size f, s.heap.objs.size, V', items⟩ (.func body (callEnv fd s.heap.objs.size f)) []).V s''.heap a v := fun {a v} r =>
        VR.keeps (fun b o' hb e => ⟨keepA b o' (hkeep b o' e), fun hm => by
          have hm : b ∈ ([s.heap.objs.size] ++ V') ++ [] := hm
          rw [List.append_nil] at hm
          rcases List.mem_append.mp hm with hm | hm
          · exact key b o' e (List.mem_singleton.mp hm)
          · rcases hr' b hm with hm | hm
            · exact hb hm
            · rw [hm] at e; cases e⟩) a v r
      refine ⟨⟨_, hns', fun x a e => ?_⟩, (fun x a e => by simp at e), (fun hm => by cases hm), (fun _ _ => trivial), ?_⟩
      · have := lookup_rel (V := V) (h := s.heap) names as vs [] [] hr (fun _ _ e => by simp at e) x a (by simpa using e)
        obtain ⟨v, h1, h2⟩ := this
        exact ⟨v, by simpa using h1, hlarge h2⟩
      · have hin : ∀ v ∈ (GN.cx ⟨prog, w, K, A₁.in1, callEnv fd s.heap.objs.size f, s.heap.objs.size, V', items⟩ (.func body (callEnv fd s.heap.objs.size f)) []).V, v = s.heap.objs.size ∨ v ∈ V' := fun v hv => by
          have hv : v ∈ ([s.heap.objs.size] ++ V') ++ [] := hv
          rw [List.append_nil] at hv
          rcases List.mem_append.mp hv with hm | hm
          · exact .inl (List.mem_singleton.mp hm)
          · exact .inr hm
        refine ⟨gd'.k, gd'.nl, fun v hv => ?_, fun v hv => ?_⟩
        · rcases hin v hv with rfl | hv
          · refine ⟨?_, Nat.ne_of_gt nlt⟩
            show K.lookup s.heap.objs.size = none
            cases q : K.lookup s.heap.objs.size with
            | none => rfl
            | some o' => exact absurd (Heap.lt_size (gd.k _ _ q)) (Nat.lt_irrefl _)
          · exact gd'.hi v hv
        · rcases hin v hv with rfl | hv
          · exact hL3
          · exact gd'.lt v hv
end Mine
end

-- part W42
section
open PySem PySem.W PyProof.Rows
set_option Elab.async false
set_option linter.unusedVariables false
set_option maxRecDepth 100000
namespace Mine

theorem over_while {A : Around} {n : Nat} {test : Expr} {body orelse b2 : List Stmt} {e e2 : Env} {k : Result → Sem Fin} {g : Bool} {l : List Value} {p : Pos} {kp : List Value} (h : AOk A (n + 1)) :
    AOk (A.over (.whileLoop test body orelse e) [.ret k none g l (.func b2 e2) p kp]) n := by
  refine ⟨h.handled, ?_, ?_⟩
  · have := h.depth
    show A.depth + frameCount ([Frame.ret k none g l (.func b2 e2) p kp].map Frame.where_) + Code.weight (.whileLoop test body orelse e) + n < _
    have e1 : frameCount ([Frame.ret k none g l (.func b2 e2) p kp].map Frame.where_) = 1 := rfl
    have e2 : Code.weight (.whileLoop test body orelse e) = 0 := rfl
    rw [e1, e2]; omega
  · have := h.units
    show A.units + unitsOf ([Frame.ret k none g l (.func b2 e2) p kp].map Frame.where_) + Code.cUnits (.whileLoop test body orelse e) + 8 * n + 40 < _
    have e1 : unitsOf ([Frame.ret k none g l (.func b2 e2) p kp].map Frame.where_) = 3 := rfl
    have e2 : Code.cUnits (.whileLoop test body orelse e) = 0 := rfl
    rw [e1, e2]; omega
theorem over_func {A : Around} {n : Nat} {b2 : List Stmt} {e2 : Env} (h : AOk A (n + 1)) : AOk (A.over (.func b2 e2) []) n := by
  refine ⟨h.handled, ?_, ?_⟩
  · have := h.depth
    show A.depth + 0 + 1 + n < _
    omega
  · have := h.units
    show A.units + 0 + 3 + 8 * n + 40 < _
    omega

section
variable {d : GN} {n : Nat} {code : Code} {fs : List Frame} {m m0 : LM} {KS : Flow → Sem Fin} {H : Value → Sem Fin} {gd : Bool → Bool} {lv : List Value → List Value}

theorem SJ.norm {t : Sem Fin} (h : SJ d n code fs m0 t) (hm : ∀ n a, m0.lookup n = some a → m.lookup n = some a) : SJ d n code fs m t := ⟨fun s₀ s x y => h.run s₀ s (x.norm hm) y⟩

theorem SJ.while {test : Expr} {body orelse : List Stmt} {pos : Pos}
    (h : ∀ p (k : Result → Sem Fin), k (.ok .next) = KS .next → SJ d n (.whileLoop test body orelse d.env) (.ret k none (gd false) (lv []) code p [] :: fs) m ((model d.prog d.w).den (.whileLoop test body orelse d.env))) :
    SJ d n code fs m ((exec (.While test body orelse pos) d.env).wrap KS H gd lv) := ⟨fun s₀ s x y => by
  refine seg_While fun p => ?_
  exact (h p _ rfl).run s₀ s x.reA y⟩

theorem SJ.turn {test : Expr} {body orelse : List Stmt}
    (h : BT (d.cx (.whileLoop test body orelse d.env) fs) m [] GT test fun b G' => G' = GT ∧
      (b = true → ∀ Hh, SJ d n (.whileLoop test body orelse d.env) fs m ((execs body d.env).wrap (fun f => match f with
            | .next | .cont => .pure (.again (.whileLoop test body orelse d.env))
            | .brk => .pure (.done .next)
            | .ret v => .pure (.done (.ret v))) Hh id id)) ∧
      (b = false → ∀ Hh, SJ d n (.whileLoop test body orelse d.env) fs m ((execs orelse d.env).wrap (fun f => .pure (.done f)) Hh id id))) :
    SJ d n (.whileLoop test body orelse d.env) fs m ((model d.prog d.w).den (.whileLoop test body orelse d.env)) := ⟨fun s₀ s x y => by
  refine seg_whileLoop (wpAny_mono (h.run s x) ?_ (fun _ _ z => z.elim))
  rintro b s1 ⟨G', x1, y1, rfl, ht, hf⟩
  have y2 : Stp [d.L] s₀ s1 := y.trans (y1.mono (by simp [GN.cx]))
  cases b with
  | true => rw [if_pos rfl]; exact (ht rfl _).run s₀ s1 x1 y2
  | false => rw [if_neg (by simp)]; exact (hf rfl _).run s₀ s1 x1 y2⟩

theorem SJ.again {test : Expr} {body orelse : List Stmt} (h : SJ d n (.whileLoop test body orelse d.env) fs m ((model d.prog d.w).den (.whileLoop test body orelse d.env))) :
    SJ d n (.whileLoop test body orelse d.env) fs m (.pure (.again (.whileLoop test body orelse d.env))) := ⟨fun s₀ s x y => by
  refine seg_again ?_ (h.run s₀ s x y)
  rfl⟩

theorem SJ.pop {k : Result → Sem Fin} {h : Option Value} {g : Bool} {l : List Value} {c₁ : Code} {p₁ : Pos} {kp : List Value} {r : Result} (hk : SJ d n c₁ fs m (k r)) : SJ d n code (.ret k h g l c₁ p₁ kp :: fs) m (leafOf r) := ⟨fun s₀ s x y =>
  seg_leaf r (hk.run s₀ s x.reA y)⟩

theorem SJ.end : SJ d 0 code [] m (.pure (.done (.ret .none))) := ⟨fun s₀ s x y => seg_end (.ok (.ret .none)) ⟨rfl, rfl, y⟩⟩

theorem SJ.func {body : List Stmt} (h : ∀ Hh, SJ d n (.func body d.env) fs m ((execs body d.env).wrap (fun f => .pure (.done (.ret (match f with | .ret v => v | _ => .none)))) Hh id id)) :
    SJ d n (.func body d.env) fs m ((model d.prog d.w).den (.func body d.env)) := ⟨fun s₀ s x y => seg_func ((h _).run s₀ s x y)⟩
end
end Mine
end

-- part W33
section
open PySem PySem.W PyProof.Rows PySem.SeqAt PySem.Calls
set_option Elab.async false
set_option linter.unusedVariables false
set_option maxRecDepth 100000
namespace Mine

/-- a call of a class's classmethod -/
theorem EV.classM {c : Cx} {m mc : LM} {G : Heap → Prop} {K : AK} {n : Nat} {o : Expr} {name : Str} {apos pos : Pos} {args : List Expr} (C f p : Addr) (mcv : Value) (obj : Value) (rest : List Value) (pl : Sem Bool) (ok : CxOk c n)
    (he : eval (.Call (.Attribute o name apos) args [] pos) c.env = (do
      let ov ← eval o c.env
      standAt apos.atName
      let (f, first) ← holding [ov] (getMethod ov name pl)
      callWith pos f first (backTo pos (starEach args c.env)) (backToKw pos (keywordEach [] c.env))))
    (hg : specialIn c.K (.ref C) "__getattribute__" = some (some (.builtin "type.__getattribute__"))) (hr : readsIn c.K C mcv = true)
    (hf : findCls c.K (.ref C) mcv name = some (.get (.builtin "classmethod.__get__") (.ref p) obj (.ref C))) (hp : recIn c.K p "classmethod" = some (.ref f :: rest)) (hfn : fnIn c.K f = true)
    (hpl : (backTo pos (starEach args c.env)).any (·.1) = false)
    (h : EV c m mc G o fun a G1 => a = .raw (.ref C) ∧ EA c m mc G1 pos args fun as G2 => CT c.prog c.w c.K n c.D (.ref f) (.raw (.ref C) :: as) G2 K) : EV c m mc G (.Call (.Attribute o name apos) args [] pos) K := ⟨fun s x => by
  refine methodCall_KW (pl := pl) (wpAny_imp (h.run s x) ?_) he
  rintro v s1 ⟨a, G1, ra, x1, y1, rfl, h1⟩
  cases ra
  refine method_cls x1.gd.k hg (cls_bind x1.gd.k hr hf (wpAny_call (cm_get (s := { s1 with toks := s1.toks + 1 }) x1.gd.k hp ?_)))
  refine handed_on rfl ?_
  have st : Stp [] s1 { s1 with toks := s1.toks + 1, heap := s1.heap.push (methodObj (.ref f) (.ref C)) } := (Stp.toks s1 (s1.toks + 1)).trans (Stp.push (s := { s1 with toks := s1.toks + 1 }) _)
  have x2 := x1.pure st
  have hq : ({ s1 with toks := s1.toks + 1, heap := s1.heap.push (methodObj (.ref f) (.ref C)) } : Shared).heap.get? s1.heap.objs.size = some (methodObj (.ref f) (.ref C)) := Heap.get?_push_size _ rfl
  have nq : s1.heap.objs.size ∉ c.V := x1.gd.fresh
  refine callWith_of (P := fun h => c.K.In h ∧ h.get? s1.heap.objs.size = some (methodObj (.ref f) (.ref C))) (by simp [hpl, backToKw, keywordEach]) (fun h hh => keeps_M (K := c.K) (q := s1.heap.objs.size) (self := .ref C) hfn h ⟨hh.2, hh.1⟩) (evalArgs_any hpl (wpAny_imp (h1.run _ x2) ?_))
  rintro vs s3 ⟨as, G2, rs, x3, y3, hct⟩
  have hq3 := y3.keep _ _ (fun hd => nq (c.D_sub _ hd)) hq
  refine ⟨⟨x3.gd.k, hq3⟩, ?_⟩
  refine wpAny_call (method_call hq3 (codeAny_mono (hct c.A ok.a c.O (.ref C :: vs) s3 x3.gd ok.d x3.g ⟨_, _, rfl, rfl, rs⟩) ?_))
  rintro r s4 ⟨u, b, G3, rfl, rb, gb, y4, k4⟩
  exact ⟨b, G3, rb, x3.step y4 gb, y1.trans ((st.mono (by simp)).trans (y3.trans y4)), k4⟩⟩
end Mine
end

-- part W5
section
open PySem PySem.W PyProof.Rows PySem.SeqAt
set_option Elab.async false
set_option linter.unusedVariables false
set_option maxRecDepth 100000
set_option pp.maxSteps 1500
set_option pp.deepTerms false
namespace Mine
local macro_rules | `(tactic| got_up) => `(tactic| first
  | refine EV.localI 0 rfl (by rfl) rfl (by kernel_rfl) ?_ (by kernel_rfl)
  | refine EV.localI 1 rfl (by rfl) rfl (by kernel_rfl) ?_ (by kernel_rfl)
  | refine EV.localI 2 rfl (by rfl) rfl (by kernel_rfl) ?_ (by kernel_rfl)
  | refine EV.localI 3 rfl (by rfl) rfl (by kernel_rfl) ?_ (by kernel_rfl)
  | refine EV.localI 4 rfl (by rfl) rfl (by kernel_rfl) ?_ (by kernel_rfl)
  | refine EV.localI 5 rfl (by rfl) rfl (by kernel_rfl) ?_ (by kernel_rfl)
  | refine EV.localI 6 rfl (by rfl) rfl (by kernel_rfl) ?_ (by kernel_rfl))
local macro_rules | `(tactic| leaf_len) => `(tactic| first
  | refine EV.str ?_ | refine EV.int ?_ | refine EV.none ?_ | refine EV.bool ?_
  | refine EV.binop ?_ | refine EV.sub ?_ | refine EV.cmp ?_ | refine EV.ifexp ?_ | refine EV.tuple ?_ | refine EV.list ?_
  | refine EA.cons ?_ | refine EA.nil ?_
  | got_up
  | refine OS.tup (by decide) (by decide) rfl rfl ?_
  | refine OB.add_str ?_ ?_
  | refine OB.add ?_
  | refine OC.lt ?_ | refine OC.le ?_ | refine OC.gt ?_ | refine OC.ge ?_
  | refine XS.cons ?_ | refine X1.ret ?_ | refine X1.iff ?_ | refine XS.nil ?_
  | refine X1.assign (cxOf_env rfl rfl) (by kernel_rfl) rfl ?_
  | refine BT.cmp ?_)
noncomputable abbrev KH (w : World) : Frag := Mine.hz.heap_448 w.params
abbrev PG : Program := PySem.Challenge.pw_ax6040_01

theorem opening_ct (w : World) (n D G) (u p t : Str) (hz : u.length + p.length + t.length ≤ 1000) : CT PG w (KH w) (n + 1) D (.ref 445) [.tup [.str u, .str p, .str t]] G
    (fun a G' => a = .str (((Str.ofString "\u001b]8;" ++ p) ++ Str.ofString ";") ++ u ++ t) ∧ G' = G) := by
  refine CT.def (o := Mine.hz.zo_417 w.params) (names := [Str.ofString "link"]) (by kernel_rfl) (hd := by rfl) (hb := by rfl) (by kernel_rfl) (hbind := ?_) (by decide +kernel) (by decide +kernel) rfl rfl rfl rfl ?_
  · intro vs s V _ hr
    obtain ⟨v, vr, rfl, r1, rfl⟩ := hr
    exact BindsTo.of_eq rfl
  · intro A L O hA hD
    have e1 : (Str.ofString "\u001b]8;").length = 4 := by decide
    have e2 : (Str.ofString ";").length = 1 := by decide
    repeat' leaf_len
    all_goals first
      | exact ⟨rfl, rfl⟩
      | (simp only [Str.length_append, sizeLine]
         first
         | (show (Str.ofString "\u001b]8;").length + _ ≤ _; omega)
         | (show (Str.ofString "\u001b]8;").length + _ + (Str.ofString ";").length ≤ _; omega)
         | (show (Str.ofString "\u001b]8;").length + _ + (Str.ofString ";").length + _ ≤ _; omega)
         | (show (Str.ofString "\u001b]8;").length + _ + (Str.ofString ";").length + _ + _ ≤ _; omega))

def takeP (ns : List Int) (sd many : Int) : Int × List Int × Int := match ns with
  | n :: r => (n.fmod many, r, sd)
  | [] => ((((sd * 48271).fmod 2147483647).fdiv 7).fmod many, [], (sd * 48271).fmod 2147483647)

theorem take_ct (w : World) (n : Nat) (D F : List Addr) (R : Heap → Prop) (d l : Addr) (ns : List Int) (sd many : Int) (hdl : d ≠ l) (hd : d ∈ D) (hl : l ∈ D) (hF : ∀ f ∈ F, f ∈ D) (hdF : d ∉ F) (hlF : l ∉ F) (hR : Loc F R)
    (hs : 0 ≤ sd ∧ sd < 2147483647) (hm : many ≠ 0) (hlen : ns.length ≤ 100) :
    CT PG w (KH w) (n + 1) D (.ref 431) [.raw (.ref d), .int many] (fun h => DR d l ns sd h ∧ R h)
    (fun a G' => a = .int (takeP ns sd many).1 ∧ G' = fun h => DR d l (takeP ns sd many).2.1 (takeP ns sd many).2.2 h ∧ R h) := by
  refine CT.def (o := Mine.hz.zo_403 w.params) (names := [Str.ofString "draw", Str.ofString "many"]) (by kernel_rfl) (hd := by rfl) (hb := by rfl) (by kernel_rfl) (hbind := ?_) (by decide +kernel) (by decide +kernel) rfl rfl rfl rfl ?_
  · intro vs s V _ hr
    obtain ⟨v, vr, rfl, r1, v2, vr2, rfl, r2, rfl⟩ := hr
    exact BindsTo.of_eq rfl
  · intro A L O hA hD
    refine XS.cons (X1.iff ?_)
    refine BT.cmp ?_
    repeat leaf_len
    refine OS.rawl (a := .raw (.ref l)) (by decide) (by decide) (fun s x => ?_) ?_
    · obtain ⟨⟨⟨t, h1⟩, vs, n', h2, hr⟩, _⟩ := x.g.here
      exact ⟨[.ref l, .int sd t], .ref l, h1, rfl, rfl⟩
    repeat leaf_len
    refine ⟨by decide, ?_⟩
    refine OC.neNil (cxOf_ok hA hD) (ns := ns) (fun s x => ?_) ?_
    · obtain ⟨⟨⟨t, h1⟩, vs, n', h2, hr⟩, _⟩ := x.g.here
      exact ⟨vs, ⟨_, h2, rfl, n', rfl⟩, by simpa using hr.length⟩
    refine ⟨_, rfl, fun hb => ?_, fun hb => ?_⟩
    · obtain ⟨i, r, rfl⟩ : ∃ i r, ns = i :: r := by cases ns with | nil => simp at hb | cons i r => exact ⟨i, r, rfl⟩
      repeat leaf_len
      refine EV.meth "list" "list.pop" rfl rfl rfl PySem.F.plainAttrs_list PySem.F.slot_list_pop PySem.F.type_list_pop ?_
      repeat leaf_len
      refine OS.rawl (a := .raw (.ref l)) (by decide) (by decide) (fun s x => ?_) ?_
      · obtain ⟨⟨⟨t, h1⟩, vs, n', h2, hr⟩, _⟩ := x.g.here
        exact ⟨[.ref l, .int sd t], .ref l, h1, rfl, rfl⟩
      refine ⟨fun v s x hv => ?_, ?_⟩
      · cases hv
        obtain ⟨_, vs, n', h2, hr⟩ := x.g.here.1
        exact ⟨⟨_, h2, rfl⟩, fun p e => by cases e; exact ⟨_, h2, rfl⟩⟩
      refine CW.pop0 (a := .int i) (G' := fun h => DR d l r sd h ∧ R h) hl (fun s x => ?_) ?_
      · obtain ⟨⟨⟨t, h1⟩, vs, n', h2, v, vr, e, ⟨t', e'⟩, hr⟩, hR'⟩ := x.g.here
        subst e e'
        have hlen' := hr.length
        refine ⟨_, vr, n', h2, ?_, ⟨t', rfl⟩, fun h' n'' e1 keep => ?_⟩
        · simp only [List.length_cons, List.length_map] at hlen hlen' ⊢
          unfold sizeLine; omega
        have dis : ∀ b ∈ [d, l] ++ F, b ∉ L :: O := fun b hb => hD b (by
          rcases List.mem_append.mp hb with h | h
          · rcases List.mem_cons.mp h with rfl | h
            · exact hd
            · rw [List.mem_singleton.mp h]; exact hl
          · exact hF b h)
        refine ((DR.loc d l r sd).and hR).gb dis ⟨⟨⟨t, ?_⟩, vr, n'', e1, ints_any hr⟩, hR.loc s.heap h' (fun b hb o e => keep b o (fun q => hlF (q ▸ hb)) e) hR'⟩
        obtain ⟨o, ho, q⟩ := h1
        exact ⟨o, keep d o hdl ho, q⟩
      repeat leaf_len
      refine OB.mod hm ⟨rfl, rfl⟩
    · obtain rfl : ns = [] := by cases ns with | nil => rfl | cons i r => simp at hb
      refine XS.cons (X1.setL rfl ?_)
      repeat leaf_len
      refine OS.rawl (a := .int sd) (by decide) (by decide) (fun s x => ?_) ?_
      · obtain ⟨⟨⟨t, h1⟩, vs, n', h2, hr⟩, _⟩ := x.g.here
        exact ⟨[.ref l, .int sd t], .int sd t, h1, rfl, ⟨t, rfl⟩⟩
      repeat leaf_len
      refine OB.mul (IntMulOk.of_right (by decide)) ?_
      repeat leaf_len
      refine OB.mod (by decide) ?_
      repeat leaf_len
      refine ⟨d, 1, fun h => DR d l [] ((sd * 48271).fmod 2147483647) h ∧ R h, rfl, rfl, hd, by decide, by decide, fun s v x hv => ?_, ?_⟩
      · obtain ⟨⟨⟨t, h1⟩, vs, n', h2, hr⟩, hR'⟩ := x.g.here
        obtain ⟨t', rfl⟩ := hv
        refine ⟨_, h1, by simp, fun h' hl' keep => ?_⟩
        have dis : ∀ b ∈ [d, l] ++ F, b ∉ L :: O := fun b hb => hD b (by
          rcases List.mem_append.mp hb with h | h
          · rcases List.mem_cons.mp h with rfl | h
            · exact hd
            · rw [List.mem_singleton.mp h]; exact hl
          · exact hF b h)
        exact ((DR.loc d l [] _).and hR).gb dis ⟨⟨⟨t', by simpa using hl'⟩, vs, n', keep l _ (Ne.symm hdl) h2, ints_any hr⟩, hR.loc s.heap h' (fun b hb o e => keep b o (fun q => hdF (q ▸ hb)) e) hR'⟩
      repeat leaf_len
      refine OS.rawl (a := .int ((sd * 48271).fmod 2147483647)) (by decide) (by decide) (fun s x => ?_) ?_
      · obtain ⟨⟨⟨t, h1⟩, vs, n', h2, hr⟩, _⟩ := x.g.here
        exact ⟨[.ref l, .int _ t], .int _ t, h1, rfl, ⟨t, rfl⟩⟩
      repeat leaf_len
      refine OB.fdiv (cxOf_ok hA hD) (by decide) (PyProof.noPylong_small (by decide)) ?_
      repeat leaf_len
      exact OB.mod hm ⟨rfl, rfl⟩

abbrev DS := List Int × Int
def DSok (p : DS) : Prop := p.1.length ≤ 100 ∧ 0 ≤ p.2 ∧ p.2 < 2147483647
def dv (p : DS) : Int := match p.1 with | n :: _ => n | [] => ((p.2 * 48271).fmod 2147483647).fdiv 7
def dn (p : DS) : DS := match p.1 with | _ :: r => (r, p.2) | [] => ([], (p.2 * 48271).fmod 2147483647)
theorem dn_ok {p : DS} (h : DSok p) : DSok (dn p) := by
  obtain ⟨ns, sd⟩ := p
  obtain ⟨h1, h2, h3⟩ := h
  cases ns with
  | nil =>
    refine ⟨by simp [dn], ?_, ?_⟩
    · exact Int.fmod_nonneg_of_pos _ (by decide)
    · exact Int.fmod_lt_of_pos _ (by decide)
  | cons i r => exact ⟨by simp [dn] at h1 ⊢; omega, h2, h3⟩
def GD (d l : Addr) (p : DS) (R : Heap → Prop) : Heap → Prop := fun h => DR d l p.1 p.2 h ∧ R h
structure DOk (D F : List Addr) (R : Heap → Prop) (d l : Addr) : Prop where
  dl : d ≠ l
  hd : d ∈ D
  hl : l ∈ D
  hF : ∀ f ∈ F, f ∈ D
  dF : d ∉ F
  lF : l ∉ F
  hR : Loc F R
theorem take_c {w : World} {n : Nat} {D F : List Addr} {R : Heap → Prop} {d l : Addr} (X : DOk D F R d l) {p : DS} (hp : DSok p) {many : Int} (hm : many ≠ 0) :
    CT PG w (KH w) (n + 1) D (.ref 431) [.raw (.ref d), .int many] (GD d l p R) (fun a G' => a = .int ((dv p).fmod many) ∧ G' = GD d l (dn p) R) :=
  (take_ct w n D F R d l p.1 p.2 many X.dl X.hd X.hl X.hF X.dF X.lF X.hR ⟨hp.2.1, hp.2.2⟩ hm hp.1).mono (Nat.le_refl _) fun a G' ⟨h1, h2⟩ => by
    obtain ⟨ns, sd⟩ := p
    cases ns <;> exact ⟨h1, h2⟩
end Mine
end

-- part W6
section
open PySem PySem.W PyProof.Rows PySem.SeqAt
set_option Elab.async false
set_option linter.unusedVariables false
set_option maxRecDepth 100000
set_option pp.maxSteps 1500
set_option pp.deepTerms false
namespace Mine
local macro_rules | `(tactic| got_up) => `(tactic| first
  | refine EV.localI 0 rfl (by rfl) rfl (by kernel_rfl) ?_ (by kernel_rfl)
  | refine EV.localI 1 rfl (by rfl) rfl (by kernel_rfl) ?_ (by kernel_rfl)
  | refine EV.localI 2 rfl (by rfl) rfl (by kernel_rfl) ?_ (by kernel_rfl)
  | refine EV.localI 3 rfl (by rfl) rfl (by kernel_rfl) ?_ (by kernel_rfl)
  | refine EV.localI 4 rfl (by rfl) rfl (by kernel_rfl) ?_ (by kernel_rfl)
  | refine EV.localI 5 rfl (by rfl) rfl (by kernel_rfl) ?_ (by kernel_rfl)
  | refine EV.localI 6 rfl (by rfl) rfl (by kernel_rfl) ?_ (by kernel_rfl))
local macro_rules | `(tactic| leaf_len) => `(tactic| first
  | refine EV.str ?_ | refine EV.int ?_ | refine EV.none ?_ | refine EV.bool ?_
  | refine EV.binop ?_ | refine EV.sub ?_ | refine EV.cmp ?_ | refine EV.ifexp ?_ | refine EV.tuple ?_ | refine EV.list ?_
  | refine EA.cons ?_ | refine EA.nil ?_
  | got_up
  | refine OS.tup (by decide) (by decide) rfl rfl ?_
  | refine OB.add_str ?_ ?_
  | refine OB.add ?_
  | refine OC.lt ?_ | refine OC.le ?_ | refine OC.gt ?_ | refine OC.ge ?_
  | refine XS.cons ?_ | refine X1.ret ?_ | refine X1.iff ?_ | refine XS.nil ?_
  | refine X1.assign (cxOf_env rfl rfl) (by kernel_rfl) rfl ?_
  | refine BT.cmp ?_)
def PARAMS : List Str := ["", "id=7", "k=v", "k=v:id=8"].map Str.ofString
def URLS : List Str := ["u", "v;w", "http://x/y"].map Str.ofString
def ENDS : List Str := ["\u0007", "\u001b\\"].map Str.ofString
def BLANKS : List Str := [" ", "\t", "\u3000"].map Str.ofString

theorem modb {a m : Int} (h : 0 < m) : 0 ≤ a.fmod m ∧ a.fmod m < m := ⟨Int.fmod_nonneg_of_pos _ h, Int.fmod_lt_of_pos _ h⟩

structure Lk where
  u : Str
  p : Str
  t : Str
def Lk.av (k : Lk) : AV := .tup [.str k.u, .str k.p, .str k.t]
def openL (p : DS) : Lk := ⟨nth URLS ((dv p).fmod 3), nth PARAMS ((dv (dn p)).fmod 4), nth ENDS ((dv (dn (dn p))).fmod 2)⟩

local macro_rules | `(tactic| got_up) => `(tactic| refine EV.callN 431 (by kernel_rfl) (by kernel_rfl) (by kernel_rfl) ?_)

theorem open_ct {w : World} {n : Nat} {D F : List Addr} {R : Heap → Prop} {d l : Addr} (X : DOk D F R d l) {p : DS} (hp : DSok p) :
    CT PG w (KH w) (n + 2) D (.ref 438) [.raw (.ref d)] (GD d l p R) (fun a G' => a = (openL p).av ∧ G' = GD d l (dn (dn (dn p))) R) := by
  refine CT.def (o := Mine.hz.zo_410 w.params) (names := [Str.ofString "draw"]) (by kernel_rfl) (hd := by rfl) (hb := by rfl) (by kernel_rfl) (hbind := ?_) (by decide +kernel) (by decide +kernel) rfl rfl rfl rfl ?_
  · intro vs s V _ hr
    obtain ⟨v, vr, rfl, r1, rfl⟩ := hr
    exact BindsTo.of_eq rfl
  · intro A L O hA hD
    refine XS.cons (X1.ret ?_)
    refine EV.tuple ?_
    refine EA.cons ?_
    refine EV.sub ?_
    refine EV.strTup 417 URLS (by kernel_rfl) (by kernel_rfl) (by kernel_rfl) ?_
    repeat leaf_len
    refine OF.ct (cxOf_ok hA hD) ((take_c X hp (by decide)).mono (Nat.le_refl _) ?_)
    rintro a G' ⟨rfl, rfl⟩
    refine OS.strI (modb (by decide)).1 (modb (by decide)).2 (by decide) ?_
    refine EA.cons ?_
    refine EV.sub ?_
    refine EV.strTup 416 PARAMS (by kernel_rfl) (by kernel_rfl) (by kernel_rfl) ?_
    repeat leaf_len
    refine OF.ct (cxOf_ok hA hD) ((take_c X (dn_ok hp) (by decide)).mono (Nat.le_refl _) ?_)
    rintro a G' ⟨rfl, rfl⟩
    refine OS.strI (modb (by decide)).1 (modb (by decide)).2 (by decide) ?_
    refine EA.cons ?_
    refine EV.sub ?_
    refine EV.strTup 418 ENDS (by kernel_rfl) (by kernel_rfl) (by kernel_rfl) ?_
    repeat leaf_len
    refine OF.ct (cxOf_ok hA hD) ((take_c X (dn_ok (dn_ok hp)) (by decide)).mono (Nat.le_refl _) ?_)
    rintro a G' ⟨rfl, rfl⟩
    refine OS.strI (modb (by decide)).1 (modb (by decide)).2 (by decide) ?_
    repeat leaf_len
    exact ⟨(by show 3 ≤ sizeLine; decide), rfl, rfl⟩
end Mine
end

-- part W9
section
open PySem PySem.W PyProof.Rows PySem.SeqAt
set_option Elab.async false
set_option linter.unusedVariables false
set_option maxRecDepth 100000
set_option pp.maxSteps 1500
set_option pp.deepTerms false
namespace Mine
local macro_rules | `(tactic| got_up) => `(tactic| first
  | refine EV.localI 0 rfl (by rfl) rfl (by kernel_rfl) ?_ (by kernel_rfl)
  | refine EV.localI 1 rfl (by rfl) rfl (by kernel_rfl) ?_ (by kernel_rfl)
  | refine EV.localI 2 rfl (by rfl) rfl (by kernel_rfl) ?_ (by kernel_rfl)
  | refine EV.localI 3 rfl (by rfl) rfl (by kernel_rfl) ?_ (by kernel_rfl)
  | refine EV.localI 4 rfl (by rfl) rfl (by kernel_rfl) ?_ (by kernel_rfl)
  | refine EV.localI 5 rfl (by rfl) rfl (by kernel_rfl) ?_ (by kernel_rfl)
  | refine EV.localI 6 rfl (by rfl) rfl (by kernel_rfl) ?_ (by kernel_rfl))
local macro_rules | `(tactic| leaf_len) => `(tactic| first
  | refine EV.str ?_ | refine EV.int ?_ | refine EV.none ?_ | refine EV.bool ?_
  | refine EV.binop ?_ | refine EV.sub ?_ | refine EV.cmp ?_ | refine EV.ifexp ?_ | refine EV.tuple ?_ | refine EV.list ?_
  | refine EA.cons ?_ | refine EA.nil ?_
  | got_up
  | refine OS.tup (by decide) (by decide) rfl rfl ?_
  | refine OB.add_str ?_ ?_
  | refine OB.add ?_
  | refine OC.lt ?_ | refine OC.le ?_ | refine OC.gt ?_ | refine OC.ge ?_
  | refine XS.cons ?_ | refine X1.ret ?_ | refine X1.iff ?_ | refine XS.nil ?_
  | refine X1.assign (cxOf_env rfl rfl) (by kernel_rfl) rfl ?_
  | refine BT.cmp ?_)
theorem OF.ax {c : Cx} {m mc : LM} {G : Heap → Prop} {K : AK} {f : Value} {as : List AV} {n : Nat} (a : AV) (ok : CxOk c n) (hn : 120 ≤ n)
    (h : ∀ vs s, c.K.In s.heap → s.heap.NoLimit → VRs c.V s.heap as vs → wpAny c.M AX (call f vs []) (fun v s' => VR c.V s'.heap a v ∧ Stp [] s s') NoE s) (k : K a G) : OF c m mc G f as K := ⟨fun vs s x r =>
  wpAny_imp (wpAny_AX (h vs s x.gd.k x.gd.nl r) (ok.a.mono hn)) fun v s' ⟨h1, h2⟩ => ⟨a, G, h1, x.pure h2, h2.mono (by simp), k⟩⟩

local macro_rules | `(tactic| x_close) => `(tactic| exact ⟨rfl, .refl _ _⟩)
theorem type_ax (w : World) (s : Shared) (X : Frag.In (Mine.hz.heap_448 w.params) s.heap) (NL : s.heap.NoLimit) (x : Addr) (a b c : Value) (n : Nat)
  (dx : Addr) (hx : s.heap.get? x = some ⟨.ref 204, some dx, .seq #[a, b, c] n, #[]⟩) :
   wpAny (model PG w) { handled := none, depth := 900, frames := none, guards := none, units := 9000 } (call (.type "type") [.ref x] []) (fun v s' => v = .ref 204 ∧ Stp [] s s') NoE s := by
  x_run
theorem issub_ax (w : World) (s : Shared) (X : Frag.In (Mine.hz.heap_448 w.params) s.heap) (NL : s.heap.NoLimit)  :
   wpAny (model PG w) { handled := none, depth := 900, frames := none, guards := none, units := 9000 } (call (.builtin "issubclass") [.ref 204, .type "tuple"] []) (fun v s' => v = .bool true ∧ Stp [] s s') NoE s := by
  x_run

open Builtin.ObjectAttr in
def isIntF : Option Found → Int → Bool
  | some (.value (.int i _)), j => i == j
  | _, _ => false
open Builtin.ObjectAttr in
theorem isIntF_ok {r : Option Found} {j : Int} (e : isIntF r j = true) : ∃ t, r = some (.value (.int j t)) := by
  unfold isIntF at e
  split at e
  · rename_i i t; exact ⟨t, by rw [beq_iff_eq.mp e]⟩
  · cases e
theorem instK {K : Frag} {h : Heap} {x C dx : Addr} {ox od : Obj} (X : K.In h) (h1 : K.lookup x = some ox) (h2 : ox.cls = .ref C) (h3 : notCls ox = true) (h4 : ox.dict = some dx) (h5 : K.lookup dx = some od) : InstAt h x ox C (some od) :=
  ⟨X _ _ h1, h2, h3, by rw [h4]; exact X _ _ h5⟩
theorem index_get {w : World} {A : Around} {s : Shared} {Q : Value → Shared → Prop} (X : (KH w).In s.heap) {x dx : Addr} {ox od : Obj} {j : Int} (h1 : (KH w).lookup x = some ox) (h2 : ox.cls = .ref 94) (h3 : notCls ox = true) (h4 : ox.dict = some dx) (h5 : (KH w).lookup dx = some od)
    (hf : isIntF (findObj (KH w) 94 (some od) (Str.ofString "index")) j = true) (hQ : ∀ t, Q (.int j t) { s with toks := s.toks + 1 }) : wpAny (model PG w) A (getAttr (.ref x) (Str.ofString "index") true) Q NoE s := by
  obtain ⟨t, e⟩ := isIntF_ok hf
  exact get_value X (instK X h1 h2 h3 h4 h5) (by kernel_rfl) e rfl (hQ t)

theorem attrInt {c : Cx} {m mc : LM} {G : Heap → Prop} {K : AK} {x : Addr} {name : Str} {j : Int} (hg : ∀ s Q, c.K.In s.heap → (∀ t, Q (.int j t) { s with toks := s.toks + 1 }) → wpAny c.M c.A (getAttr (.ref x) name true) Q NoE s) (k : K (.int j) G) :
    ∀ v s, At c m mc G s → VR c.V s.heap (.raw (.ref x)) v → wpAny c.M c.A (getAttr v name true) (fun v s' => ∃ a G', VR c.V s'.heap a v ∧ At c m mc G' s' ∧ Stp c.D s s' ∧ K a G') NoE s := fun v s h hv => by
  cases hv
  exact hg s _ h.gd.k fun t => ⟨.int j, G, ⟨t, rfl⟩, h.pure (.toks _ _), .toks _ _, k⟩

def lpart (u p t : Str) (i : Nat) : Str := [u, p, t][i]?.getD u

theorem get_ct {w : World} {n : Nat} {D : List Addr} {G : Heap → Prop} {u p t : Str} (i : Nat) (hi : i < 3) (desc : Addr) (hdesc : desc = 193 ∧ i = 0 ∨ desc = 196 ∧ i = 1 ∨ desc = 199 ∧ i = 2) :
    CT PG w (KH w) (n + 122) D (.ref 77) [.raw (.ref desc), .link u p t, .raw (.ref 204)] G (fun a G' => a = .str (lpart u p t i) ∧ G' = G) := by
  refine CT.def (o := Mine.hz.zo_89 w.params) (names := [Str.ofString "self", Str.ofString "obj", Str.ofString "objtype"]) (by kernel_rfl) (hd := by rfl) (hb := by rfl) (by kernel_rfl) (hbind := ?_) (by decide +kernel) (by decide +kernel) rfl rfl rfl rfl ?_
  · intro vs s V X hr
    obtain ⟨v, vr, rfl, r1, v2, vr2, rfl, r2, v3, vr3, rfl, r3, rfl⟩ := hr
    exact binds_K (o := Mine.hz.zo_82 w.params) X rfl (by kernel_rfl) rfl rfl rfl
  · intro A L O hA hD
    refine XS.cons (X1.iff ?_)
    refine BT.cmp ?_
    repeat leaf_len
    refine OC.isNone rfl ⟨_, rfl, fun h => (by cases h), fun _ => ?_⟩
    repeat leaf_len
    refine BT.not (BT.plain ?_)
    refine EV.callB "issubclass" (by kernel_rfl) (by kernel_rfl) rfl ?_
    refine EA.cons ?_
    refine EV.callT "type" (by kernel_rfl) (by kernel_rfl) rfl ?_
    repeat leaf_len
    refine OF.ax (n := n + 121) (.raw (.ref 204)) (cxOf_ok hA hD) (by omega) (fun vs s X NL hr => ?_) ?_
    · obtain ⟨v, vr, rfl, ⟨b, vs, k, dx, rfl, hb, ho, hd, hdo, t1, t2, t3, rfl⟩, rfl⟩ := hr
      exact type_ax w s X NL b _ _ _ k dx ho
    refine EA.cons ?_
    refine EV.top (.type "tuple") (by kernel_rfl) (by kernel_rfl) ?_
    repeat leaf_len
    refine OF.ax (n := n + 121) (.bool true) (cxOf_ok hA hD) (by omega) (fun vs s X NL hr => ?_) ?_
    · obtain ⟨v, vr, rfl, rfl, v2, vr2, rfl, rfl, rfl⟩ := hr
      exact issub_ax w s X NL
    refine ⟨true, rfl, fun x e => (by cases e), fun h => (by cases h), fun _ => ?_⟩
    repeat leaf_len
    refine EV.methX (.builtin "tuple.__getitem__") false _ rfl rfl rfl ?_
    refine EV.top (.type "tuple") (by kernel_rfl) (by kernel_rfl) ?_
    refine ⟨fun v s Q x hv hq => ?_, ?_⟩
    · cases hv
      exact @method_typeX PG w A NoE s (KH w) "tuple" (Str.ofString "__getitem__") (.builtin "tuple.__getitem__") _ Q x.gd.k (by kernel_rfl) (by decide +kernel) (by kernel_rfl) (by decide +kernel) (hq _ (.toks _ _))
    repeat leaf_len
    refine EV.attr rfl ?_
    repeat leaf_len
    refine attrInt (j := i) (fun s Q X hQ => ?_) ?_
    · rcases hdesc with ⟨rfl, rfl⟩ | ⟨rfl, rfl⟩ | ⟨rfl, rfl⟩
      · exact index_get X (ox := Mine.hz.zo_191 w.params) (od := Mine.hz.zo_190 w.params) (by kernel_rfl) (by rfl) (by rfl) (by rfl) (by kernel_rfl) (by kernel_rfl) hQ
      · exact index_get X (ox := Mine.hz.zo_193 w.params) (od := Mine.hz.zo_192 w.params) (by kernel_rfl) (by rfl) (by rfl) (by rfl) (by kernel_rfl) (by kernel_rfl) hQ
      · exact index_get X (ox := Mine.hz.zo_195 w.params) (od := Mine.hz.zo_194 w.params) (by kernel_rfl) (by rfl) (by rfl) (by rfl) (by kernel_rfl) (by kernel_rfl) hQ
    repeat leaf_len
    refine ⟨fun vs s x hr => ?_⟩
    obtain ⟨v, vr, rfl, ⟨b, vs, k, dx, rfl, hb, ho, hd, hdo, t1, t2, t3, rfl⟩, v2, vr2, rfl, ⟨tk, rfl⟩, rfl⟩ := hr
    refine wpAny_call (codeAny_mono (sub_getitem (k := i) (y := [Value.str u t1, Value.str p t2, Value.str t t3][i]'hi) (R := fun r s' => r = .ok (.ret ([Value.str u t1, Value.str p t2, Value.str t t3][i]'hi)) ∧ s' = s) x.gd.k ho (by kernel_rfl) (by omega) (by omega) ?_ ?_ ⟨rfl, rfl⟩) ?_)
    · have : i = 0 ∨ i = 1 ∨ i = 2 := by omega
      rcases this with rfl | rfl | rfl <;> rfl
    · have : i = 0 ∨ i = 1 ∨ i = 2 := by omega
      rcases this with rfl | rfl | rfl <;> rfl
    · rintro r s' ⟨rfl, rfl⟩
      refine ⟨.str (lpart u p t i), G, ?_, x, .refl _ _, rfl, rfl⟩
      have : i = 0 ∨ i = 1 ∨ i = 2 := by omega
      rcases this with rfl | rfl | rfl <;> exact ⟨_, rfl⟩
def fieldOk (K : Frag) (name : Str) (desc : Addr) : Bool := match findObj K 204 (some { cls := .type "dict", data := .dict #[] }) name with
  | some (.bind (.ref g) (.ref a)) => g == 77 && a == desc
  | _ => false
theorem fieldOk_ok {K : Frag} {name : Str} {desc : Addr} (e : fieldOk K name desc = true) : findObj K 204 (some { cls := .type "dict", data := .dict #[] }) name = some (.bind (.ref 77) (.ref desc)) := by
  unfold fieldOk at e
  split at e
  · rename_i g a q
    simp only [Bool.and_eq_true, beq_iff_eq] at e
    rw [q, e.1, e.2]
  · cases e

theorem link_attr {c : Cx} {m mc : LM} {G : Heap → Prop} {K : AK} {n : Nat} {u p t : Str} {name : Str} (i : Nat) (hi : i < 3) (desc : Addr) (hdesc : desc = 193 ∧ i = 0 ∨ desc = 196 ∧ i = 1 ∨ desc = 199 ∧ i = 2)
    (hp : c.prog = PG) (hK : c.K = KH c.w) (ok : CxOk c (n + 123)) (hf : fieldOk (KH c.w) name desc = true) (k : K (.str (lpart u p t i)) G) :
    ∀ v s, At c m mc G s → VR c.V s.heap (.link u p t) v → wpAny c.M c.A (getAttr v name true) (fun v s' => ∃ a G', VR c.V s'.heap a v ∧ At c m mc G' s' ∧ Stp c.D s s' ∧ K a G') NoE s := fun v s x hv => by
  obtain ⟨b, vs, k', dx, rfl, hb, ho, hd, hdo, t1, t2, t3, rfl⟩ := hv
  have X : (KH c.w).In s.heap := hK ▸ x.gd.k
  have gd : Gd (KH c.w) (c.O ++ c.D) { s with toks := s.toks + 1 } := hK ▸ (x.pure (.toks s (s.toks + 1))).gd
  show wpAny (model c.prog c.w) c.A _ _ NoE s
  rw [hp]
  refine sub_attr (g := 77) (a := .ref desc) X ho (by kernel_rfl) (by kernel_rfl) hdo (fieldOk_ok hf) (by kernel_rfl) (wpAny_call ?_)
  have x1 := x.pure (.toks s (s.toks + 1))
  have hr : VRs (c.O ++ c.D) s.heap [.raw (.ref desc), .link u p t, .raw (.ref 204)] [.ref desc, .ref b, .ref 204] :=
    ⟨_, _, rfl, rfl, _, _, rfl, ⟨b, _, k', dx, rfl, hb, ho, hd, hdo, t1, t2, t3, rfl⟩, _, _, rfl, rfl, rfl⟩
  refine codeAny_mono (get_ct (n := n) (D := c.D) (G := G) (u := u) (p := p) (t := t) i hi desc hdesc c.A.in1 (ok.a.in1) c.O _ { s with toks := s.toks + 1 } gd ok.d x1.g hr) ?_
  rintro r s' ⟨v, a, G', rfl, rv, gb, st, rfl, rfl⟩
  have st' : Stp c.D s s' := (Stp.toks s (s.toks + 1)).trans st
  obtain ⟨tk, rfl⟩ := rv
  exact ⟨rfl, .str _, _, ⟨tk, rfl⟩, x.step st' gb, st', k⟩
end Mine
end

-- part W10
section
open PySem PySem.W PyProof.Rows PySem.SeqAt
set_option Elab.async false
set_option linter.unusedVariables false
set_option maxRecDepth 100000
set_option pp.maxSteps 1500
set_option pp.deepTerms false
namespace Mine
local macro_rules | `(tactic| got_up) => `(tactic| first
  | refine EV.localI 0 rfl (by rfl) rfl (by kernel_rfl) ?_ (by kernel_rfl)
  | refine EV.localI 1 rfl (by rfl) rfl (by kernel_rfl) ?_ (by kernel_rfl)
  | refine EV.localI 2 rfl (by rfl) rfl (by kernel_rfl) ?_ (by kernel_rfl)
  | refine EV.localI 3 rfl (by rfl) rfl (by kernel_rfl) ?_ (by kernel_rfl)
  | refine EV.localI 4 rfl (by rfl) rfl (by kernel_rfl) ?_ (by kernel_rfl)
  | refine EV.localI 5 rfl (by rfl) rfl (by kernel_rfl) ?_ (by kernel_rfl)
  | refine EV.localI 6 rfl (by rfl) rfl (by kernel_rfl) ?_ (by kernel_rfl))
local macro_rules | `(tactic| leaf_len) => `(tactic| first
  | refine EV.str ?_ | refine EV.int ?_ | refine EV.none ?_ | refine EV.bool ?_
  | refine EV.binop ?_ | refine EV.sub ?_ | refine EV.cmp ?_ | refine EV.ifexp ?_ | refine EV.tuple ?_ | refine EV.list ?_
  | refine EA.cons ?_ | refine EA.nil ?_
  | got_up
  | refine OS.tup (by decide) (by decide) rfl rfl ?_
  | refine OB.add_str ?_ ?_
  | refine OB.add ?_
  | refine OC.lt ?_ | refine OC.le ?_ | refine OC.gt ?_ | refine OC.ge ?_
  | refine XS.cons ?_ | refine X1.ret ?_ | refine X1.iff ?_ | refine XS.nil ?_
  | refine X1.assign (cxOf_env rfl rfl) (by kernel_rfl) rfl ?_
  | refine BT.cmp ?_)
section
variable {c : Cx} {m mc : LM} {G : Heap → Prop} {K : AK}
structure JP (c : Cx) (m mc : LM) (G : Heap → Prop) (out : Str) (es : List Expr) (K : AK) : Prop where
  run : TJ c m mc G (joinParts out (evalEach es c.env)) K
theorem JP.nil {out : Str} (hz : out.length ≤ sizeLine) (k : K (.str out) G) : JP c m mc G out [] K := ⟨fun s x =>
  joinParts_nil (E := NoE) ⟨.str out, G, ⟨_, rfl⟩, x.pure (.toks ..), .toks .., k⟩ hz⟩
theorem JP.cons {out : Str} {e : Expr} {es : List Expr} (h : EV c m mc G e fun a G1 => ∃ y, a = .str y ∧ (out ++ y).length ≤ sizeLine ∧ JP c m mc G1 (out ++ y) es K) : JP c m mc G out (e :: es) K := ⟨fun s x => by
  show wpAny _ _ (joinParts out (eval e c.env :: evalEach es c.env)) _ _ _
  refine joinParts_cons (wpAny_imp (h.run s x) ?_)
  rintro v s1 ⟨a, G1, ra, x1, y1, y, rfl, hz, h1⟩
  obtain ⟨t, rfl⟩ := ra
  refine ⟨hz, wpAny_imp (h1.run s1 x1) ?_⟩
  rintro u s2 ⟨b, G2, rb, x2, y2, h2⟩
  exact ⟨b, G2, rb, x2, y1.trans y2, h2⟩⟩
theorem EV.fstr {v1 v2 : Expr} {rest : List Expr} {pos : Pos} (h : JP c m mc G Str.empty (v1 :: v2 :: rest) K) : EV c m mc G (.JoinedStr (v1 :: v2 :: rest) pos) K := ⟨fun s x => JoinedStr_many (h.run s x)⟩
theorem EV.fval {value : Expr} {pos : Pos} (h : EV c m mc G value fun a G1 => ∃ y, a = .str y ∧ y.length ≤ sizeLine ∧ K (.str y) G1) : EV c m mc G (.FormattedValue value (-1) Option.none pos) K := ⟨fun s x =>
  FormattedValue_plain (wpAny_imp (h.run s x) fun v s1 ⟨a, G1, ra, x1, y1, y, e, hz, k⟩ => by
    subst e
    obtain ⟨t, rfl⟩ := ra
    exact formatField_str (fun t' tk => ⟨.str y, G1, ⟨t', rfl⟩, x1.pure (.toks _ _), y1.trans (.toks _ _), k⟩) hz)⟩
end
section
variable {c : Cx} {m mc : LM} {G : Heap → Prop} {KF : FK}
theorem X1.expr {e : Expr} {pos : Pos} (hi : interactive c.env = false) (hs : swapsWith e Option.none pos.line c.env = pure false) (h : EV c m mc G e fun _ G' => KF .next m mc G') : X1 c m mc G (.Expr e pos) KF := ⟨fun s x =>
  wpAny_Expr_any (wpAny_imp (h.run s x) fun v s1 ⟨a, G1, ra, x1, y1, h1⟩ => ⟨.next, m, mc, G1, rfl, x1, y1.own, h1⟩) hi hs⟩
end

theorem fields_none {w : World} {n : Nat} {D : List Addr} {G : Heap → Prop} :
    CT PG w (KH w) (n + 1) D (.ref 466) [.none] G (fun a G' => a = .none ∧ G' = G) := by
  refine CT.def (o := Mine.hz.zo_438 w.params) (names := [Str.ofString "link"]) (by kernel_rfl) (hd := by rfl) (hb := by rfl) (by kernel_rfl) (hbind := ?_) (by decide +kernel) (by decide +kernel) rfl rfl rfl rfl ?_
  · intro vs s V X hr
    obtain ⟨v, vr, rfl, r1, rfl⟩ := hr
    exact BindsTo.of_eq rfl
  · intro A L O hA hD
    repeat leaf_len
    refine OC.isNone rfl ⟨_, rfl, fun _ => ?_, fun h => (by cases h)⟩
    repeat leaf_len
    exact ⟨rfl, rfl⟩

theorem fields_link {w : World} {n : Nat} {D : List Addr} {G : Heap → Prop} {u p t : Str} :
    CT PG w (KH w) (n + 125) D (.ref 466) [.link u p t] G (fun a G' => a = .tup [.str u, .str p, .str t] ∧ G' = G) := by
  refine CT.def (o := Mine.hz.zo_438 w.params) (names := [Str.ofString "link"]) (by kernel_rfl) (hd := by rfl) (hb := by rfl) (by kernel_rfl) (hbind := ?_) (by decide +kernel) (by decide +kernel) rfl rfl rfl rfl ?_
  · intro vs s V X hr
    obtain ⟨v, vr, rfl, r1, rfl⟩ := hr
    exact BindsTo.of_eq rfl
  · intro A L O hA hD
    repeat leaf_len
    refine OC.isNone rfl ⟨_, rfl, fun h => (by cases h), fun _ => ?_⟩
    repeat leaf_len
    refine EV.attr rfl ?_
    repeat leaf_len
    refine link_attr (n := n + 1) 0 (by decide) 193 (.inl ⟨rfl, rfl⟩) rfl rfl (cxOf_ok hA hD) (by kernel_rfl) ?_
    repeat leaf_len
    refine EV.attr rfl ?_
    repeat leaf_len
    refine link_attr (n := n + 1) 1 (by decide) 196 (.inr (.inl ⟨rfl, rfl⟩)) rfl rfl (cxOf_ok hA hD) (by kernel_rfl) ?_
    repeat leaf_len
    refine EV.attr rfl ?_
    repeat leaf_len
    refine link_attr (n := n + 1) 2 (by decide) 199 (.inr (.inr ⟨rfl, rfl⟩)) rfl rfl (cxOf_ok hA hD) (by kernel_rfl) ?_
    repeat leaf_len
    exact ⟨(by show 3 ≤ sizeLine; decide), rfl, rfl⟩

def cOpen (u p t : Str) : Str := Str.empty ++ Str.ofString "\u001b]8;" ++ p ++ Str.ofString ";" ++ u ++ t
def cClose (t : Str) : Str := Str.empty ++ Str.ofString "\u001b]8;;" ++ t
theorem open_len {u p t : Str} (hz : u.length + p.length + t.length ≤ 1000) : (cOpen u p t).length ≤ 1005 := by
  have e0 : Str.empty.length = 0 := by decide
  have e1 : (Str.ofString "\u001b]8;").length = 4 := by decide
  have e2 : (Str.ofString ";").length = 1 := by decide
  simp only [cOpen, Str.length_append, e0, e1, e2]; omega

theorem mkopen_ct {w : World} {n : Nat} {D : List Addr} {G : Heap → Prop} {u p t : Str} (hz : u.length + p.length + t.length ≤ 1000) :
    CT PG w (KH w) (n + 125) D (.ref 133) [.link u p t] G (fun a G' => a = .str (cOpen u p t) ∧ G' = G) := by
  refine CT.def (o := Mine.hz.zo_131 w.params) (names := [Str.ofString "self"]) (by kernel_rfl) (hd := by rfl) (hb := by rfl) (by kernel_rfl) (hbind := ?_) (by decide +kernel) (by decide +kernel) rfl rfl rfl rfl ?_
  · intro vs s V X hr
    obtain ⟨v, vr, rfl, r1, rfl⟩ := hr
    exact BindsTo.of_eq rfl
  · intro A L O hA hD
    have e0 : Str.empty.length = 0 := by decide
    have e1 : (Str.ofString "\u001b]8;").length = 4 := by decide
    have e2 : (Str.ofString ";").length = 1 := by decide
    refine XS.cons (X1.expr rfl rfl (EV.str ?_))
    refine XS.cons (X1.ret (EV.fstr ?_))
    refine JP.cons (EV.str ⟨_, rfl, (by decide), ?_⟩)
    refine JP.cons (EV.fval (EV.attr rfl ?_))
    repeat leaf_len
    refine link_attr (n := n + 1) 1 (by decide) 196 (.inr (.inl ⟨rfl, rfl⟩)) rfl rfl (cxOf_ok hA hD) (by kernel_rfl) ?_
    refine ⟨_, rfl, (by show p.length ≤ _; unfold sizeLine; omega), _, rfl, ?_, ?_⟩
    · show (Str.empty ++ Str.ofString "\u001b]8;" ++ p).length ≤ _
      simp only [Str.length_append, e0, e1, sizeLine]; omega
    refine JP.cons (EV.str ⟨_, rfl, ?_, ?_⟩)
    · show (Str.empty ++ Str.ofString "\u001b]8;" ++ p ++ Str.ofString ";").length ≤ _
      simp only [Str.length_append, e0, e1, e2, sizeLine]; omega
    refine JP.cons (EV.fval (EV.attr rfl ?_))
    repeat leaf_len
    refine link_attr (n := n + 1) 0 (by decide) 193 (.inl ⟨rfl, rfl⟩) rfl rfl (cxOf_ok hA hD) (by kernel_rfl) ?_
    refine ⟨_, rfl, (by show u.length ≤ _; unfold sizeLine; omega), _, rfl, ?_, ?_⟩
    · show (Str.empty ++ Str.ofString "\u001b]8;" ++ p ++ Str.ofString ";" ++ u).length ≤ _
      simp only [Str.length_append, e0, e1, e2, sizeLine]; omega
    refine JP.cons (EV.fval (EV.attr rfl ?_))
    repeat leaf_len
    refine link_attr (n := n + 1) 2 (by decide) 199 (.inr (.inr ⟨rfl, rfl⟩)) rfl rfl (cxOf_ok hA hD) (by kernel_rfl) ?_
    refine ⟨_, rfl, (by show t.length ≤ _; unfold sizeLine; omega), _, rfl, ?_, ?_⟩
    · show (Str.empty ++ Str.ofString "\u001b]8;" ++ p ++ Str.ofString ";" ++ u ++ t).length ≤ _
      simp only [Str.length_append, e0, e1, e2, sizeLine]; omega
    refine JP.nil ?_ ⟨rfl, rfl⟩
    · show (Str.empty ++ Str.ofString "\u001b]8;" ++ p ++ Str.ofString ";" ++ u ++ t).length ≤ _
      simp only [Str.length_append, e0, e1, e2, sizeLine]; omega

theorem mkclose_ct {w : World} {n : Nat} {D : List Addr} {G : Heap → Prop} {u p t : Str} (hz : u.length + p.length + t.length ≤ 1000) :
    CT PG w (KH w) (n + 125) D (.ref 140) [.link u p t] G (fun a G' => a = .str (cClose t) ∧ G' = G) := by
  refine CT.def (o := Mine.hz.zo_138 w.params) (names := [Str.ofString "self"]) (by kernel_rfl) (hd := by rfl) (hb := by rfl) (by kernel_rfl) (hbind := ?_) (by decide +kernel) (by decide +kernel) rfl rfl rfl rfl ?_
  · intro vs s V X hr
    obtain ⟨v, vr, rfl, r1, rfl⟩ := hr
    exact BindsTo.of_eq rfl
  · intro A L O hA hD
    have e0 : Str.empty.length = 0 := by decide
    have e1 : (Str.ofString "\u001b]8;;").length = 5 := by decide
    refine XS.cons (X1.expr rfl rfl (EV.str ?_))
    refine XS.cons (X1.ret (EV.fstr ?_))
    refine JP.cons (EV.str ⟨_, rfl, (by decide), ?_⟩)
    refine JP.cons (EV.fval (EV.attr rfl ?_))
    repeat leaf_len
    refine link_attr (n := n + 1) 2 (by decide) 199 (.inr (.inr ⟨rfl, rfl⟩)) rfl rfl (cxOf_ok hA hD) (by kernel_rfl) ?_
    refine ⟨_, rfl, (by show t.length ≤ _; unfold sizeLine; omega), _, rfl, ?_, ?_⟩
    · show (Str.empty ++ Str.ofString "\u001b]8;;" ++ t).length ≤ _
      simp only [Str.length_append, e0, e1, sizeLine]; omega
    refine JP.nil ?_ ⟨rfl, rfl⟩
    · show (Str.empty ++ Str.ofString "\u001b]8;;" ++ t).length ≤ _
      simp only [Str.length_append, e0, e1, sizeLine]; omega
end Mine
end

-- part W11
section
open PySem PySem.W PyProof.Rows PySem.SeqAt
set_option Elab.async false
set_option linter.unusedVariables false
set_option maxRecDepth 100000
set_option pp.maxSteps 1500
set_option pp.deepTerms false
namespace Mine
local macro_rules | `(tactic| got_up) => `(tactic| first
  | refine EV.localI 0 rfl (by rfl) rfl (by kernel_rfl) ?_ (by kernel_rfl)
  | refine EV.localI 1 rfl (by rfl) rfl (by kernel_rfl) ?_ (by kernel_rfl)
  | refine EV.localI 2 rfl (by rfl) rfl (by kernel_rfl) ?_ (by kernel_rfl)
  | refine EV.localI 3 rfl (by rfl) rfl (by kernel_rfl) ?_ (by kernel_rfl)
  | refine EV.localI 4 rfl (by rfl) rfl (by kernel_rfl) ?_ (by kernel_rfl)
  | refine EV.localI 5 rfl (by rfl) rfl (by kernel_rfl) ?_ (by kernel_rfl)
  | refine EV.localI 6 rfl (by rfl) rfl (by kernel_rfl) ?_ (by kernel_rfl))
local macro_rules | `(tactic| leaf_len) => `(tactic| first
  | refine EV.str ?_ | refine EV.int ?_ | refine EV.none ?_ | refine EV.bool ?_
  | refine EV.binop ?_ | refine EV.sub ?_ | refine EV.cmp ?_ | refine EV.ifexp ?_ | refine EV.tuple ?_ | refine EV.list ?_
  | refine EA.cons ?_ | refine EA.nil ?_
  | got_up
  | refine OS.tup (by decide) (by decide) rfl rfl ?_
  | refine OB.add_str ?_ ?_
  | refine OB.add ?_
  | refine OC.lt ?_ | refine OC.le ?_ | refine OC.gt ?_ | refine OC.ge ?_
  | refine XS.cons ?_ | refine X1.ret ?_ | refine X1.iff ?_ | refine XS.nil ?_
  | refine X1.assign (cxOf_env rfl rfl) (by kernel_rfl) rfl ?_
  | refine BT.cmp ?_)
theorem Stp.of_mem {s : Shared} {h : Heap} {d : Drawn} {t : Nat} {news : List (Addr × Obj)} (D : W.X.Mem s.heap h [] news) : Stp [] s ⟨h, s.gens, d, t, s.os⟩ :=
  ⟨fun b o _ e => D.keep b o e (by simp [W.X.away]), fun b o e => ⟨o, D.keep b o e (by simp [W.X.away])⟩, .refl _, rfl⟩
abbrev linkObj (dx : Addr) (u p t : Str) (tu tp tt : Tok) : Obj := { cls := .ref 204, dict := some dx, data := .seq #[.str u tu, .str p tp, .str t tt] }
def LinkNew (u p t : Str) (s : Shared) (v : Value) (s' : Shared) : Prop := ∃ a dx tu tp tt, v = .ref a ∧ s'.heap.get? a = some (linkObj dx u p t tu tp tt) ∧ s.heap.get? a = none ∧ s'.heap.get? dx = some { cls := .type "dict", data := .dict #[] } ∧ s.heap.get? dx = none ∧ Stp [] s s'
theorem close_new {s : Shared} {h : Heap} {d : Drawn} {tk : Nat} {news : List (Addr × Obj)} {a dx : Addr} {u p t : Str} {tu tp tt : Tok} (D : W.X.Mem s.heap h [] news) (i : Nat) (hi : news[i]? = some (a, linkObj dx u p t tu tp tt)) (j : Nat) (hj : news[j]? = some (dx, { cls := .type "dict", data := .dict #[] })) :
    LinkNew u p t s (.ref a) ⟨h, s.gens, d, tk, s.os⟩ := ⟨a, dx, tu, tp, tt, rfl, (D.nw _ (List.mem_of_getElem? hi)).1, (D.nw _ (List.mem_of_getElem? hi)).2, (D.nw _ (List.mem_of_getElem? hj)).1, (D.nw _ (List.mem_of_getElem? hj)).2, .of_mem D⟩
local macro_rules | `(tactic| x_close) => `(tactic| exact close_new (by assumption) 0 rfl 1 rfl)
set_option maxHeartbeats 4000000 in
theorem new_ax (w : World) (s : Shared) (X : Frag.In (Mine.hz.heap_448 w.params) s.heap) (NL : s.heap.NoLimit) (u p t : Str) (tu tp tt : Nat) :
   wpAny (model PG w) { handled := none, depth := 900, frames := none, guards := none, units := 9000 } (call (.ref 204) [] [(Str.ofString "url", .str u tu), (Str.ofString "params", .str p tp), (Str.ofString "terminator", .str t tt)])
     (LinkNew u p t s) NoE s := by
  x_run
end Mine
end

-- part W12
section
open PySem PySem.W PyProof.Rows PySem.SeqAt
set_option Elab.async false
set_option linter.unusedVariables false
set_option maxRecDepth 100000
set_option pp.maxSteps 300
set_option pp.deepTerms false
namespace Mine
local macro_rules | `(tactic| got_up) => `(tactic| first
  | refine EV.localI 0 rfl (by rfl) rfl (by kernel_rfl) ?_ (by kernel_rfl)
  | refine EV.localI 1 rfl (by rfl) rfl (by kernel_rfl) ?_ (by kernel_rfl)
  | refine EV.localI 2 rfl (by rfl) rfl (by kernel_rfl) ?_ (by kernel_rfl)
  | refine EV.localI 3 rfl (by rfl) rfl (by kernel_rfl) ?_ (by kernel_rfl)
  | refine EV.localI 4 rfl (by rfl) rfl (by kernel_rfl) ?_ (by kernel_rfl)
  | refine EV.localI 5 rfl (by rfl) rfl (by kernel_rfl) ?_ (by kernel_rfl)
  | refine EV.localI 6 rfl (by rfl) rfl (by kernel_rfl) ?_ (by kernel_rfl))
local macro_rules | `(tactic| leaf_len) => `(tactic| first
  | refine EV.str ?_ | refine EV.int ?_ | refine EV.none ?_ | refine EV.bool ?_
  | refine EV.binop ?_ | refine EV.sub ?_ | refine EV.cmp ?_ | refine EV.ifexp ?_ | refine EV.tuple ?_ | refine EV.list ?_
  | refine EA.cons ?_ | refine EA.nil ?_
  | got_up
  | refine OS.tup (by decide) (by decide) rfl rfl ?_
  | refine OB.add_str ?_ ?_
  | refine OB.add ?_
  | refine OC.lt ?_ | refine OC.le ?_ | refine OC.gt ?_ | refine OC.ge ?_
  | refine XS.cons ?_ | refine X1.ret ?_ | refine X1.iff ?_ | refine XS.nil ?_
  | refine X1.assign (cxOf_env rfl rfl) (by kernel_rfl) rfl ?_
  | refine BT.cmp ?_)
inductive Pc where
  | ab | sp | opn (k : Lk) | cls (e : Str) | bad | sgr | title

def oTxt (k : Lk) : Str := ((Str.ofString "\u001b]8;" ++ k.p) ++ Str.ofString ";") ++ k.u ++ k.t
def Pc.text : Pc → Str
  | .ab => Str.ofString "ab" | .sp => Str.ofString " " | .opn k => oTxt k | .cls e => Str.ofString "\u001b]8;;" ++ e
  | .bad => Str.ofString "\u001b]8;id=9;\u0007" | .sgr => Str.ofString "\u001b[31m" | .title => Str.ofString "\u001b]0;t\u0007"
def Pc.cmd : Pc → Option Lk
  | .opn k => some k | .cls e => some ⟨Str.ofString "", Str.ofString "", e⟩ | .bad => some ⟨Str.ofString "", Str.ofString "id=9", Str.ofString "\u0007"⟩ | _ => none
def Pc.eff : Pc → AV
  | .opn k => k.av | .cls _ => .int 1 | _ => .int 0
def lkAV : Option Lk → AV
  | some k => k.av | none => .none
def Pc.av (x : Pc) : AV := .tup [.str x.text, lkAV x.cmd, x.eff]

def pieceP (p : DS) : Pc × DS :=
  let k := (dv p).fmod 8
  let p1 := dn p
  if k == 0 then (.ab, p1) else if k == 1 then (.sp, p1)
  else if decide (k < 4) then (.opn ⟨nth URLS ((dv (dn p1)).fmod 3), nth PARAMS ((dv p1).fmod 4), nth ENDS ((dv (dn (dn p1))).fmod 2)⟩, dn (dn (dn p1)))
  else if k == 4 then (.cls (nth ENDS ((dv p1).fmod 2)), dn p1)
  else if k == 5 then (.bad, p1) else if k == 6 then (.sgr, p1) else (.title, p1)

theorem nth_len {xs : List Str} {m : Nat} (h : xs.all (fun x => decide (x.length ≤ m)) = true) (i : Int) : (nth xs i).length ≤ m := by
  unfold nth
  cases q : xs[i.toNat]? with
  | none => exact Nat.zero_le _
  | some x => simpa using List.all_eq_true.mp h x (List.mem_of_getElem? q)

local macro_rules | `(tactic| got_up) => `(tactic| refine EV.callN 431 (by kernel_rfl) (by kernel_rfl) (by kernel_rfl) ?_)

theorem piece_ct {w : World} {n : Nat} {D F : List Addr} {R : Heap → Prop} {d l : Addr} (X : DOk D F R d l) {p : DS} (hp : DSok p) :
    CT PG w (KH w) (n + 3) D (.ref 452) [.raw (.ref d)] (GD d l p R) (fun a G' => a = (pieceP p).1.av ∧ G' = GD d l (pieceP p).2 R) := by
  refine CT.def (o := Mine.hz.zo_424 w.params) (names := [Str.ofString "draw"]) (by kernel_rfl) (hd := by rfl) (hb := by rfl) (by kernel_rfl) (hbind := ?_) (by decide +kernel) (by decide +kernel) rfl rfl rfl rfl ?_
  · intro vs s V _ hr
    obtain ⟨v, vr, rfl, r1, rfl⟩ := hr
    exact BindsTo.of_eq rfl
  · intro A L O hA hD
    have z3 : 3 ≤ sizeLine := by decide
    refine XS.cons (X1.expr rfl rfl (EV.str ?_))
    refine XS.cons (X1.assign (cxOf_env rfl rfl) (by kernel_rfl) rfl ?_)
    refine EV.callN 431 (by kernel_rfl) (by kernel_rfl) (by kernel_rfl) ?_
    repeat leaf_len
    refine OF.ct (cxOf_ok hA hD) ((take_c X hp (by decide)).mono (Nat.le_refl _) ?_)
    rintro a G' ⟨rfl, rfl⟩
    have hp1 := dn_ok hp
    generalize hk : (dv p).fmod 8 = k
    refine XS.cons (X1.iff (BT.cmp ?_))
    repeat leaf_len
    refine OC.eq (cxOf_ok hA hD) rfl rfl ⟨_, rfl, fun h0 => ?_, fun h0 => ?_⟩
    · repeat leaf_len
      refine ⟨z3, ?_, ?_⟩ <;> simp only [pieceP, hk, show (k == 0) = true from h0, if_true] <;> rfl
    refine XS.nil ?_
    refine XS.cons (X1.iff (BT.cmp ?_))
    repeat leaf_len
    refine OC.eq (cxOf_ok hA hD) rfl rfl ⟨_, rfl, fun h1 => ?_, fun h1 => ?_⟩
    · repeat leaf_len
      refine ⟨z3, ?_, ?_⟩ <;> simp only [pieceP, hk, show (k == 0) = false from h0, show (k == 1) = true from h1, Bool.false_eq_true, if_false, if_true] <;> rfl
    refine XS.nil ?_
    refine XS.cons (X1.iff (BT.cmp ?_))
    repeat leaf_len
    refine ⟨_, rfl, fun h2 => ?_, fun h2 => ?_⟩
    · refine XS.cons (X1.assign (cxOf_env rfl rfl) (by kernel_rfl) rfl ?_)
      refine EV.callN 431 (by kernel_rfl) (by kernel_rfl) (by kernel_rfl) ?_
      repeat leaf_len
      refine OF.ct (cxOf_ok hA hD) ((take_c X hp1 (by decide)).mono (Nat.le_refl _) ?_)
      rintro a G' ⟨rfl, rfl⟩
      refine XS.cons (X1.assign (cxOf_env rfl rfl) (by kernel_rfl) rfl ?_)
      refine EV.tuple ?_
      refine EA.cons (EV.sub ?_)
      refine EV.strTup 417 URLS (by kernel_rfl) (by kernel_rfl) (by kernel_rfl) ?_
      refine EV.callN 431 (by kernel_rfl) (by kernel_rfl) (by kernel_rfl) ?_
      repeat leaf_len
      refine OF.ct (cxOf_ok hA hD) ((take_c X (dn_ok hp1) (by decide)).mono (Nat.le_refl _) ?_)
      rintro a G' ⟨rfl, rfl⟩
      refine OS.strI (modb (by decide)).1 (modb (by decide)).2 (by decide) ?_
      refine EA.cons (EV.sub ?_)
      refine EV.strTup 416 PARAMS (by kernel_rfl) (by kernel_rfl) (by kernel_rfl) ?_
      repeat leaf_len
      refine OS.strI (modb (by decide)).1 (modb (by decide)).2 (by decide) ?_
      refine EA.cons (EV.sub ?_)
      refine EV.strTup 418 ENDS (by kernel_rfl) (by kernel_rfl) (by kernel_rfl) ?_
      refine EV.callN 431 (by kernel_rfl) (by kernel_rfl) (by kernel_rfl) ?_
      repeat leaf_len
      refine OF.ct (cxOf_ok hA hD) ((take_c X (dn_ok (dn_ok hp1)) (by decide)).mono (Nat.le_refl _) ?_)
      rintro a G' ⟨rfl, rfl⟩
      refine OS.strI (modb (by decide)).1 (modb (by decide)).2 (by decide) ?_
      refine EA.nil ⟨z3, ?_⟩
      refine XS.cons (X1.ret (EV.tuple (EA.cons ?_)))
      refine EV.callN 445 (by kernel_rfl) (by kernel_rfl) (by kernel_rfl) ?_
      repeat leaf_len
      refine OF.ct (cxOf_ok hA hD) ((opening_ct w (n + 1) D _ _ _ _ ?_).mono (Nat.le_refl _) ?_)
      · have := nth_len (xs := URLS) (m := 100) (by decide +kernel) ((dv (dn (dn p))).fmod 3)
        have := nth_len (xs := PARAMS) (m := 100) (by decide +kernel) ((dv (dn p)).fmod 4)
        have := nth_len (xs := ENDS) (m := 100) (by decide +kernel) ((dv (dn (dn (dn p)))).fmod 2)
        omega
      rintro a G' ⟨rfl, rfl⟩
      repeat leaf_len
      refine ⟨z3, ?_, ?_⟩ <;> simp only [pieceP, hk, show (k == 0) = false from h0, show (k == 1) = false from h1, h2, Bool.false_eq_true, if_false, if_true] <;> rfl
    refine XS.nil ?_
    refine XS.cons (X1.iff (BT.cmp ?_))
    repeat leaf_len
    refine OC.eq (cxOf_ok hA hD) rfl rfl ⟨_, rfl, fun h3 => ?_, fun h3 => ?_⟩
    · refine XS.cons (X1.assign (cxOf_env rfl rfl) (by kernel_rfl) rfl ?_)
      refine EV.sub ?_
      refine EV.strTup 418 ENDS (by kernel_rfl) (by kernel_rfl) (by kernel_rfl) ?_
      refine EV.callN 431 (by kernel_rfl) (by kernel_rfl) (by kernel_rfl) ?_
      repeat leaf_len
      refine OF.ct (cxOf_ok hA hD) ((take_c X hp1 (by decide)).mono (Nat.le_refl _) ?_)
      rintro a G' ⟨rfl, rfl⟩
      refine OS.strI (modb (by decide)).1 (modb (by decide)).2 (by decide) ?_
      refine XS.cons (X1.ret (EV.tuple (EA.cons ?_)))
      refine EV.binop (EV.str ?_)
      repeat leaf_len
      · have e1 : (Str.ofString "\u001b]8;;").length = 5 := by decide
        have := nth_len (xs := ENDS) (m := 100) (by decide +kernel) ((dv (dn p)).fmod 2)
        show (Str.ofString "\u001b]8;;" ++ nth ENDS _).length ≤ _
        simp only [Str.length_append, e1, sizeLine]; omega
      repeat leaf_len
      refine ⟨z3, ?_⟩
      repeat leaf_len
      refine ⟨z3, ?_, ?_⟩ <;> simp only [pieceP, hk, show (k == 0) = false from h0, show (k == 1) = false from h1, h2, show (k == 4) = true from h3, Bool.false_eq_true, if_false, if_true] <;> rfl
    refine XS.nil ?_
    refine XS.cons (X1.iff (BT.cmp ?_))
    repeat leaf_len
    refine OC.eq (cxOf_ok hA hD) rfl rfl ⟨_, rfl, fun h4 => ?_, fun h4 => ?_⟩
    · repeat leaf_len
      refine ⟨z3, ?_⟩
      repeat leaf_len
      refine ⟨z3, ?_, ?_⟩ <;> simp only [pieceP, hk, show (k == 0) = false from h0, show (k == 1) = false from h1, h2, show (k == 4) = false from h3, show (k == 5) = true from h4, Bool.false_eq_true, if_false, if_true] <;> rfl
    refine XS.nil ?_
    refine XS.cons (X1.iff (BT.cmp ?_))
    repeat leaf_len
    refine OC.eq (cxOf_ok hA hD) rfl rfl ⟨_, rfl, fun h5 => ?_, fun h5 => ?_⟩
    · repeat leaf_len
      refine ⟨z3, ?_, ?_⟩ <;> simp only [pieceP, hk, show (k == 0) = false from h0, show (k == 1) = false from h1, h2, show (k == 4) = false from h3, show (k == 5) = false from h4, show (k == 6) = true from h5, Bool.false_eq_true, if_false, if_true] <;> rfl
    refine XS.nil ?_
    repeat leaf_len
    refine ⟨z3, ?_, ?_⟩ <;> simp only [pieceP, hk, show (k == 0) = false from h0, show (k == 1) = false from h1, h2, show (k == 4) = false from h3, show (k == 5) = false from h4, show (k == 6) = false from h5, Bool.false_eq_true, if_false, if_true] <;> rfl
end Mine
end

-- part W19
section
open PySem PySem.W PyProof.Rows PySem.SeqAt
set_option Elab.async false
set_option linter.unusedVariables false
set_option maxRecDepth 100000
set_option pp.maxSteps 300
set_option pp.deepTerms false
namespace Mine
local macro_rules | `(tactic| got_up) => `(tactic| first
  | refine EV.localI 0 rfl (by rfl) rfl (by kernel_rfl) ?_ (by kernel_rfl)
  | refine EV.localI 1 rfl (by rfl) rfl (by kernel_rfl) ?_ (by kernel_rfl)
  | refine EV.localI 2 rfl (by rfl) rfl (by kernel_rfl) ?_ (by kernel_rfl)
  | refine EV.localI 3 rfl (by rfl) rfl (by kernel_rfl) ?_ (by kernel_rfl)
  | refine EV.localI 4 rfl (by rfl) rfl (by kernel_rfl) ?_ (by kernel_rfl)
  | refine EV.localI 5 rfl (by rfl) rfl (by kernel_rfl) ?_ (by kernel_rfl)
  | refine EV.localI 6 rfl (by rfl) rfl (by kernel_rfl) ?_ (by kernel_rfl))
local macro_rules | `(tactic| leaf_len) => `(tactic| first
  | refine EV.str ?_ | refine EV.int ?_ | refine EV.none ?_ | refine EV.bool ?_
  | refine EV.binop ?_ | refine EV.sub ?_ | refine EV.cmp ?_ | refine EV.ifexp ?_ | refine EV.tuple ?_ | refine EV.list ?_
  | refine EA.cons ?_ | refine EA.nil ?_
  | got_up
  | refine OS.tup (by decide) (by decide) rfl rfl ?_
  | refine OB.add_str ?_ ?_
  | refine OB.add ?_
  | refine OC.lt ?_ | refine OC.le ?_ | refine OC.gt ?_ | refine OC.ge ?_
  | refine XS.cons ?_ | refine X1.ret ?_ | refine X1.iff ?_ | refine XS.nil ?_
  | refine X1.assign (cxOf_env rfl rfl) (by kernel_rfl) rfl ?_
  | refine BT.cmp ?_)
def stepS (st : AV) (x : Pc) : AV := match x with
  | .cls _ => .none
  | .opn k => k.av
  | _ => st
def afterP (st : AV) (ps : List Pc) : AV := ps.foldl stepS st

theorem Pc.eff_ok (x : Pc) : x.eff.ok = true := by cases x <;> rfl

theorem stepS_eq (st : AV) (x : Pc) : stepS st x = if eqT x.eff (.int 1) then .none else if !(eqT x.eff (.int 0)) then x.eff else st := by cases x <;> rfl

theorem lk_skip {x y : Str} {a : AV} {m : LM} (h : (x == y) = false) : List.lookup x ((y, a) :: m) = List.lookup x m := by rw [List.lookup_cons, h]
theorem lk_here {x y : Str} {a : AV} {m : LM} (h : (x == y) = true) : List.lookup x ((y, a) :: m) = some a := by rw [List.lookup_cons, h]

theorem after_ct {w : World} {n : Nat} {D : List Addr} {G : Heap → Prop} {st : AV} {ps : List Pc} (hlen : ps.length < 2 ^ 50) :
    CT PG w (KH w) (n + 2) D (.ref 459) [st, .lst (ps.map Pc.av)] G (fun a G' => a = afterP st ps ∧ G' = G) := by
  refine CT.def (o := Mine.hz.zo_431 w.params) (names := [Str.ofString "state", Str.ofString "pieces"]) (by kernel_rfl) (hd := by rfl) (hb := by rfl) (by kernel_rfl) (hbind := ?_) (by decide +kernel) (by decide +kernel) rfl rfl rfl rfl ?_
  · intro vs s V X hr
    obtain ⟨v, vr, rfl, r1, v2, vr2, rfl, r2, rfl⟩ := hr
    exact BindsTo.of_eq rfl
  · intro A L O hA hD
    refine XS.cons (X1.forS (cxOf_env rfl rfl) hA.handled (by kernel_rfl) (by intro p hp; cases hp) (by intro _; rfl) (by intro _ _; rfl)
      (fun i m mc G' => G' = G ∧ List.lookup (Str.ofString "state") m = some (afterP st (ps.take i))) ?_)
    repeat leaf_len
    refine ⟨_, rfl, by simpa using (by omega : ps.length < 2 ^ 60), ⟨rfl, by rfl⟩, fun i a m' mc' G' hia hinv I hI => ?_, fun m' mc' G' hinv => ?_⟩
    · obtain ⟨rfl, hst⟩ := hinv
      obtain ⟨x, hx, rfl⟩ : ∃ x, ps[i]? = some x ∧ x.av = a := by simpa [List.getElem?_map] using hia
      have hstep : afterP st (ps.take (i + 1)) = stepS (afterP st (ps.take i)) x := by
        unfold afterP
        rw [List.take_add_one, hx]
        simp [List.foldl_append]
      have ok := (cxOf_ok (prog := PG) (w := w) (K := KH w) (fd := _) hA hD).plus (I := I) (fun h => hI (List.mem_append_right _ h))
      refine XS.cons (X1.iff (BT.cmp ?_))
      refine EV.sub (EV.localI 0 rfl (by rfl) rfl (by kernel_rfl) ?_ (by kernel_rfl))
      repeat leaf_len
      refine OC.eq ok x.eff_ok rfl ⟨_, rfl, fun h1 => ?_, fun h1 => ?_⟩
      · refine XS.cons (X1.assign (EnvOk.plus (cxOf_env rfl rfl)) (by kernel_rfl) rfl (EV.none ?_))
        repeat leaf_len
        refine ⟨rfl, ?_⟩
        rw [hstep, stepS_eq, h1]
        exact lk_here (by rfl)
      · refine XS.cons (X1.iff (BT.cmp ?_))
        refine EV.sub (EV.localI 0 rfl (by rfl) rfl (by kernel_rfl) ?_ (by kernel_rfl))
        repeat leaf_len
        refine OC.ne ok x.eff_ok rfl ⟨_, rfl, fun h2 => ?_, fun h2 => ?_⟩
        · refine XS.cons (X1.assign (EnvOk.plus (cxOf_env rfl rfl)) (by kernel_rfl) rfl ?_)
          refine EV.sub (EV.localI 0 rfl (by rfl) rfl (by kernel_rfl) ?_ (by kernel_rfl))
          repeat leaf_len
          repeat leaf_len
          refine ⟨rfl, ?_⟩
          rw [hstep, stepS_eq, h1, h2]
          exact lk_here (by rfl)
        · repeat leaf_len
          refine ⟨rfl, ?_⟩
          rw [hstep, stepS_eq, h1, h2]
          exact (lk_skip (by rfl)).trans hst
    · obtain ⟨rfl, hst⟩ := hinv
      refine XS.cons (X1.ret (EV.local rfl (by kernel_rfl) (a := afterP st ps) ?_ ⟨rfl, rfl⟩ (by kernel_rfl)))
      rw [List.length_map, List.take_length] at hst
      exact hst
end Mine
end

-- part W28
section
open PySem PySem.W PyProof.Rows PySem.SeqAt
set_option Elab.async false
set_option linter.unusedVariables false
set_option maxRecDepth 100000
set_option pp.maxSteps 300
set_option pp.deepTerms false
namespace Mine
local macro_rules | `(tactic| got_up) => `(tactic| first
  | refine EV.localI 0 rfl (by rfl) rfl (by kernel_rfl) ?_ (by kernel_rfl)
  | refine EV.localI 1 rfl (by rfl) rfl (by kernel_rfl) ?_ (by kernel_rfl)
  | refine EV.localI 2 rfl (by rfl) rfl (by kernel_rfl) ?_ (by kernel_rfl)
  | refine EV.localI 3 rfl (by rfl) rfl (by kernel_rfl) ?_ (by kernel_rfl)
  | refine EV.localI 4 rfl (by rfl) rfl (by kernel_rfl) ?_ (by kernel_rfl)
  | refine EV.localI 5 rfl (by rfl) rfl (by kernel_rfl) ?_ (by kernel_rfl)
  | refine EV.localI 6 rfl (by rfl) rfl (by kernel_rfl) ?_ (by kernel_rfl))
local macro_rules | `(tactic| leaf_len) => `(tactic| first
  | refine EV.str ?_ | refine EV.int ?_ | refine EV.none ?_ | refine EV.bool ?_
  | refine EV.binop ?_ | refine EV.sub ?_ | refine EV.cmp ?_ | refine EV.ifexp ?_ | refine EV.tuple ?_ | refine EV.list ?_
  | refine EA.cons ?_ | refine EA.nil ?_
  | got_up
  | refine OS.tup (by decide) (by decide) rfl rfl ?_
  | refine OB.add_str ?_ ?_
  | refine OB.add ?_
  | refine OC.lt ?_ | refine OC.le ?_ | refine OC.gt ?_ | refine OC.ge ?_
  | refine XS.cons ?_ | refine X1.ret ?_ | refine X1.iff ?_ | refine XS.nil ?_
  | refine X1.assign (cxOf_env rfl rfl) (by kernel_rfl) rfl ?_
  | refine BT.cmp ?_)
section
variable {c : Cx} {m mc : LM} {G : Heap → Prop} {K : AK}
theorem EV.neg {e : Expr} {pos : Pos} (h : EV c m mc G e fun a G1 => ∃ i, a = .int i ∧ K (.int (-i)) G1) : EV c m mc G (.UnaryOp .USub e pos) K := ⟨fun s x =>
  wpAny_UnaryOp (wpAny_imp (h.run s x) fun v s1 ⟨a, G1, ra, x1, y1, i, e, k⟩ => by
    subst e
    obtain ⟨t, rfl⟩ := ra
    exact PySem.P.neg_int ⟨.int (-i), G1, ⟨_, rfl⟩, x1.pure (.toks _ _), y1.trans (.toks _ _), k⟩)⟩
end

theorem pat_cl (w : World) : patOk (KH w) 108 clCode 1 = true := by kernel_rfl
theorem pat_op (w : World) : patOk (KH w) 103 opCode 3 = true := by kernel_rfl
theorem pat_zw (w : World) : patOk (KH w) 43 zwCode 0 = true := by kernel_rfl
def patT (K : Frag) (a : Addr) : Bool := match K.lookup a with
  | some ⟨.type T, _, _, _⟩ => T == "re.Pattern"
  | _ => false
theorem patT_ok {K : Frag} {a : Addr} (e : patT K a = true) : ∀ s : Shared, K.In s.heap → s.TypeIs (.ref a) "re.Pattern" := fun s X => by
  unfold patT at e
  split at e
  · rename_i T d dt sl ho
    exact ⟨_, X _ _ ho, by rw [← beq_iff_eq.mp e]⟩
  · cases e
theorem pat_plain {K : Frag} {a : Addr} {code g} (e : patOk K a code g = true) : ∀ s : Shared, K.In s.heap → ∃ ob, s.heap.get? a = some ob ∧ ob.dict = none := fun s X => by
  unfold patOk at e
  split at e
  · rename_i T fs sl ho
    exact ⟨_, X _ _ ho, rfl⟩
  · cases e

def closeAV (x : Str) (i : Nat) : AV := match Re.firstClose x.cps x.cps.size (x.cps.size + 1 - i) i with
  | some (p, n) => .tup [.int (p : Int), .int ((p + n : Nat) : Int)]
  | none => .tup [.int (-1), .int (-1)]

theorem findclose_ct {w : World} {n : Nat} {D : List Addr} {G : Heap → Prop} {x : Str} {i : Int} {cv : AV} (h0 : 0 ≤ i) (hi : i ≤ x.cps.size) (hs : x.cps.size ≤ 4000000) :
    CT PG w (KH w) (n + 3) D (.ref 222) [cv, .str x, .int i] G (fun a G' => a = closeAV x i.toNat ∧ G' = G) := by
  refine CT.def (o := Mine.hz.zo_208 w.params) (names := [Str.ofString "cls", Str.ofString "text", Str.ofString "open_end"]) (by kernel_rfl) (hd := by rfl) (hb := by rfl) (by kernel_rfl) (hbind := ?_) (by decide +kernel) (by decide +kernel) rfl rfl rfl rfl ?_
  · intro vs s V X hr
    obtain ⟨v, vr, rfl, r1, v2, vr2, rfl, r2, v3, vr3, rfl, r3, rfl⟩ := hr
    exact BindsTo.of_eq rfl
  · intro A L O hA hD
    have z2 : 2 ≤ sizeLine := by decide
    refine XS.cons (X1.expr rfl rfl (EV.str ?_))
    refine XS.cons (X1.assign (cxOf_env rfl rfl) (by kernel_rfl) rfl ?_)
    refine EV.meth "re.Pattern" "re.Pattern.search" rfl rfl rfl plainAttrs_pat slot_search type_search ?_
    refine EV.top (.ref 108) (by kernel_rfl) (by kernel_rfl) ?_
    refine ⟨fun v s x hv => ?_, CW.of rfl ?_⟩
    · cases hv
      exact ⟨patT_ok (by kernel_rfl : patT (KH w) 108 = true) s x.gd.k, fun p e => by cases e; exact pat_plain (pat_cl w) s x.gd.k⟩
    repeat leaf_len
    refine OF.search (cxOf_ok hA hD) (pat_cl w) (patT_ok (by kernel_rfl)) h0 hi hs ?_
    unfold closeAV
    cases hfc : Re.firstClose x.cps x.cps.size (x.cps.size + 1 - i.toNat) i.toNat with
    | none =>
      refine XS.cons (X1.iff (BT.cmp ?_))
      repeat leaf_len
      refine OC.isNone rfl ⟨_, rfl, fun _ => ?_, fun h => (by cases h)⟩
      refine XS.cons (X1.ret (EV.tuple ?_))
      refine EA.cons (EV.neg (EV.int ⟨_, rfl, ?_⟩))
      refine EA.cons (EV.neg (EV.int ⟨_, rfl, ?_⟩))
      refine EA.nil ⟨z2, rfl, rfl⟩
    | some pn =>
      obtain ⟨p, k⟩ := pn
      refine XS.cons (X1.iff (BT.cmp ?_))
      repeat leaf_len
      refine OC.isNone rfl ⟨_, rfl, fun h => (by cases h), fun _ => ?_⟩
      refine XS.nil ?_
      refine XS.cons (X1.ret (EV.tuple ?_))
      refine EA.cons ?_
      refine EV.meth "re.Match" "re.Match.start" rfl rfl rfl plainAttrs_mt slot_start type_start ?_
      repeat leaf_len
      refine ⟨fun v s x hv => ⟨mt_type hv, mt_plain hv⟩, CW.of rfl (EA.nil (OF.start ?_))⟩
      refine EA.cons ?_
      refine EV.meth "re.Match" "re.Match.end" rfl rfl rfl plainAttrs_mt slot_end type_end ?_
      repeat leaf_len
      refine ⟨fun v s x hv => ⟨mt_type hv, mt_plain hv⟩, CW.of rfl (EA.nil (OF.end ?_))⟩
      refine EA.nil ⟨z2, rfl, rfl⟩
end Mine
end

-- part W30
section
open PySem PySem.W PyProof.Rows PySem.SeqAt
set_option Elab.async false
set_option linter.unusedVariables false
set_option maxRecDepth 100000
set_option pp.maxSteps 300
set_option pp.deepTerms false
namespace Mine
local macro_rules | `(tactic| got_up) => `(tactic| first
  | refine EV.localI 0 rfl (by rfl) rfl (by kernel_rfl) ?_ (by kernel_rfl)
  | refine EV.localI 1 rfl (by rfl) rfl (by kernel_rfl) ?_ (by kernel_rfl)
  | refine EV.localI 2 rfl (by rfl) rfl (by kernel_rfl) ?_ (by kernel_rfl)
  | refine EV.localI 3 rfl (by rfl) rfl (by kernel_rfl) ?_ (by kernel_rfl)
  | refine EV.localI 4 rfl (by rfl) rfl (by kernel_rfl) ?_ (by kernel_rfl)
  | refine EV.localI 5 rfl (by rfl) rfl (by kernel_rfl) ?_ (by kernel_rfl)
  | refine EV.localI 6 rfl (by rfl) rfl (by kernel_rfl) ?_ (by kernel_rfl))
local macro_rules | `(tactic| leaf_len) => `(tactic| first
  | refine EV.str ?_ | refine EV.int ?_ | refine EV.none ?_ | refine EV.bool ?_
  | refine EV.binop ?_ | refine EV.sub ?_ | refine EV.cmp ?_ | refine EV.ifexp ?_ | refine EV.tuple ?_ | refine EV.list ?_
  | refine EA.cons ?_ | refine EA.nil ?_
  | got_up
  | refine OS.tup (by decide) (by decide) rfl rfl ?_
  | refine OB.add_str ?_ ?_
  | refine OB.add ?_
  | refine OC.lt ?_ | refine OC.le ?_ | refine OC.gt ?_ | refine OC.ge ?_
  | refine XS.cons ?_ | refine X1.ret ?_ | refine X1.iff ?_ | refine XS.nil ?_
  | refine X1.assign (cxOf_env rfl rfl) (by kernel_rfl) rfl ?_
  | refine BT.cmp ?_)
theorem OF.full {c : Cx} {m mc : LM} {G : Heap → Prop} {K : AK} {n : Nat} {pat : Addr} {x : Str} (ok : CxOk c n) (hp : patOk c.K pat opCode 3 = true) (hT : ∀ s : Shared, c.K.In s.heap → s.TypeIs (.ref pat) "re.Pattern") (hs : x.cps.size ≤ 4000000)
    {k : Nat} {mf : Sre.M} (hr : Sre.M.runFor k (Sre.forMatch opCode x.cps 3 0 x.cps.size true false) = mf) (hk : k < 2 ^ 60)
    (h : (mf.outcome = some .matched ∧ wrongSpan 3 mf = false ∧ K (.mt x ((mf.start : Int) :: (mf.handed : Int) :: spansOf 3 mf)) G) ∨ (mf.outcome = some .failed ∧ K .none G)) :
    OF c m mc G (.builtin "re.Pattern.fullmatch") [.raw (.ref pat), .str x] K := ⟨fun vs s at0 r => by
  obtain ⟨v, vr, rfl, rfl, v2, vr2, rfl, ⟨tx, rfl⟩, rfl⟩ := r
  have e2 : min (2 ^ 63 - 1) x.cps.size = x.cps.size := by omega
  refine call_full (K := c.K) at0.gd.k hp (hT s at0.gd.k) (by decide) ?_
  rw [e2]
  refine run_ok hr hk ?_
  rcases h with ⟨h1, h2, h3⟩ | ⟨h1, h2⟩
  · refine .inl ⟨h1, h2, fun v s'' hn => ?_⟩
    obtain ⟨rv, st⟩ := mtNew_VR (c := c) hn at0.gd.lt
    exact ⟨_, G, rv, at0.pure st, st.mono (by simp), h3⟩
  · exact .inr ⟨h1, .none, G, rfl, at0, .refl _ _, h2⟩⟩

/-- a new link seen as a value -/
theorem linkNew_VR {c : Cx} {u p t : Str} {s s' : Shared} {v : Value} (h : LinkNew u p t s v s') (hlt : ∀ v ∈ c.V, ∃ o, s.heap.get? v = some o) : VR c.V s'.heap (.link u p t) v ∧ Stp [] s s' := by
  obtain ⟨a, dx, tu, tp, tt, rfl, e1, n1, e2, n2, st⟩ := h
  have nn : ∀ b, s.heap.get? b = none → b ∉ c.V := fun b e hb => by obtain ⟨o, e'⟩ := hlt b hb; rw [e] at e'; cases e'
  exact ⟨⟨a, _, 0, dx, rfl, nn a n1, e1, nn dx n2, e2, tu, tp, tt, rfl⟩, st⟩

/-- what the full match of the opening tells: groups 1, 2, 3 -/
structure FullYes (x : Str) (u p t : Str) (k : Nat) (mf : Sre.M) : Prop where
  run : Sre.M.runFor k (Sre.forMatch opCode x.cps 3 0 x.cps.size true false) = mf
  k : k < 2 ^ 60
  out : mf.outcome = some .matched
  sp : wrongSpan 3 mf = false
  g : ∃ b1 e1 b2 e2 b3 e3 : Nat, spansOf 3 mf = [(b1 : Int), (e1 : Int), (b2 : Int), (e2 : Int), (b3 : Int), (e3 : Int)] ∧ p = ⟨x.cps.extract b1 e1⟩ ∧ u = ⟨x.cps.extract b2 e2⟩ ∧ t = ⟨x.cps.extract b3 e3⟩

theorem parse_yes {w : World} {n : Nat} {D : List Addr} {G : Heap → Prop} {x u p t : Str} {k : Nat} {mf : Sre.M} (hs : x.cps.size ≤ 4000000) (F : FullYes x u p t k mf) :
    CT PG w (KH w) (n + 125) D (.ref 123) [.raw (.ref 204), .str x] G (fun a G' => a = .link u p t ∧ G' = G) := by
  obtain ⟨b1, e1, b2, e2, b3, e3, hg, rfl, rfl, rfl⟩ := F.g
  have zz : ∀ b e : Nat, (x.cps.extract b e).size ≤ sizeLine := fun b e => by
    rw [Array.size_extract]; unfold sizeLine; omega
  refine CT.def (o := Mine.hz.zo_121 w.params) (names := [Str.ofString "cls", Str.ofString "seq"]) (by kernel_rfl) (hd := by rfl) (hb := by rfl) (by kernel_rfl) (hbind := ?_) (by decide +kernel) (by decide +kernel) rfl rfl rfl rfl ?_
  · intro vs s V X hr
    obtain ⟨v, vr, rfl, r1, v2, vr2, rfl, r2, rfl⟩ := hr
    exact BindsTo.of_eq rfl
  · intro A L O hA hD
    refine XS.cons (X1.expr rfl rfl (EV.str ?_))
    refine XS.cons (X1.assign (cxOf_env rfl rfl) (by kernel_rfl) rfl ?_)
    refine EV.meth "re.Pattern" "re.Pattern.fullmatch" rfl rfl rfl plainAttrs_pat slot_full type_full ?_
    refine EV.top (.ref 103) (by kernel_rfl) (by kernel_rfl) ?_
    refine ⟨fun v s x hv => ?_, CW.of rfl ?_⟩
    · cases hv
      exact ⟨patT_ok (by kernel_rfl : patT (KH w) 103 = true) s x.gd.k, fun p e => by cases e; exact pat_plain (pat_op w) s x.gd.k⟩
    repeat leaf_len
    refine OF.full (cxOf_ok hA hD) (pat_op w) (patT_ok (by kernel_rfl)) hs F.run F.k (.inl ⟨F.out, F.sp, ?_⟩)
    rw [hg]
    refine XS.cons (X1.iff (BT.cmp ?_))
    repeat leaf_len
    refine OC.isNone rfl ⟨_, rfl, fun h => (by cases h), fun _ => ?_⟩
    refine XS.nil ?_
    refine XS.cons (X1.ret ?_)
    refine EV.callK 204 (by kernel_rfl) (by rfl) (by rfl) ?_
    repeat leaf_len
    refine ⟨rfl, ?_⟩
    refine EK.cons ?_
    refine EV.meth "re.Match" "re.Match.group" rfl rfl rfl plainAttrs_mt slot_group type_group ?_
    repeat leaf_len
    refine ⟨fun v s x hv => ⟨mt_type hv, mt_plain hv⟩, CW.of rfl ?_⟩
    repeat leaf_len
    refine OF.groupN (g := 2) (b := (b2 : Int)) (e := (e2 : Int)) (by show 2 * 2 + 1 < 8; decide) (by decide) rfl rfl (by omega) (by omega) (zz _ _) ?_
    refine EK.cons ?_
    refine EV.meth "re.Match" "re.Match.group" rfl rfl rfl plainAttrs_mt slot_group type_group ?_
    repeat leaf_len
    refine ⟨fun v s x hv => ⟨mt_type hv, mt_plain hv⟩, CW.of rfl ?_⟩
    repeat leaf_len
    refine OF.groupN (g := 1) (b := (b1 : Int)) (e := (e1 : Int)) (by show 2 * 1 + 1 < 8; decide) (by decide) rfl rfl (by omega) (by omega) (zz _ _) ?_
    refine EK.cons ?_
    refine EV.meth "re.Match" "re.Match.group" rfl rfl rfl plainAttrs_mt slot_group type_group ?_
    repeat leaf_len
    refine ⟨fun v s x hv => ⟨mt_type hv, mt_plain hv⟩, CW.of rfl ?_⟩
    repeat leaf_len
    refine OF.groupN (g := 3) (b := (b3 : Int)) (e := (e3 : Int)) (by show 2 * 3 + 1 < 8; decide) (by decide) rfl rfl (by omega) (by omega) (zz _ _) ?_
    refine EK.nil ?_
    intro vs s at0 hr
    obtain ⟨v1, vr1, rfl, ⟨t1, rfl⟩, v2, vr2, rfl, ⟨t2, rfl⟩, v3, vr3, rfl, ⟨t3, rfl⟩, rfl⟩ := hr
    refine wpAny_imp (wpAny_AX (new_ax w s at0.gd.k at0.gd.nl _ _ _ t1 t2 t3) (hA.mono (by omega))) ?_
    intro v s' hv
    obtain ⟨rv, st⟩ := linkNew_VR hv at0.gd.lt
    exact ⟨_, G, rv, at0.pure st, st.mono (by simp), rfl, rfl⟩

theorem parse_no {w : World} {n : Nat} {D : List Addr} {G : Heap → Prop} {x : Str} {k : Nat} {mf : Sre.M} (hs : x.cps.size ≤ 4000000)
    (hr : Sre.M.runFor k (Sre.forMatch opCode x.cps 3 0 x.cps.size true false) = mf) (hk : k < 2 ^ 60) (ho : mf.outcome = some .failed) {cv : AV} :
    CT PG w (KH w) (n + 125) D (.ref 123) [cv, .str x] G (fun a G' => a = .none ∧ G' = G) := by
  refine CT.def (o := Mine.hz.zo_121 w.params) (names := [Str.ofString "cls", Str.ofString "seq"]) (by kernel_rfl) (hd := by rfl) (hb := by rfl) (by kernel_rfl) (hbind := ?_) (by decide +kernel) (by decide +kernel) rfl rfl rfl rfl ?_
  · intro vs s V X hr
    obtain ⟨v, vr, rfl, r1, v2, vr2, rfl, r2, rfl⟩ := hr
    exact BindsTo.of_eq rfl
  · intro A L O hA hD
    refine XS.cons (X1.expr rfl rfl (EV.str ?_))
    refine XS.cons (X1.assign (cxOf_env rfl rfl) (by kernel_rfl) rfl ?_)
    refine EV.meth "re.Pattern" "re.Pattern.fullmatch" rfl rfl rfl plainAttrs_pat slot_full type_full ?_
    refine EV.top (.ref 103) (by kernel_rfl) (by kernel_rfl) ?_
    refine ⟨fun v s x hv => ?_, CW.of rfl ?_⟩
    · cases hv
      exact ⟨patT_ok (by kernel_rfl : patT (KH w) 103 = true) s x.gd.k, fun p e => by cases e; exact pat_plain (pat_op w) s x.gd.k⟩
    repeat leaf_len
    refine OF.full (cxOf_ok hA hD) (pat_op w) (patT_ok (by kernel_rfl)) hs hr hk (.inr ⟨ho, ?_⟩)
    refine XS.cons (X1.iff (BT.cmp ?_))
    repeat leaf_len
    refine OC.isNone rfl ⟨_, rfl, fun _ => ?_, fun h => (by cases h)⟩
    refine XS.cons (X1.ret (EV.none ⟨rfl, rfl⟩))
end Mine
end

-- part W34
section
open PySem PySem.W PyProof.Rows
set_option Elab.async false
set_option linter.unusedVariables false
set_option maxRecDepth 100000
namespace Mine
def okC (K : Frag) (C p f : Addr) (name : Str) : Bool := specialIn K (.ref C) "__getattribute__" == some (some (.builtin "type.__getattribute__")) && readsIn K C (.type "type") &&
  (match findCls K (.ref C) (.type "type") name with | some (.get g a obj tp) => g == .builtin "classmethod.__get__" && a == .ref p && obj == .none && tp == .ref C | _ => false) &&
  (match recIn K p "classmethod" with | some (.ref f' :: _) => f' == f | _ => false) && fnIn K f
theorem okC_ok {K : Frag} {C p f : Addr} {name : Str} (e : okC K C p f name = true) : specialIn K (.ref C) "__getattribute__" = some (some (.builtin "type.__getattribute__")) ∧ readsIn K C (.type "type") = true ∧
    findCls K (.ref C) (.type "type") name = some (.get (.builtin "classmethod.__get__") (.ref p) .none (.ref C)) ∧ (∃ rest, recIn K p "classmethod" = some (.ref f :: rest)) ∧ fnIn K f = true := by
  unfold okC at e
  simp only [Bool.and_eq_true, beq_iff_eq] at e
  obtain ⟨⟨⟨⟨h1, h2⟩, h3⟩, h4⟩, h5⟩ := e
  refine ⟨h1, h2, ?_, ?_, h5⟩
  · split at h3
    · rename_i g a obj tp q
      simp only [Bool.and_eq_true, beq_iff_eq] at h3
      obtain ⟨⟨⟨rfl, rfl⟩, rfl⟩, rfl⟩ := h3
      exact q
    · cases h3
  · split at h4
    · rename_i f' r q
      rw [beq_iff_eq.mp h4] at q
      exact ⟨_, q⟩
    · cases h4
theorem okParse (w : World) : okC (KH w) 204 125 123 (Str.ofString "parse") = true := by kernel_rfl
theorem okFind (w : World) : okC (KH w) 311 224 222 (Str.ofString "find_close") = true := by kernel_rfl

/-- a call of one of the top classes' classmethods -/
theorem EV.classMK {c : Cx} {m mc : LM} {G : Heap → Prop} {K : AK} {n : Nat} {o : Expr} {name : Str} {apos pos : Pos} {args : List Expr} (C f p : Addr) (pl : Sem Bool) (ok : CxOk c n)
    (he : eval (.Call (.Attribute o name apos) args [] pos) c.env = (do
      let ov ← eval o c.env
      standAt apos.atName
      let (f, first) ← holding [ov] (getMethod ov name pl)
      callWith pos f first (backTo pos (starEach args c.env)) (backToKw pos (keywordEach [] c.env))))
    (hk : okC c.K C p f name = true) (hpl : (backTo pos (starEach args c.env)).any (·.1) = false)
    (h : EV c m mc G o fun a G1 => a = .raw (.ref C) ∧ EA c m mc G1 pos args fun as G2 => CT c.prog c.w c.K n c.D (.ref f) (.raw (.ref C) :: as) G2 K) : EV c m mc G (.Call (.Attribute o name apos) args [] pos) K := by
  obtain ⟨h1, h2, h3, ⟨rest, h4⟩, h5⟩ := okC_ok hk
  exact EV.classM C f p (.type "type") .none rest pl ok he h1 h2 h3 h4 h5 hpl h
end Mine
end

-- part W37
section
open PySem PySem.W PyProof.Rows
set_option Elab.async false
set_option linter.unusedVariables false
set_option maxRecDepth 100000
namespace Mine
theorem link_meth {w : World} {A : Around} {s : Shared} {V : List Addr} {u p t : Str} {v : Value} {name : Str} {f : Addr} {pl : Sem Bool} {Q : Value × List Value → Shared → Prop} (X : (KH w).In s.heap) (r : VR V s.heap (.link u p t) v)
    (hf : findIn (KH w) (.ref 204) name = some (some (.ref f))) (ht : typeIn (KH w) (.ref f) = some (.type "function")) (h : Q (.ref f, [v]) s) : wpAny (model PG w) A (getMethod v name pl) Q NoE s := by
  obtain ⟨b, vs, k, dx, rfl, hb, ho, hd, hdo, _⟩ := r
  exact method_sub X ho hdo (by kernel_rfl) (by kernel_rfl) hf ht h
theorem find_mkopen (w : World) : findIn (KH w) (.ref 204) (Str.ofString "make_open") = some (some (.ref 133)) := by kernel_rfl
theorem find_mkclose (w : World) : findIn (KH w) (.ref 204) (Str.ofString "make_close") = some (some (.ref 140)) := by kernel_rfl
theorem fn_mkopen (w : World) : typeIn (KH w) (.ref 133) = some (.type "function") := by kernel_rfl
theorem fn_mkclose (w : World) : typeIn (KH w) (.ref 140) = some (.type "function") := by kernel_rfl
end Mine
end

-- part W43
section
open PySem PySem.W PyProof.Rows PySem.SeqAt
set_option Elab.async false
set_option linter.unusedVariables false
set_option maxRecDepth 100000
set_option pp.maxSteps 300
set_option pp.deepTerms false
namespace Mine
local macro_rules | `(tactic| got_up) => `(tactic| first
  | refine EV.localI 0 rfl (by rfl) rfl (by kernel_rfl) ?_ (by kernel_rfl)
  | refine EV.localI 1 rfl (by rfl) rfl (by kernel_rfl) ?_ (by kernel_rfl)
  | refine EV.localI 2 rfl (by rfl) rfl (by kernel_rfl) ?_ (by kernel_rfl)
  | refine EV.localI 3 rfl (by rfl) rfl (by kernel_rfl) ?_ (by kernel_rfl)
  | refine EV.localI 4 rfl (by rfl) rfl (by kernel_rfl) ?_ (by kernel_rfl)
  | refine EV.localI 5 rfl (by rfl) rfl (by kernel_rfl) ?_ (by kernel_rfl)
  | refine EV.localI 6 rfl (by rfl) rfl (by kernel_rfl) ?_ (by kernel_rfl))
local macro_rules | `(tactic| leaf_len) => `(tactic| first
  | refine EV.str ?_ | refine EV.int ?_ | refine EV.none ?_ | refine EV.bool ?_
  | refine EV.binop ?_ | refine EV.sub ?_ | refine EV.cmp ?_ | refine EV.ifexp ?_ | refine EV.tuple ?_ | refine EV.list ?_
  | refine EA.cons ?_ | refine EA.nil ?_
  | got_up
  | refine OS.tup (by decide) (by decide) rfl rfl ?_
  | refine OB.add_str ?_ ?_
  | refine OB.add ?_
  | refine OC.lt ?_ | refine OC.le ?_ | refine OC.gt ?_ | refine OC.ge ?_
  | refine XS.cons ?_ | refine X1.ret ?_ | refine X1.iff ?_ | refine XS.nil ?_
  | refine X1.assign (cxOf_env rfl rfl) (by kernel_rfl) rfl ?_
  | refine BT.cmp ?_)
local macro_rules | `(tactic| leaf_len) => `(tactic| refine X1.assign (gx_env rfl rfl rfl) (by kernel_rfl) rfl ?_)
theorem gx_env {d : GN} {code : Code} {fs : List Frame} (hl : d.env.locals = d.L) (hc : d.env.cells = []) (hk : d.env.scope.kind = .function) : EnvOk (d.cx code fs) :=
  ⟨List.mem_singleton.mpr hl, (fun p hp => by rw [show (d.cx code fs).env.cells = d.env.cells from rfl, hc] at hp; cases hp), hk⟩
theorem gx_ok {d : GN} {code : Code} {fs : List Frame} {n : Nat} (h : AOk (d.A.over code fs) n) : CxOk (d.cx code fs) n := ⟨h, (fun d hd => by cases hd)⟩

def ESC : Str := Str.ofString "\u001b"
def plainS (x : Str) (s i : Nat) : AV := .tup [.str (Txt.slice x (some (s : Int)) (some (i : Int))), .bool false]
def restS (x : Str) (s : Nat) : AV := .tup [.str (Txt.slice x (some (s : Int)) none), .bool false]
def seqS (x : Str) (i e : Nat) : AV := .tup [.str ⟨x.cps.extract i e⟩, .bool true]

inductive Sg (x : Str) : Nat → Nat → List AV → Prop
  | fin {i s} (hi : i = x.cps.size) (hs : x.cps.size ≤ s) : Sg x i s []
  | last {i s} (hi : i = x.cps.size) (hs : s < x.cps.size) : Sg x i s [restS x s]
  | step {i s its} (hi : i < x.cps.size) (hc : (Txt.item x (i : Int) == ESC) = false) (h : Sg x (i + 1) s its) : Sg x i s its
  | seq0 {i s e its} (hi : i + 2 ≤ x.cps.size) (hc : (Txt.item x (i : Int) == ESC) = true) (hs : i ≤ s) (ht : Re.To (Re.zcfg x.cps x.cps.size) 60 (Re.q0 9 i #[]) (Re.Yes i e #[] (-1) (-1))) (h : Sg x e e its) : Sg x i s (seqS x i e :: its)
  | seq1 {i s e its} (hi : i + 2 ≤ x.cps.size) (hc : (Txt.item x (i : Int) == ESC) = true) (hs : s < i) (ht : Re.To (Re.zcfg x.cps x.cps.size) 60 (Re.q0 9 i #[]) (Re.Yes i e #[] (-1) (-1))) (h : Sg x e e its) : Sg x i s (plainS x s i :: seqS x i e :: its)

theorem norm4 {m : LM} {n1 n2 n3 n4 : Str} {a1 a2 a3 a4 : AV} (h1 : m.lookup n1 = some a1) (h2 : m.lookup n2 = some a2) (h3 : m.lookup n3 = some a3) (h4 : m.lookup n4 = some a4) :
    ∀ n a, List.lookup n [(n1, a1), (n2, a2), (n3, a3), (n4, a4)] = some a → m.lookup n = some a := by
  intro n a h
  simp only [List.lookup_cons, List.lookup_nil] at h
  cases q1 : n == n1 with
  | true => rw [q1] at h; cases h; rw [beq_iff_eq.mp q1]; exact h1
  | false =>
    rw [q1] at h
    cases q2 : n == n2 with
    | true => rw [q2] at h; cases h; rw [beq_iff_eq.mp q2]; exact h2
    | false =>
      rw [q2] at h
      cases q3 : n == n3 with
      | true => rw [q3] at h; cases h; rw [beq_iff_eq.mp q3]; exact h3
      | false =>
        rw [q3] at h
        cases q4 : n == n4 with
        | true => rw [q4] at h; cases h; rw [beq_iff_eq.mp q4]; exact h4
        | false => rw [q4] at h; cases h

def gm (x : Str) (i s : Nat) : LM := [(Str.ofString "idx", .int (i : Int)), (Str.ofString "segment_start", .int (s : Int)), (Str.ofString "text_len", .int (x.cps.size : Int)), (Str.ofString "text", .str x)]

theorem X1.augN {c : Cx} {m mc : LM} {G : Heap → Prop} {KF : FK} {x : Str} {xp pos : Pos} {e : Expr} {i : Int} (E : EnvOk c) (hl : c.env.kindOf x = some .local) (hm : m.lookup x = some (.int i))
    (h : EV c m mc G e fun a G' => ∃ j, a = .int j ∧ KF .next ((x, .int (i + j)) :: m) mc G') : X1 c m mc G (.AugAssign (.Name x xp) .Add e pos) KF := ⟨fun s x0 => by
  refine wpAny_AugAssign_Name ?_
  obtain ⟨f, hn, hf⟩ := x0.loc
  obtain ⟨v, e1, t, rfl⟩ := hf x (.int i) hm
  refine wpAny_loadName_local E.kind hl hn e1 ?_
  refine wpAny_imp (h.run s x0) ?_
  rintro u s1 ⟨a, G1, ra, x1, y1, j, rfl, k⟩
  obtain ⟨t', rfl⟩ := ra
  refine wpAny_iadd_int ?_
  have x2 := x1.pure (Stp.toks s1 (s1.toks + 1))
  exact x2.store (a := .int (i + j)) ⟨_, rfl⟩ hl E.own E.cells (by rw [E.kind]; rfl) fun s3 x3 y3 => ⟨.next, _, _, _, rfl, x3, y1.own.trans ((Stp.toks s1 (s1.toks + 1)).trans y3), k⟩⟩
end Mine
end

-- part W32
section
open PySem PySem.W PyProof.Rows PySem.SeqAt PySem.Builtin.Re
set_option Elab.async false
set_option linter.unusedVariables false
set_option maxRecDepth 100000
namespace Mine

theorem OF.matchZ {c : Cx} {m mc : LM} {G : Heap → Prop} {K : AK} {n : Nat} {pat : Addr} {x : Str} {i e : Nat} (ok : CxOk c n) (hp : patOk c.K pat zwCode 0 = true) (hT : ∀ s : Shared, c.K.In s.heap → s.TypeIs (.ref pat) "re.Pattern") (hs : x.cps.size ≤ 4000000)
    (hi : i + 2 ≤ x.cps.size) (ht : Re.To (Re.zcfg x.cps x.cps.size) 60 (Re.q0 9 i #[]) (Re.Yes i e #[] (-1) (-1))) (h : K (.mt x [(i : Int), (e : Int)]) G) :
    OF c m mc G (.builtin "re.Pattern.match") [.raw (.ref pat), .str x, .int (i : Int)] K := ⟨fun vs s at0 r => by
  obtain ⟨v, vr, rfl, rfl, v2, vr2, rfl, ⟨tx, rfl⟩, v3, vr3, rfl, ⟨ti, rfl⟩, rfl⟩ := r
  have e1 : min (i : Int).toNat x.cps.size = i := by omega
  have e2 : min (2 ^ 63 - 1) x.cps.size = x.cps.size := by omega
  refine call_match (K := c.K) at0.gd.k hp (hT s at0.gd.k) (by decide) (by omega) (by omega) ?_
  rw [e1, e2]
  obtain ⟨sn, hm⟩ := fm_gen (text := x.cps) (g := 0) (whole := false) hd_zw hi
  rw [hm]
  refine to_ok (c := Re.zcfg x.cps x.cps.size) (q := Re.q0 9 i #[]) ht (by decide) ?_
  intro q' y
  refine ⟨y.fr, .inl ⟨y.ans, fun mf k1 k2 k3 k4 k5 => ⟨rfl, fun v s'' hn => ?_⟩⟩⟩
  rw [k4, k5, y.st, y.e] at hn
  obtain ⟨rv, st⟩ := mtNew_VR (c := c) hn at0.gd.lt
  exact ⟨_, G, rv, at0.pure st, st.mono (by simp), h⟩⟩
end Mine
end

-- part W44
section
open PySem PySem.W PyProof.Rows PySem.SeqAt
set_option Elab.async false
set_option linter.unusedVariables false
set_option maxRecDepth 100000
set_option pp.maxSteps 300
set_option pp.deepTerms false
namespace Mine
local macro_rules | `(tactic| got_up) => `(tactic| first
  | refine EV.localI 0 rfl (by rfl) rfl (by kernel_rfl) ?_ (by kernel_rfl)
  | refine EV.localI 1 rfl (by rfl) rfl (by kernel_rfl) ?_ (by kernel_rfl)
  | refine EV.localI 2 rfl (by rfl) rfl (by kernel_rfl) ?_ (by kernel_rfl)
  | refine EV.localI 3 rfl (by rfl) rfl (by kernel_rfl) ?_ (by kernel_rfl)
  | refine EV.localI 4 rfl (by rfl) rfl (by kernel_rfl) ?_ (by kernel_rfl)
  | refine EV.localI 5 rfl (by rfl) rfl (by kernel_rfl) ?_ (by kernel_rfl)
  | refine EV.localI 6 rfl (by rfl) rfl (by kernel_rfl) ?_ (by kernel_rfl))
local macro_rules | `(tactic| leaf_len) => `(tactic| first
  | refine EV.str ?_ | refine EV.int ?_ | refine EV.none ?_ | refine EV.bool ?_
  | refine EV.binop ?_ | refine EV.sub ?_ | refine EV.cmp ?_ | refine EV.ifexp ?_ | refine EV.tuple ?_ | refine EV.list ?_
  | refine EA.cons ?_ | refine EA.nil ?_
  | got_up
  | refine OS.tup (by decide) (by decide) rfl rfl ?_
  | refine OB.add_str ?_ ?_
  | refine OB.add ?_
  | refine OC.lt ?_ | refine OC.le ?_ | refine OC.gt ?_ | refine OC.ge ?_
  | refine XS.cons ?_ | refine X1.ret ?_ | refine X1.iff ?_ | refine XS.nil ?_
  | refine X1.assign (cxOf_env rfl rfl) (by kernel_rfl) rfl ?_
  | refine BT.cmp ?_)
local macro_rules | `(tactic| leaf_len) => `(tactic| refine X1.assign (gx_env rfl rfl rfl) (by kernel_rfl) rfl ?_)

theorem iter_gct (w : World) {n : Nat} {x : Str} {items : List AV} (hx : x.cps.size ≤ 4000000) (h : Sg x 0 0 items) : GCT PG w (KH w) (n + 10) (.ref 55) [.str x] items := by
  refine GCT.def (o := Mine.hz.zo_74 w.params) (names := [Str.ofString "text"]) (by kernel_rfl) (hd := by rfl) (hb := by rfl) (by kernel_rfl) (hbind := ?_) (by decide +kernel) (by decide +kernel) rfl rfl rfl rfl ?_
  · intro vs s V X hr
    obtain ⟨v, vr, rfl, r1, rfl⟩ := hr
    exact BindsTo.of_eq rfl
  · intro A L O hA hL
    refine SJ.func fun Hh => ?_
    refine SJ.cons (SJ.stmt (X1.expr rfl rfl (EV.str ⟨rfl, rfl, rfl, ?_⟩)))
    refine SJ.cons (SJ.stmt ?_)
    leaf_len
    refine EV.int ⟨rfl, rfl, rfl, ?_⟩
    refine SJ.cons (SJ.stmt ?_)
    leaf_len
    refine EV.callB "len" (by kernel_rfl) (by kernel_rfl) rfl ?_
    repeat leaf_len
    refine OF.lenS (by show x.cps.size < _; omega) ⟨rfl, rfl, rfl, ?_⟩
    refine SJ.cons (SJ.stmt ?_)
    leaf_len
    refine EV.int ⟨rfl, rfl, rfl, ?_⟩
    refine SJ.cons (SJ.while fun p k hk => ?_)
    have z2 : 2 ≤ sizeLine := by decide
    have zz : ∀ b e : Nat, (x.cps.extract b e).size ≤ sizeLine := fun b e => by
      rw [Array.size_extract]; unfold sizeLine; omega
    have szx : x.length ≤ sizeLine := by show x.cps.size ≤ _; unfold sizeLine; omega
    refine SJ.norm (m0 := gm x 0 0) ?_ (norm4 (lk_skip (by rfl) |>.trans (lk_skip (by rfl) |>.trans (lk_here (by rfl)))) (lk_here (by rfl)) (lk_skip (by rfl) |>.trans (lk_here (by rfl))) (lk_skip (by rfl) |>.trans (lk_skip (by rfl) |>.trans (lk_skip (by rfl) |>.trans (lk_here (by rfl))))))
    refine (?loop : ∀ (i s : Nat) (its : List AV), Sg x i s its → ∀ pre, items = pre ++ its → SJ ⟨PG, w, KH w, A, _, L, O, items⟩ its.length _ _ (gm x i s) _) 0 0 items h [] rfl
    intro i s its hsg
    induction hsg with
    | fin hi hs => 
      intro pre hp
      refine SJ.turn (BT.cmp ?_)
      repeat leaf_len
      refine ⟨_, rfl, rfl, fun hb => ?_, fun _ Hh2 => ?_⟩
      · simp at hb; omega
      · refine SJ.nil (SJ.pop (r := .ok .next) ?_)
        rw [hk]
        refine SJ.cons (SJ.iff (BT.cmp ?_))
        repeat leaf_len
        refine ⟨_, rfl, rfl, fun hb => ?_, fun _ => ?_⟩
        · simp at hb; omega
        · repeat refine SJ.nil ?_
          exact SJ.end
    | last hi hs => 
      intro pre hp
      refine SJ.turn (BT.cmp ?_)
      repeat leaf_len
      refine ⟨_, rfl, rfl, fun hb => ?_, fun _ Hh2 => ?_⟩
      · simp at hb; omega
      · refine SJ.nil (SJ.pop (r := .ok .next) ?_)
        rw [hk]
        refine SJ.cons (SJ.iff (BT.cmp ?_))
        repeat leaf_len
        refine ⟨_, rfl, rfl, fun _ => ?_, fun hb => ?_⟩
        · refine SJ.cons (SJ.yield (by rfl) (by rfl) (by rfl) hL (by rfl) ?_)
          refine EV.tuple (EA.cons (EV.sliceSN ?_))
          repeat leaf_len
          refine ⟨x, (_ : Int), rfl, rfl, szx, ?_⟩
          repeat leaf_len
          refine ⟨z2, rfl, ?_, ?_⟩
          · rw [hp]; simp [restS]
          · exact SJ.end
        · simp at hb; omega
    | @step i s its hi hc hsg ih => 
      intro pre hp
      refine SJ.turn (BT.cmp ?_)
      repeat leaf_len
      refine ⟨_, rfl, rfl, fun _ Hh2 => ?_, fun hb => ?_⟩
      · refine SJ.cons (SJ.stmt ?_)
        leaf_len
        repeat leaf_len
        refine OS.str (by omega) (by show (i : Int) < x.cps.size; omega) (by show x.cps.size < _; omega) ⟨rfl, rfl, rfl, ?_⟩
        refine SJ.cons (SJ.iff (BT.cmp ?_))
        repeat leaf_len
        refine OC.eq (gx_ok (over_while hA)) rfl rfl ⟨_, rfl, rfl, fun hb => ?_, fun _ => ?_⟩
        · exact absurd (show (Txt.item x (i : Int) == ESC) = true from hb) (by rw [hc]; decide)
        · refine SJ.cons (SJ.stmt (X1.augN (gx_env rfl rfl rfl) (by kernel_rfl) (i := (i : Int)) ((lk_skip (by rfl)).trans (lk_here (by rfl))) (EV.int ⟨1, rfl, rfl, rfl, rfl, ?_⟩)))
          repeat refine SJ.nil ?_
          refine SJ.again ?_
          have e : ((i + 1 : Nat) : Int) = (i : Int) + 1 := by omega
          refine SJ.norm (ih pre hp) (norm4 ?_ ?_ ?_ ?_)
          · rw [e]; exact lk_here (by rfl)
          · exact (lk_skip (by rfl)).trans ((lk_skip (by rfl)).trans ((lk_skip (by rfl)).trans (lk_here (by rfl))))
          · exact (lk_skip (by rfl)).trans ((lk_skip (by rfl)).trans ((lk_skip (by rfl)).trans ((lk_skip (by rfl)).trans (lk_here (by rfl)))))
          · exact (lk_skip (by rfl)).trans ((lk_skip (by rfl)).trans ((lk_skip (by rfl)).trans ((lk_skip (by rfl)).trans ((lk_skip (by rfl)).trans (lk_here (by rfl))))))
      · simp at hb; omega
    | @seq0 i s e its hi hc hs ht hsg ih =>
      intro pre hp
      refine SJ.turn (BT.cmp ?_)
      repeat leaf_len
      refine ⟨_, rfl, rfl, fun _ Hh2 => ?_, fun hb => ?_⟩
      · refine SJ.cons (SJ.stmt ?_)
        leaf_len
        repeat leaf_len
        refine OS.str (by omega) (by show (i : Int) < x.cps.size; omega) (by show x.cps.size < _; omega) ⟨rfl, rfl, rfl, ?_⟩
        refine SJ.cons (SJ.iff (BT.cmp ?_))
        repeat leaf_len
        refine OC.eq (gx_ok (over_while hA)) rfl rfl ⟨_, rfl, rfl, fun _ => ?_, fun hb => ?_⟩
        · refine SJ.cons (SJ.iff (BT.cmp ?_))
          repeat leaf_len
          refine ⟨_, rfl, rfl, fun hb => ?_, fun _ => ?_⟩
          · simp at hb; omega
          · repeat refine SJ.nil ?_
            refine SJ.cons (SJ.stmt ?_)
            leaf_len
            refine EV.meth "re.Pattern" "re.Pattern.match" rfl rfl rfl plainAttrs_pat slot_match type_match ?_
            refine EV.top (.ref 43) (by kernel_rfl) (by kernel_rfl) ?_
            refine ⟨fun v s x hv => ?_, CW.of rfl ?_⟩
            · cases hv
              exact ⟨patT_ok (by kernel_rfl : patT (KH w) 43 = true) s x.gd.k, fun p e => by cases e; exact pat_plain (pat_zw w) s x.gd.k⟩
            repeat leaf_len
            refine OF.matchZ (gx_ok (over_while hA)) (pat_zw w) (patT_ok (by kernel_rfl)) hx hi ht ⟨rfl, rfl, rfl, ?_⟩
            refine SJ.cons (SJ.iff (BT.plain ?_))
            repeat leaf_len
            refine ⟨true, rfl, (fun x e => by cases e), rfl, fun _ => ?_, fun hb => (by cases hb)⟩
            refine SJ.cons (SJ.yield (by rfl) (by rfl) (by rfl) hL (by rfl) ?_)
            refine EV.tuple (EA.cons ?_)
            refine EV.meth "re.Match" "re.Match.group" rfl rfl rfl plainAttrs_mt slot_group type_group ?_
            repeat leaf_len
            refine ⟨fun v s x hv => ⟨mt_type hv, mt_plain hv⟩, CW.of rfl (EA.nil (OF.group (b := (i : Int)) (e := (e : Int)) rfl rfl (by omega) (by omega) (zz i e) ?_))⟩
            repeat leaf_len
            refine ⟨z2, rfl, ?_, ?_⟩
            · rw [hp]; simp [seqS]
            refine SJ.cons (SJ.stmt ?_)
            leaf_len
            refine EV.meth "re.Match" "re.Match.end" rfl rfl rfl plainAttrs_mt slot_end type_end ?_
            repeat leaf_len
            refine ⟨fun v s x hv => ⟨mt_type hv, mt_plain hv⟩, CW.of rfl (EA.nil (OF.end ⟨rfl, rfl, rfl, ?_⟩))⟩
            repeat refine SJ.nil ?_
            refine SJ.cons (SJ.stmt ?_)
            leaf_len
            repeat leaf_len
            refine ⟨rfl, rfl, rfl, ?_⟩
            repeat refine SJ.nil ?_
            refine SJ.again ?_
            refine SJ.norm (ih (pre ++ [seqS x i e]) (by rw [hp]; simp)) (norm4 ?_ ?_ ?_ ?_)
            · exact (lk_skip (by rfl)).trans (lk_here (by rfl))
            · exact (lk_here (by rfl))
            · exact (lk_skip (by rfl)).trans ((lk_skip (by rfl)).trans ((lk_skip (by rfl)).trans ((lk_skip (by rfl)).trans ((lk_skip (by rfl)).trans ((lk_skip (by rfl)).trans (lk_here (by rfl)))))))
            · exact (lk_skip (by rfl)).trans ((lk_skip (by rfl)).trans ((lk_skip (by rfl)).trans ((lk_skip (by rfl)).trans ((lk_skip (by rfl)).trans ((lk_skip (by rfl)).trans ((lk_skip (by rfl)).trans (lk_here (by rfl))))))))
        · exact absurd (show (Txt.item x (i : Int) == ESC) = false from hb) (by rw [hc]; decide)
      · simp at hb; omega
    | @seq1 i s e its hi hc hs ht hsg ih =>
      intro pre hp
      refine SJ.turn (BT.cmp ?_)
      repeat leaf_len
      refine ⟨_, rfl, rfl, fun _ Hh2 => ?_, fun hb => ?_⟩
      · refine SJ.cons (SJ.stmt ?_)
        leaf_len
        repeat leaf_len
        refine OS.str (by omega) (by show (i : Int) < x.cps.size; omega) (by show x.cps.size < _; omega) ⟨rfl, rfl, rfl, ?_⟩
        refine SJ.cons (SJ.iff (BT.cmp ?_))
        repeat leaf_len
        refine OC.eq (gx_ok (over_while hA)) rfl rfl ⟨_, rfl, rfl, fun _ => ?_, fun hb => ?_⟩
        · refine SJ.cons (SJ.iff (BT.cmp ?_))
          repeat leaf_len
          refine ⟨_, rfl, rfl, fun _ => ?_, fun hb => ?_⟩
          · refine SJ.cons (SJ.yield (by rfl) (by rfl) (by rfl) hL (by rfl) ?_)
            refine EV.tuple (EA.cons (EV.sliceSS ?_))
            repeat leaf_len
            refine ⟨x, (s : Int), (i : Int), rfl, rfl, rfl, szx, ?_⟩
            repeat leaf_len
            refine ⟨z2, rfl, ?_, ?_⟩
            · rw [hp]; simp [plainS]
            repeat refine SJ.nil ?_
            refine SJ.cons (SJ.stmt ?_)
            leaf_len
            refine EV.meth "re.Pattern" "re.Pattern.match" rfl rfl rfl plainAttrs_pat slot_match type_match ?_
            refine EV.top (.ref 43) (by kernel_rfl) (by kernel_rfl) ?_
            refine ⟨fun v s x hv => ?_, CW.of rfl ?_⟩
            · cases hv
              exact ⟨patT_ok (by kernel_rfl : patT (KH w) 43 = true) s x.gd.k, fun p e => by cases e; exact pat_plain (pat_zw w) s x.gd.k⟩
            repeat leaf_len
            refine OF.matchZ (gx_ok (over_while hA)) (pat_zw w) (patT_ok (by kernel_rfl)) hx hi ht ⟨rfl, rfl, rfl, ?_⟩
            refine SJ.cons (SJ.iff (BT.plain ?_))
            repeat leaf_len
            refine ⟨true, rfl, (fun x e => by cases e), rfl, fun _ => ?_, fun hb => (by cases hb)⟩
            refine SJ.cons (SJ.yield (by rfl) (by rfl) (by rfl) hL (by rfl) ?_)
            refine EV.tuple (EA.cons ?_)
            refine EV.meth "re.Match" "re.Match.group" rfl rfl rfl plainAttrs_mt slot_group type_group ?_
            repeat leaf_len
            refine ⟨fun v s x hv => ⟨mt_type hv, mt_plain hv⟩, CW.of rfl (EA.nil (OF.group (b := (i : Int)) (e := (e : Int)) rfl rfl (by omega) (by omega) (zz i e) ?_))⟩
            repeat leaf_len
            refine ⟨z2, rfl, ?_, ?_⟩
            · rw [hp]; simp [seqS]
            refine SJ.cons (SJ.stmt ?_)
            leaf_len
            refine EV.meth "re.Match" "re.Match.end" rfl rfl rfl plainAttrs_mt slot_end type_end ?_
            repeat leaf_len
            refine ⟨fun v s x hv => ⟨mt_type hv, mt_plain hv⟩, CW.of rfl (EA.nil (OF.end ⟨rfl, rfl, rfl, ?_⟩))⟩
            repeat refine SJ.nil ?_
            refine SJ.cons (SJ.stmt ?_)
            leaf_len
            repeat leaf_len
            refine ⟨rfl, rfl, rfl, ?_⟩
            repeat refine SJ.nil ?_
            refine SJ.again ?_
            refine SJ.norm (ih (pre ++ [plainS x s i, seqS x i e]) (by rw [hp]; simp)) (norm4 ?_ ?_ ?_ ?_)
            · exact (lk_skip (by rfl)).trans (lk_here (by rfl))
            · exact (lk_here (by rfl))
            · exact (lk_skip (by rfl)).trans ((lk_skip (by rfl)).trans ((lk_skip (by rfl)).trans ((lk_skip (by rfl)).trans ((lk_skip (by rfl)).trans ((lk_skip (by rfl)).trans (lk_here (by rfl)))))))
            · exact (lk_skip (by rfl)).trans ((lk_skip (by rfl)).trans ((lk_skip (by rfl)).trans ((lk_skip (by rfl)).trans ((lk_skip (by rfl)).trans ((lk_skip (by rfl)).trans ((lk_skip (by rfl)).trans (lk_here (by rfl))))))))
          · simp at hb; omega
        · exact absurd (show (Txt.item x (i : Int) == ESC) = false from hb) (by rw [hc]; decide)
      · simp at hb; omega
end Mine
end

-- part W45
section
open PySem PySem.W PyProof.Rows
set_option Elab.async false
set_option linter.unusedVariables false
set_option maxRecDepth 100000
namespace Mine

theorem SrcG.mono {prog w A V n n' items W it St Mid} (x : SrcG prog w A V n' items W it St Mid) (h : n ≤ n') : SrcG prog w A V n items W it St Mid where
  frame := x.frame
  item := fun i a s Q h1 h2 h3 hQ => x.item i a s Q h1 h2 h3 fun v s' a b c d e => hQ v s' a b c ⟨fun i hi => d.1 i (by omega), d.2⟩ e
  go := fun i v s elts k pos Q h1 hQ => x.go i v s elts k pos Q h1 fun s' a b c d => hQ s' a b ⟨fun i hi => c.1 i (by omega), c.2⟩ d
  done := fun s Q h1 hQ => x.done s Q h1 fun s' a b c => hQ s' a ⟨fun i hi => b.1 i (by omega), b.2⟩ c

theorem IT.gen {c : Cx} {m mc : LM} {G : Heap → Prop} {id : Str} {p pos : Pos} {e1 : Expr} {args : List Expr} {K : List AV → (Heap → Prop) → Prop} {n : Nat} (f : Addr) (hf : peek c.K ⟨c.prog, c.w.params⟩ (loadName c.env id) = some (.ref f)) (hk : fnIn c.K f = true)
    (hd : (id == ("__debug__" : Str)) = false) (hA : AOk c.A n)
    (h : EA c m mc G pos (e1 :: args) fun as G1 => ∃ items, GCT c.prog c.w c.K n (.ref f) as items ∧ K items G1)
    (he : starEach (e1 :: args) c.env = (false, eval e1 c.env) :: starEach args c.env := by rfl) : IT c m mc G (.Call (.Name id p) (e1 :: args) [] pos) K := ⟨fun s x => by
  rw [arm_eval_Call_Name']
  refine wpAny_bind (wpAny_Name ((Looks.of_peek (M := c.M) x.gd.k hf).here ?_) hd)
  unfold fnIn at hk
  split at hk
  · rename_i oc od fd osl ho
    refine Calls.callWith_function (o := ⟨oc, od, .func fd, osl⟩) (fd := fd) ?_
    have h' := h.run s x
    rw [he] at h' ⊢
    refine Calls.evalArgs_plain (wpAny_imp h' ?_)
    rintro vs s2 ⟨as, G2, rs, x2, y2, items, hct, hK⟩
    refine ⟨⟨x2.gd.k _ _ ho, rfl⟩, ?_⟩
    refine wpAny_call (codeAny_mono (hct c.A hA c.V vs s2 x2.gd rs) ?_)
    rintro r s3 ⟨a, L, g, rfl, hg, ha, hL, hLt, y3, mk⟩
    have hgs : s.gens.size ≤ s2.gens.size := y2.gens.size
    obtain ⟨x3, hWV⟩ := x2.wide (W := [L]) y3.hp (fun I hi => by rw [List.mem_singleton.mp hi]; exact hL) (fun I hi => by rw [List.mem_singleton.mp hi]; exact hLt)
    obtain ⟨St, src, hst, _⟩ := mk c.A c.V s3 hA (x3.leaveW).gd (hWV L (List.mem_singleton.mpr rfl)) (fun h => by obtain ⟨o, e⟩ := x2.gd.lt a h; rw [ha] at e; cases e) (fun b hb => .inl hb) (fun _ _ e => e) rfl
    refine wpAny_pyIter_gen hg ⟨items, [L], St, _, G2, src.mono hgs, hst, x3, fun I hi => ⟨hWV I hi, ?_⟩, y2.trans (y3.mono (by simp)), hK⟩
    rw [List.mem_singleton.mp hi]
    cases q : s.heap.get? L with
    | none => rfl
    | some o => obtain ⟨o', e⟩ := y2.there L o q; rw [hL] at e; cases e
  · cases hk⟩

section
variable {c : Cx} {m mc : LM} {G : Heap → Prop} {K : AK}
theorem BT.and {t : Expr} {rest : List Expr} {pos : Pos} {K : Bool → (Heap → Prop) → Prop} (h : BT c m mc G t fun b G' => (b = true → BT c m mc G' (.BoolOp .And rest pos) K) ∧ (b = false → K false G'))
    : BT c m mc G (.BoolOp .And (t :: rest) pos) K := ⟨fun s x => by
  refine isTrue_and (wpAny_imp (h.run s x) ?_)
  rintro b s1 ⟨G1, x1, y1, h1, h2⟩
  cases b with
  | true =>
    rw [if_pos rfl]
    refine wpAny_imp ((h1 rfl).run s1 x1) ?_
    rintro b2 s2 ⟨G2, x2, y2, k2⟩
    exact ⟨G2, x2, y1.trans y2, k2⟩
  | false => rw [if_neg (by decide)]; exact ⟨G1, x1, y1, h2 rfl⟩⟩
theorem BT.andNil {pos : Pos} {K : Bool → (Heap → Prop) → Prop} (k : K true G) : BT c m mc G (.BoolOp .And [] pos) K := ⟨fun s x => isTrue_and_nil ⟨G, x, .refl _ _, k⟩⟩
theorem BT.or {t : Expr} {rest : List Expr} {pos : Pos} {K : Bool → (Heap → Prop) → Prop} (h : BT c m mc G t fun b G' => (b = false → BT c m mc G' (.BoolOp .Or rest pos) K) ∧ (b = true → K true G'))
    : BT c m mc G (.BoolOp .Or (t :: rest) pos) K := ⟨fun s x => by
  refine isTrue_or (wpAny_imp (h.run s x) ?_)
  rintro b s1 ⟨G1, x1, y1, h1, h2⟩
  cases b with
  | true => rw [if_pos rfl]; exact ⟨G1, x1, y1, h2 rfl⟩
  | false =>
    rw [if_neg (by decide)]
    refine wpAny_imp ((h1 rfl).run s1 x1) ?_
    rintro b2 s2 ⟨G2, x2, y2, k2⟩
    exact ⟨G2, x2, y1.trans y2, k2⟩⟩
theorem BT.orNil {pos : Pos} {K : Bool → (Heap → Prop) → Prop} (k : K false G) : BT c m mc G (.BoolOp .Or [] pos) K := ⟨fun s x => isTrue_or_nil ⟨G, x, .refl _ _, k⟩⟩

theorem OF.starts2 {x a b' : Str} (k : K (.bool (Txt.startswith x a || Txt.startswith x b')) G) : OF c m mc G (.builtin "str.startswith") [.str x, .tup [.str a, .str b']] K := ⟨fun vs s at0 r => by
  obtain ⟨v, vr, rfl, ⟨t, rfl⟩, v2, vr2, rfl, ⟨p, us, n, rfl, hp, ho, v3, vr3, rfl, ⟨ta, rfl⟩, v4, vr4, rfl, ⟨tb, rfl⟩, rfl⟩, rfl⟩ := r
  have sl := F.slot_str_startswith
  refine wpAny_call (codeAny_call_builtin sl.plain F.entry_str_startswith (sl.check _ _ _ _ _ _ _ _ (typeIs_str _ _ _) (F.args_str_startswith_2 _ _) ?_))
  unfold Builtin.«str.startswith» Builtin.Str.affixEntry
  refine wpAny_bind (wpAny_of_eq (show Builtin.Str.strSomeArgs "startswith" 1 3 ⟨[.str x t, .ref p], []⟩ = pure (.str x t, x, [.ref p]) from by kernel_rfl) ?_)
  refine wpAny_bind (wpAny_of_eq (show Builtin.Str.searchRange x.length (List.drop 1 [Value.ref p]) = pure (0, x.length) from searchRange_nil _) ?_)
  refine wpAny_bind (m := asStr? (.ref p)) ?_
  refine wpAny_bind (wpAny_load ho (wpAny_pure ?_))
  refine wpAny_bind (wpAny_isInstance (T := "tuple") (b := true) ⟨_, ho, rfl⟩ (by rw [isSubtype_type]; kernel_rfl) ?_)
  rw [if_pos rfl]
  refine wpAny_bind (wpAny_rule (wpAny_bind (wpAny_seqItems ho rfl ?_)))
  have fin : ∀ b, b = (Txt.startswith x a || Txt.startswith x b') → K (.bool b) G := fun b e => by rw [e]; exact k
  dsimp only
  refine wpAny_bind ?_
  rw [Array.forIn_toList.symm]
  show wpAny _ _ (forIn [Value.str a ta, Value.str b' tb] _ _) _ _ _
  rw [List.forIn_cons]
  refine wpAny_bind (wpAny_bind (wpAny_of_eq (show asStr? (.str a ta) = pure (some a) from rfl) ?_))
  dsimp only
  cases qa : Txt.startswith x a with
  | true =>
    rw [if_pos (by unfold Txt.startswith at qa; exact qa)]
    refine wpAny_bind (wpAny_pure (wpAny_pure (wpAny_pure (wpAny_pure ?_))))
    exact ⟨.bool true, G, rfl, at0, .refl _ _, fin true (by rw [qa]; rfl)⟩
  | false =>
    rw [if_neg (by unfold Txt.startswith at qa; rw [qa]; decide)]
    refine wpAny_pure ?_
    dsimp only
    rw [List.forIn_cons]
    refine wpAny_bind (wpAny_bind (wpAny_of_eq (show asStr? (.str b' tb) = pure (some b') from rfl) ?_))
    dsimp only
    cases qb : Txt.startswith x b' with
    | true =>
      rw [if_pos (by unfold Txt.startswith at qb; exact qb)]
      refine wpAny_bind (wpAny_pure (wpAny_pure (wpAny_pure (wpAny_pure ?_))))
      exact ⟨.bool true, G, rfl, at0, .refl _ _, fin true (by rw [qa, qb]; rfl)⟩
    | false =>
      rw [if_neg (by unfold Txt.startswith at qb; rw [qb]; decide)]
      refine wpAny_pure ?_
      dsimp only
      rw [List.forIn_nil]
      refine wpAny_pure (wpAny_pure ?_)
      exact ⟨.bool false, G, rfl, at0, .refl _ _, fin false (by rw [qa, qb]; rfl)⟩⟩
end
end Mine
end

-- part W31
section
open PySem PySem.W PyProof.Rows PySem.SeqAt PySem.Builtin.Re
set_option Elab.async false
set_option linter.unusedVariables false
set_option maxRecDepth 100000
namespace Mine

def runFull (x : Str) : Sre.M := Sre.M.runFor 400 (Sre.forMatch opCode x.cps 3 0 x.cps.size true false)
def isMatched : Option Sre.Outcome → Bool
  | some .matched => true
  | _ => false
def isFailed : Option Sre.Outcome → Bool
  | some .failed => true
  | _ => false
def yesChk (x u p t : Str) : Bool :=
  isMatched (runFull x).outcome && !wrongSpan 3 (runFull x) && (match spansOf 3 (runFull x) with
    | [.ofNat b1, .ofNat e1, .ofNat b2, .ofNat e2, .ofNat b3, .ofNat e3] => p == ⟨x.cps.extract b1 e1⟩ && u == ⟨x.cps.extract b2 e2⟩ && t == ⟨x.cps.extract b3 e3⟩
    | _ => false)
theorem yes_of {x u p t : Str} (h : yesChk x u p t = true) : FullYes x u p t 400 (runFull x) := by
  unfold yesChk at h
  simp only [Bool.and_eq_true, Bool.not_eq_true'] at h
  obtain ⟨⟨h1, h2⟩, h3⟩ := h
  refine ⟨rfl, by decide, ?_, h2, ?_⟩
  · cases q : (runFull x).outcome with
    | none => rw [q] at h1; cases h1
    | some o => cases o <;> first | rfl | (rw [q] at h1; cases h1)
  · split at h3
    · rename_i b1 e1 b2 e2 b3 e3 hs
      simp only [Bool.and_eq_true, beq_iff_eq] at h3
      exact ⟨b1, e1, b2, e2, b3, e3, hs, h3.1.1, h3.1.2, h3.2⟩
    · cases h3
theorem yes_opens : (URLS.all fun u => PARAMS.all fun p => ENDS.all fun t => yesChk (oTxt ⟨u, p, t⟩) u p t) = true := by decide +kernel
theorem yes_closes : (ENDS.all fun t => yesChk (Pc.text (.cls t)) (Str.ofString "") (Str.ofString "") t) = true := by decide +kernel
theorem yes_bad : yesChk (Pc.text .bad) (Str.ofString "") (Str.ofString "id=9") (Str.ofString "\u0007") = true := by decide +kernel
theorem no_rest : ([Pc.text .ab, Pc.text .sp, Pc.text .sgr, Pc.text .title, oTxt ⟨Str.ofString "u", Str.ofString "", Str.ofString "\u0007"⟩ ++ Str.ofString "x"].all fun x => isFailed (runFull x).outcome) = true := by decide +kernel
end Mine
end

-- part W46
section
open PySem PySem.W PyProof.Rows PySem.SeqAt
set_option Elab.async false
set_option linter.unusedVariables false
set_option maxRecDepth 100000
set_option pp.maxSteps 300
set_option pp.deepTerms false
namespace Mine
local macro_rules | `(tactic| got_up) => `(tactic| first
  | refine EV.localI 0 rfl (by rfl) rfl (by kernel_rfl) ?_ (by kernel_rfl)
  | refine EV.localI 1 rfl (by rfl) rfl (by kernel_rfl) ?_ (by kernel_rfl)
  | refine EV.localI 2 rfl (by rfl) rfl (by kernel_rfl) ?_ (by kernel_rfl)
  | refine EV.localI 3 rfl (by rfl) rfl (by kernel_rfl) ?_ (by kernel_rfl)
  | refine EV.localI 4 rfl (by rfl) rfl (by kernel_rfl) ?_ (by kernel_rfl)
  | refine EV.localI 5 rfl (by rfl) rfl (by kernel_rfl) ?_ (by kernel_rfl)
  | refine EV.localI 6 rfl (by rfl) rfl (by kernel_rfl) ?_ (by kernel_rfl))
local macro_rules | `(tactic| leaf_len) => `(tactic| first
  | refine EV.str ?_ | refine EV.int ?_ | refine EV.none ?_ | refine EV.bool ?_
  | refine EV.binop ?_ | refine EV.sub ?_ | refine EV.cmp ?_ | refine EV.ifexp ?_ | refine EV.tuple ?_ | refine EV.list ?_
  | refine EA.cons ?_ | refine EA.nil ?_
  | got_up
  | refine OS.tup (by decide) (by decide) rfl rfl ?_
  | refine OB.add_str ?_ ?_
  | refine OB.add ?_
  | refine OC.lt ?_ | refine OC.le ?_ | refine OC.gt ?_ | refine OC.ge ?_
  | refine XS.cons ?_ | refine X1.ret ?_ | refine X1.iff ?_ | refine XS.nil ?_
  | refine X1.assign (cxOf_env rfl rfl) (by kernel_rfl) rfl ?_
  | refine BT.cmp ?_)
def itAV (p : Str × Bool) : AV := .tup [.str p.1, .bool p.2]
def clsA : Str := Str.ofString "\u001b]8;;\u001b\\"
def clsB : Str := Str.ofString "\u001b]8;;\u0007"
def stC (t : Str) : Bool := Txt.startswith t clsA || Txt.startswith t clsB
inductive Trk (t : Str) : (AV → AV) → Prop
  | link {u p tm k mf} (F : FullYes t u p tm k mf) (hu : ((u.length : Int) != 0) = true) : Trk t (fun _ => .link u p tm)
  | close {u p tm k mf} (F : FullYes t u p tm k mf) (hu : ((u.length : Int) != 0) = false) (hs : stC t = true) : Trk t (fun _ => .none)
  | skip {u p tm k mf} (F : FullYes t u p tm k mf) (hu : ((u.length : Int) != 0) = false) (hs : stC t = false) : Trk t id
  | no {k mf} (hr : Sre.M.runFor k (Sre.forMatch opCode t.cps 3 0 t.cps.size true false) = mf) (hk : k < 2 ^ 60) (ho : mf.outcome = some .failed) (hs : stC t = false) : Trk t id

def trackP (f : Str → AV → AV) (st : AV) (its : List (Str × Bool)) : AV := its.foldl (fun s it => if it.2 then f it.1 s else s) st

theorem track_ct {w : World} {n : Nat} {D : List Addr} {G : Heap → Prop} {sv : AV} {x : Str} {st : AV} {its : List (Str × Bool)} {f : Str → AV → AV} (hx : x.cps.size ≤ 4000000) (hsg : Sg x 0 0 (its.map itAV))
    (hf : ∀ it ∈ its, it.2 = true → Trk it.1 (f it.1) ∧ it.1.cps.size ≤ 4000000) :
    CT PG w (KH w) (n + 130) D (.ref 373) [sv, .str x, st] G (fun a G' => a = trackP f st its ∧ G' = G) := by
  refine CT.def (o := Mine.hz.zo_347 w.params) (names := [Str.ofString "self", Str.ofString "text", Str.ofString "state"]) (by kernel_rfl) (hd := by rfl) (hb := by rfl) (by kernel_rfl) (hbind := ?_) (by decide +kernel) (by decide +kernel) rfl rfl rfl rfl ?_
  · intro vs s V X hr
    obtain ⟨v, vr, rfl, r1, v2, vr2, rfl, r2, v3, vr3, rfl, r3, rfl⟩ := hr
    exact BindsTo.of_eq rfl
  · intro A L O hA hD
    refine XS.cons (X1.expr rfl rfl (EV.str ?_))
    refine XS.cons (X1.forT (cxOf_env rfl rfl) hA.handled (by intro p hp; cases hp) (by intro _; rfl)
      (fun i m mc G' => G' = G ∧ List.lookup (Str.ofString "state") m = some (trackP f st (its.take i))) ?_)
    refine IT.gen (n := 20) 55 (by kernel_rfl) (by kernel_rfl) (by kernel_rfl) (hA.mono (by omega)) ?_
    repeat leaf_len
    refine ⟨_, iter_gct w (n := 10) hx hsg, ⟨rfl, by rfl⟩, fun i a m' mc' G' hia hinv W hW => ?_, fun m' mc' G' hinv => ?_⟩
    · obtain ⟨rfl, hst⟩ := hinv
      obtain ⟨it, hit, rfl⟩ : ∃ it, its[i]? = some it ∧ itAV it = a := by simpa [List.getElem?_map] using hia
      have hstep : trackP f st (its.take (i + 1)) = if it.2 then f it.1 (trackP f st (its.take i)) else trackP f st (its.take i) := by
        unfold trackP
        rw [List.take_add_one, hit]
        simp [List.foldl_append]
      obtain ⟨t, b⟩ := it
      have ok := (cxOf_ok (prog := PG) (w := w) (K := KH w) (fd := _) hA hD).wide (W := W) (fun I h hd => hW I h (List.mem_append_right _ hd))
      have z2 : 2 ≤ sizeLine := by decide
      have usz : ∀ {u p tm k mf}, t.cps.size ≤ 4000000 → FullYes t u p tm k mf → u.length ≤ sizeLine := fun {u p tm k mf} hsz F => by
        obtain ⟨b1, e1, b2, e2, b3, e3, hg, rfl, rfl, rfl⟩ := F.g
        show (t.cps.extract b2 e2).size ≤ _
        rw [Array.size_extract]; unfold sizeLine; omega
      refine ⟨_, TG.pair hA.handled (TG.name (EnvOk.wide (cxOf_env rfl rfl)) (by kernel_rfl)) (TG.name (EnvOk.wide (cxOf_env rfl rfl)) (by kernel_rfl)) rfl, ?_⟩
      refine XS.cons (X1.iff (BT.plain (EV.localI 0 rfl (by rfl) rfl (by kernel_rfl) ⟨b, rfl, (fun x e => by cases e), fun hb => ?_, fun hb => ?_⟩ (by kernel_rfl))))
      · obtain ⟨htrk, hsz⟩ := hf (t, b) (List.mem_of_getElem? hit) hb
        subst hb
        generalize hft : f t = g at htrk
        have hs2 : trackP f st (its.take (i + 1)) = g (trackP f st (its.take i)) := by rw [hstep, ← hft]; rfl
        refine XS.cons (X1.assign (EnvOk.wide (cxOf_env rfl rfl)) (by kernel_rfl) rfl ?_)
        refine EV.classMK 204 123 125 _ ok rfl (okParse w) rfl ?_
        refine EV.top (.ref 204) (by kernel_rfl) (by kernel_rfl) ⟨rfl, ?_⟩
        refine EA.cons (EV.localI 1 rfl (by rfl) rfl (by kernel_rfl) (EA.nil ?_) (by kernel_rfl))
        cases htrk with
        | link FF hu =>
          refine (parse_yes (n := n + 4) hsz FF).mono (Nat.le_refl _) ?_
          rintro a G' ⟨rfl, rfl⟩
          refine XS.cons (X1.iff (BT.and (BT.cmp ?_)))
          refine EV.localI 0 rfl (by rfl) rfl (by kernel_rfl) ?_ (by kernel_rfl)
          refine EV.none ?_
          refine OC.isNotNone rfl ⟨_, rfl, fun _ => ?_, fun h => (by cases h)⟩
          refine BT.and (BT.plain (EV.attr rfl ?_))
          refine EV.localI 0 rfl (by rfl) rfl (by kernel_rfl) ?_ (by kernel_rfl)
          refine link_attr (n := n + 6) 0 (by decide) 193 (.inl ⟨rfl, rfl⟩) rfl rfl ok (by kernel_rfl) ?_
          refine ⟨_, rfl, (fun y e => by cases e; exact usz hsz FF), ?_, ?_⟩
          · intro _
            refine BT.andNil ⟨fun _ => ?_, fun h => (by cases h)⟩
            refine XS.cons (X1.assign (EnvOk.wide (cxOf_env rfl rfl)) (by kernel_rfl) rfl ?_)
            refine EV.localI 0 rfl (by rfl) rfl (by kernel_rfl) ?_ (by kernel_rfl)
            repeat refine XS.nil ?_
            refine ⟨rfl, ?_⟩
            rw [hs2]
            exact lk_here (by rfl)
          · intro h; exact absurd (h.symm.trans hu) (by decide)
        | close FF hu hs =>
          refine (parse_yes (n := n + 4) hsz FF).mono (Nat.le_refl _) ?_
          rintro a G' ⟨rfl, rfl⟩
          refine XS.cons (X1.iff (BT.and (BT.cmp ?_)))
          refine EV.localI 0 rfl (by rfl) rfl (by kernel_rfl) ?_ (by kernel_rfl)
          refine EV.none ?_
          refine OC.isNotNone rfl ⟨_, rfl, fun _ => ?_, fun h => (by cases h)⟩
          refine BT.and (BT.plain (EV.attr rfl ?_))
          refine EV.localI 0 rfl (by rfl) rfl (by kernel_rfl) ?_ (by kernel_rfl)
          refine link_attr (n := n + 6) 0 (by decide) 193 (.inl ⟨rfl, rfl⟩) rfl rfl ok (by kernel_rfl) ?_
          refine ⟨_, rfl, (fun y e => by cases e; exact usz hsz FF), ?_, ?_⟩
          · intro h; exact absurd (h.symm.trans hu) (by decide)
          intro _
          refine ⟨fun h => (by cases h), fun _ => ?_⟩
          refine XS.cons (X1.iff (BT.plain ?_))
          refine EV.meth "str" "str.startswith" rfl rfl rfl PySem.F.plainAttrs_str F.slot_str_startswith F.type_str_startswith ?_
          refine EV.localI 2 rfl (by rfl) rfl (by kernel_rfl) ?_ (by kernel_rfl)
          refine ⟨fun v s x hv => (by obtain ⟨tk, rfl⟩ := hv; exact ⟨typeIs_str _ _ _, fun p e => by cases e⟩), CW.of rfl ?_⟩
          refine EA.cons (EV.tuple (EA.cons (EV.str (EA.cons (EV.str (EA.nil ⟨z2, EA.nil ?_⟩)))))) 
          refine OF.starts2 ⟨_, rfl, (fun x e => by cases e), fun _ => ?_, fun h => ?_⟩
          · refine XS.cons (X1.assign (EnvOk.wide (cxOf_env rfl rfl)) (by kernel_rfl) rfl (EV.none ?_))
            repeat refine XS.nil ?_
            refine ⟨rfl, ?_⟩
            rw [hs2]
            exact lk_here (by rfl)
          · exact absurd (h.symm.trans (show _ = true from hs)) (by decide)
        | skip FF hu hs =>
          refine (parse_yes (n := n + 4) hsz FF).mono (Nat.le_refl _) ?_
          rintro a G' ⟨rfl, rfl⟩
          refine XS.cons (X1.iff (BT.and (BT.cmp ?_)))
          refine EV.localI 0 rfl (by rfl) rfl (by kernel_rfl) ?_ (by kernel_rfl)
          refine EV.none ?_
          refine OC.isNotNone rfl ⟨_, rfl, fun _ => ?_, fun h => (by cases h)⟩
          refine BT.and (BT.plain (EV.attr rfl ?_))
          refine EV.localI 0 rfl (by rfl) rfl (by kernel_rfl) ?_ (by kernel_rfl)
          refine link_attr (n := n + 6) 0 (by decide) 193 (.inl ⟨rfl, rfl⟩) rfl rfl ok (by kernel_rfl) ?_
          refine ⟨_, rfl, (fun y e => by cases e; exact usz hsz FF), ?_, ?_⟩
          · intro h; exact absurd (h.symm.trans hu) (by decide)
          intro _
          refine ⟨fun h => (by cases h), fun _ => ?_⟩
          refine XS.cons (X1.iff (BT.plain ?_))
          refine EV.meth "str" "str.startswith" rfl rfl rfl PySem.F.plainAttrs_str F.slot_str_startswith F.type_str_startswith ?_
          refine EV.localI 2 rfl (by rfl) rfl (by kernel_rfl) ?_ (by kernel_rfl)
          refine ⟨fun v s x hv => (by obtain ⟨tk, rfl⟩ := hv; exact ⟨typeIs_str _ _ _, fun p e => by cases e⟩), CW.of rfl ?_⟩
          refine EA.cons (EV.tuple (EA.cons (EV.str (EA.cons (EV.str (EA.nil ⟨z2, EA.nil ?_⟩)))))) 
          refine OF.starts2 ⟨_, rfl, (fun x e => by cases e), fun h => ?_, fun _ => ?_⟩
          · exact absurd (h.symm.trans (show _ = false from hs)) (by decide)
          · repeat refine XS.nil ?_
            refine ⟨rfl, ?_⟩
            rw [hs2]
            exact (lk_skip (by rfl)).trans ((lk_skip (by rfl)).trans ((lk_skip (by rfl)).trans hst))
        | no hr hk ho hs =>
          refine (parse_no (n := n + 4) hsz hr hk ho).mono (Nat.le_refl _) ?_
          rintro a G' ⟨rfl, rfl⟩
          refine XS.cons (X1.iff (BT.and (BT.cmp ?_)))
          refine EV.localI 0 rfl (by rfl) rfl (by kernel_rfl) ?_ (by kernel_rfl)
          refine EV.none ?_
          refine OC.isNotNone rfl ⟨_, rfl, fun h => (by cases h), fun _ => ?_⟩
          refine ⟨fun h => (by cases h), fun _ => ?_⟩
          refine XS.cons (X1.iff (BT.plain ?_))
          refine EV.meth "str" "str.startswith" rfl rfl rfl PySem.F.plainAttrs_str F.slot_str_startswith F.type_str_startswith ?_
          refine EV.localI 2 rfl (by rfl) rfl (by kernel_rfl) ?_ (by kernel_rfl)
          refine ⟨fun v s x hv => (by obtain ⟨tk, rfl⟩ := hv; exact ⟨typeIs_str _ _ _, fun p e => by cases e⟩), CW.of rfl ?_⟩
          refine EA.cons (EV.tuple (EA.cons (EV.str (EA.cons (EV.str (EA.nil ⟨z2, EA.nil ?_⟩)))))) 
          refine OF.starts2 ⟨_, rfl, (fun x e => by cases e), fun h => ?_, fun _ => ?_⟩
          · exact absurd (h.symm.trans (show _ = false from hs)) (by decide)
          · repeat refine XS.nil ?_
            refine ⟨rfl, ?_⟩
            rw [hs2]
            exact (lk_skip (by rfl)).trans ((lk_skip (by rfl)).trans ((lk_skip (by rfl)).trans hst))
      · subst hb
        refine XS.nil (XS.nil ⟨rfl, ?_⟩)
        rw [hstep]
        exact (lk_skip (by rfl)).trans ((lk_skip (by rfl)).trans hst)
    · obtain ⟨rfl, hst⟩ := hinv
      refine XS.cons (X1.ret (EV.local rfl (by kernel_rfl) (a := trackP f st its) ?_ ⟨rfl, rfl⟩ (by kernel_rfl)))
      rw [List.length_map, List.take_length] at hst
      exact hst
end Mine
end

-- part W47
section
open PySem PySem.W PyProof.Rows
set_option Elab.async false
set_option linter.unusedVariables false
set_option maxRecDepth 100000
namespace Mine

theorem VRs.snoc {V : List Addr} {h : Heap} : ∀ {l : List AV} {ws : List Value} {b : AV} {u : Value}, VRs V h l ws → VR V h b u → VRs V h (l ++ [b]) (ws ++ [u])
  | [], ws, b, u, r, rb => by cases r; exact ⟨u, [], rfl, rb, rfl⟩
  | a :: l, ws, b, u, r, rb => by obtain ⟨v', vr, rfl, r1, r2⟩ := r; exact ⟨v', vr ++ [u], rfl, r1, VRs.snoc r2 rb⟩

section
variable {prog : Program} {w : World} {A : Around} {V W : List Addr} {n : Nat} {items : List AV} {I S : Addr} {St : Nat → Shared → Prop} {R : Result → Shared → Prop} {E : Value → Shared → Prop}

theorem Hp.upd {s : Shared} {D : List Addr} {S : Addr} (f : Obj → Obj) {o : Obj} (e : s.heap.get? S = some o) (hf : (f o).isFreed = false) (hS : S ∈ D) : Hp D s { s with heap := s.heap.update S f } :=
  ⟨fun b o' hb e' => (Heap.get?_update_other _ _ fun (q : S = b) => hb (q ▸ hS)).trans e', fun b o' e' => by
    by_cases q : b = S
    · subst q; exact ⟨_, Heap.get?_update_self f e hf⟩
    · exact ⟨o', (Heap.get?_update_other _ _ (Ne.symm q)).trans e'⟩⟩

theorem extend_loopG (src : SrcG prog w A.in1 V n items W (.ref I) St (fun i _ s => St i s)) (hn : items.length ≤ sizeLine) (hSV : S ∈ V) (hSW : S ∉ W) (res : Value) :
    ∀ (k i : Nat) (s : Shared) (vs : List Value) (c : Nat), items.length - i = k → i ≤ items.length → St i s → s.heap.get? S = some (LObj vs c) → VRs (W ++ V) s.heap (items.take i) vs → (∀ v ∈ W ++ V, ∃ o, s.heap.get? v = some o) →
    (∀ s' vs' c', Kp (S :: W) s s' → GXn n s.gens s'.gens → s'.os = s.os → s'.heap.get? S = some (LObj vs' c') → VRs (W ++ V) s'.heap items vs' → R (.ok (.ret res)) s') →
    codeAny (model prog w) A (.builtin "list.extend.loop" ⟨[.ref S, .ref I, res], []⟩) R s := by
  intro k
  induction k with
  | zero =>
    intro i s vs c hk hi hst hS hv lt hR
    have hin : i = items.length := by omega
    subst hin
    refine codeAny_builtin F.entry_extend_loop ?_
    rw [Around.under_plainId F.plain_extend_loop _]
    show wpAny _ A.in1 (pyNext (.ref I) >>= _) _ _ s
    refine wpAny_bind (wpAny_mono (src.done s (fun r s' => r = none ∧ Kp W s s' ∧ GXn n s.gens s'.gens ∧ s'.os = s.os) hst fun s' a b c => ⟨rfl, a, b, c⟩) ?_ (fun _ _ z => z.elim))
    rintro _ s' ⟨rfl, y, g, o⟩
    rw [List.take_length] at hv
    exact wpAny_pure (hR s' vs c (fun b o hb e => y b o (fun h => hb (List.mem_cons_of_mem _ h)) e) g o (y S _ hSW hS) (VRs.keeps (fun b o hb e => ⟨y b o (fun h => hb (List.mem_append_left _ h)) e, hb⟩) _ _ hv))
  | succ k ih =>
    intro i s vs c hk hi hst hS hv lt hR
    have hlt : i < items.length := by omega
    have hvl : vs.length = i := by rw [hv.length, List.length_take]; omega
    refine codeAny_builtin F.entry_extend_loop ?_
    rw [Around.under_plainId F.plain_extend_loop _]
    show wpAny _ A.in1 (pyNext (.ref I) >>= _) _ _ s
    refine wpAny_bind (wpAny_mono (src.item i items[i] s (fun r s' => ∃ v, r = some v ∧ VR (W ++ V) s'.heap items[i] v ∧ St (i + 1) s' ∧ Hp W s s' ∧ GXn n s.gens s'.gens ∧ s'.os = s.os) (List.getElem?_eq_getElem hlt) hst lt fun v s' a b c d e => ⟨v, rfl, a, b, c, d, e⟩) ?_ (fun _ _ z => z.elim))
    rintro _ s1 ⟨v, rfl, rv, hst1, y1, g1, o1⟩
    have hS1 := y1.keep S _ hSW hS
    have hv1 : VRs (W ++ V) s1.heap (items.take i) vs := VRs.keeps (fun b o hb e => ⟨y1.keep b o (fun h => hb (List.mem_append_left _ h)) e, hb⟩) _ _ hv
    show wpAny _ A.in1 (updateSeq S (·.push v) >>= _) _ _ _
    refine wpAny_bind ?_
    have y2 : Hp [S] s1 { s1 with heap := s1.heap.update S (Obj.mapSeq fun xs => xs.push v) } := Hp.upd _ hS1 rfl (List.mem_singleton.mpr rfl)
    have up := PySem.IsL.update (f := fun xs => xs.push v) (show PySem.IsL s1.heap S vs.toArray c from hS1)
    refine wpAny_updateSeq hS1 rfl (wpAny_pure ⟨plainId_quiet F.plain_extend_loop _, ih (i + 1) { s1 with heap := s1.heap.update S (Obj.mapSeq fun xs => xs.push v) } (vs ++ [v]) (if (vs.toArray.push v).size == vs.toArray.size then c else c + 1) (by omega) hlt
        (src.frame _ s1 _ (fun b o hb e => y2.keep b o (fun h => hb (List.mem_singleton.mp h ▸ hSV)) e) (.refl _) y2.there hst1) ?_ ?_ ?_ ?_⟩) ?_ ?_
    · have e : ∀ k, LObj (vs ++ [v]) k = ({ cls := .type "list", dict := none, data := .seq (vs.toArray.push v) k, slots := #[] } : Obj) := fun k => by simp [LObj]
      rw [e]
      exact up
    · have := VRs.snoc hv1 rv
      rw [List.take_add_one, List.getElem?_eq_getElem hlt]
      exact VRs.keeps (fun b o hb e => ⟨y2.keep b o (fun h => hb (List.mem_append_right _ (List.mem_singleton.mp h ▸ hSV))) e, hb⟩) _ _ this
    · intro v' hv'
      obtain ⟨o, e⟩ := lt v' hv'
      obtain ⟨o', e'⟩ := y1.there v' o e
      exact y2.there v' o' e'
    · intro s' vs' c' y3 g3 o3 hS' hv'
      refine hR s' vs' c' (fun b o hb e => y3 b o hb (y2.keep b o (fun h => hb (by rw [List.mem_singleton.mp h]; exact List.mem_cons_self ..)) (y1.keep b o (fun h => hb (List.mem_cons_of_mem _ h)) e))) (g1.trans g3) (o3.trans o1) hS' hv'
    · simp only [List.size_toArray]; omega
    · show (vs.toArray.push v).size ≤ sizeLine + 1
      simp only [Array.size_push, List.size_toArray]; omega

theorem list_initG {s : Shared} (src : SrcG prog w A.in1 V n items W (.ref I) St (fun i _ s => St i s)) (hT : ∀ s, St 0 s → s.TypeIs (.ref I) "generator") (hself : ∀ s (Q : Value → Shared → Prop) (E : Value → Shared → Prop), St 0 s → Q (.ref I) s → wpAny (model prog w) A.in1 (pyIter (.ref I)) Q E s)
    (hn : items.length ≤ sizeLine) (hSV : S ∈ V) (hSW : S ∉ W) (hSI : S ≠ I) (hst : St 0 s) (lt : ∀ v ∈ W ++ V, ∃ o, s.heap.get? v = some o) (hS : s.heap.get? S = some { cls := .type "list", data := .seq #[] })
    (hR : ∀ s' vs' c', Kp (S :: W) s s' → GXn n s.gens s'.gens → s'.os = s.os → s'.heap.get? S = some (LObj vs' c') → VRs (W ++ V) s'.heap items vs' → R (.ok (.ret .none)) s') :
    wpAny (model prog w) A.in1 (Builtin.«list.__init__» ⟨[.ref S, .ref I], []⟩)
      (fun fin s' => match fin with | .done f => R (.ok f) s' | .again c' => c'.quiet = true ∧ codeAny (model prog w) A c' R s') (fun e s' => R (.error e) s') s := by
  show wpAny _ A.in1 (do let old ← Builtin.List.listItems (.ref S); Builtin.List.listUpdate (.ref S) (fun _ => #[]); letGo old.toList.reverse; Builtin.List.listExtendWith (.ref S) (.ref I) .none) _ _ s
  refine wpAny_bind ?_
  unfold Builtin.List.listItems
  refine wpAny_bind (wpAny_seqItems hS rfl (wpAny_pure ?_))
  show wpAny _ A.in1 (updateSeq S (fun _ => #[]) >>= fun _ => letGo (#[] : Array Value).toList.reverse >>= fun _ => Builtin.List.listExtendWith (.ref S) (.ref I) .none) _ _ s
  refine wpAny_bind (wpAny_updateSeq hS rfl ?_)
  have hS₂ := Heap.get?_update_self (Obj.mapSeq (fun _ => (#[] : Array Value))) hS rfl
  have y1 : Hp [S] s { s with heap := s.heap.update S (Obj.mapSeq fun _ => (#[] : Array Value)) } := Hp.upd _ hS rfl (List.mem_singleton.mpr rfl)
  have fr : ∀ {s1 s2 : Shared}, Hp [S] s1 s2 → s2.gens = s1.gens → St 0 s1 → St 0 s2 := fun {s1 s2} y g x => src.frame _ s1 s2 (fun b o hb e => y.keep b o (fun h => hb (List.mem_singleton.mp h ▸ hSV)) e) (by rw [g]; exact .refl _) y.there x
  have hst1 := fr y1 rfl hst
  refine wpAny_bind (wpAny_letGo ?_)
  generalize hs1 : ({ s with heap := s.heap.update S (Obj.mapSeq fun _ => (#[] : Array Value)) } : Shared) = s1 at y1 hst1
  replace hS₂ : s1.heap.get? S = some { cls := .type "list", data := .seq #[] (if (#[] : Array Value).size == (#[] : Array Value).size then 0 else 1) } := by rw [← hs1]; exact hS₂
  have e1 : s1.gens = s.gens ∧ s1.os = s.os := by rw [← hs1]; exact ⟨rfl, rfl⟩
  clear hs1
  unfold Builtin.List.listExtendWith
  refine wpAny_bind (wpAny_typeOf (hT _ hst1) ?_)
  have h1 : Builtin.List.listSameRef (.ref S) (.ref I) = false := by simp [Builtin.List.listSameRef, hSI]
  have h2 : (Value.type "generator" == Value.type "list") = false := by decide
  have h3 : (Value.type "generator" == Value.type "tuple") = false := by decide
  simp only [h1, h2, h3, Bool.or_false, Bool.false_eq_true, if_false]
  refine wpAny_bind (hself _ _ _ hst1 ?_)
  refine wpAny_bind (wpAny_holding ?_)
  unfold Builtin.List.listLengthHint
  refine wpAny_bind (wpAny_specialOf (hT _ hst1) F.gen_no_len ?_)
  show wpAny _ A.in1 (specialOf (Value.ref I) (Str.ofString "__length_hint__") >>= _) _ _ _
  refine wpAny_bind (wpAny_specialOf (hT _ hst1) F.gen_no_hint ?_)
  refine wpAny_pure ?_
  show wpAny _ A.in1 (rule "list.extend.makes-room" >>= fun _ => Builtin.List.listTouch (.ref S) >>= fun _ =>
    again (.builtin "list.extend.loop" ⟨[.ref S, .ref I, .none], []⟩)) _ _ _
  refine wpAny_bind (wpAny_rule ?_)
  refine wpAny_bind ?_
  show wpAny _ A.in1 (updateSeq S (·.push .none) >>= fun _ => updateSeq S (·.pop)) _ _ _
  refine wpAny_bind (wpAny_updateSeq hS₂ rfl ?_)
  have hS₃ := Heap.get?_update_self (Obj.mapSeq (·.push Value.none)) hS₂ rfl
  refine wpAny_updateSeq (hz := by seq_fits) hS₃ rfl ?_
  have hS₄ := Heap.get?_update_self (Obj.mapSeq (·.pop)) hS₃ rfl
  have y2 : Hp [S] s1 { s1 with heap := s1.heap.update S (Obj.mapSeq (·.push Value.none)) } := Hp.upd _ hS₂ rfl (List.mem_singleton.mpr rfl)
  have y3 : Hp [S] { s1 with heap := s1.heap.update S (Obj.mapSeq (·.push Value.none)) } { s1 with heap := (s1.heap.update S (Obj.mapSeq (·.push Value.none))).update S (Obj.mapSeq (·.pop)) } := Hp.upd (s := { s1 with heap := s1.heap.update S (Obj.mapSeq (·.push Value.none)) }) _ hS₃ rfl (List.mem_singleton.mpr rfl)
  have yy := y1.trans (y2.trans y3)
  refine wpAny_pure ⟨plainId_quiet F.plain_extend_loop _, extend_loopG src hn hSV hSW _ items.length 0 _ [] _ (by omega) (Nat.zero_le _) (fr y3 rfl (fr y2 rfl hst1)) hS₄ rfl (fun v hv => ?_) fun s' vs' c' y g o hS' hv' => ?_⟩
  · obtain ⟨o, e⟩ := lt v hv
    exact yy.there v o e
  · exact hR s' vs' c' (fun b o hb e => y b o hb (yy.keep b o (fun h => hb (by rw [List.mem_singleton.mp h]; exact List.mem_cons_self ..)) e)) (by rw [← e1.1]; exact g) (by rw [← e1.2]; exact o) hS' hv'
end
end Mine
end

-- part W48
section
open PySem PySem.W PyProof.Rows
set_option Elab.async false
set_option linter.unusedVariables false
set_option maxRecDepth 100000
namespace Mine

def numAV (items : List AV) : List AV := items.zipIdx.map fun p => .tup [.int (p.2 : Int), p.1]

structure EnSt (V : List Addr) (e it l : Addr) (vs : List Value) (n : Nat) (items : List AV) (i : Nat) (s : Shared) : Prop where
  en : ∃ old, IsEnum s.heap e it (i : Int) old
  li : s.heap.IsListIter it l i
  ls : s.heap.get? l = some (LObj vs n)
  vr : VRs ([e, it] ++ V) s.heap items vs
structure EnMid (V : List Addr) (e it l : Addr) (vs : List Value) (n : Nat) (items : List AV) (i : Nat) (v : Value) (s : Shared) : Prop where
  en : ∃ x T, v = .ref T ∧ IsEnumOut s.heap e it (i : Int) x T
  li : s.heap.IsListIter it l i
  ls : s.heap.get? l = some (LObj vs n)
  vr : VRs ([e, it] ++ V) s.heap items vs

theorem EnSt.src {prog : Program} {w : World} {A : Around} {V : List Addr} {e it l : Addr} {vs : List Value} {n k : Nat} {items : List AV} (hh : A.handled = none) (hei : e ≠ it) (hle : l ≠ e) (hli : l ≠ it) (heV : e ∉ V) (hiV : it ∉ V) (hlV : l ∉ V) :
    SrcG prog w A V k (numAV items) [e, it] (.ref e) (EnSt V e it l vs n items) (EnMid V e it l vs n items) where
  frame := fun i s s' kp gx th x => ⟨let ⟨old, h⟩ := x.en; ⟨old, kp _ _ heV h⟩, x.li.at fun o q => kp _ _ hiV q, kp _ _ hlV x.ls, VRs.keeps (fun b o hb q => ⟨kp b o (fun h => hb (List.mem_append_right _ h)) q, hb⟩) _ _ x.vr⟩
  item := fun i a s Q hia x lt hQ => by
    obtain ⟨old, he⟩ := x.en
    have hia' : ∃ b, items[i]? = some b ∧ a = .tup [.int (i : Int), b] := by
      unfold numAV at hia
      rw [List.getElem?_map, List.getElem?_zipIdx] at hia
      cases q : items[i]? with
      | none => rw [q] at hia; cases hia
      | some b => rw [q] at hia; simp at hia; exact ⟨b, rfl, hia.symm⟩
    obtain ⟨b, hb, rfl⟩ := hia'
    obtain ⟨v, hv, rv⟩ := x.vr.get hb
    have hl : s.heap.IsList l vs.toArray := ⟨_, x.ls, rfl, n, rfl⟩
    refine wpAny_pyNext_enum_item he x.li hl (x := v) (by simpa using hv) hei fun h' he' hit' ht' hz' hk' => ?_
    have kp : ∀ b o, b ∉ [e, it] → s.heap.get? b = some o → h'.get? b = some o := fun b o hb q => hk' b o (fun q => hb (by simp [q])) (fun q => hb (by simp [q])) q
    have nT : s.heap.objs.size ∉ [e, it] ++ V := fun h => by obtain ⟨o, q⟩ := lt _ h; exact Nat.lt_irrefl _ (Heap.lt_size q)
    have keepV : ∀ {l : List AV} {ws : List Value}, VRs ([e, it] ++ V) s.heap l ws → VRs ([e, it] ++ V) h' l ws := fun {l ws} r => VRs.keeps (fun b o hb q => ⟨kp b o (fun h => hb (List.mem_append_left _ h)) q, hb⟩) _ _ r
    have rv' : VR ([e, it] ++ V) h' b v := VR.keeps (fun b o hb q => ⟨kp b o (fun h => hb (List.mem_append_left _ h)) q, hb⟩) _ _ rv
    refine hQ _ _ ⟨_, [.int i s.toks, v], 0, rfl, nT, ht', _, _, rfl, ⟨_, rfl⟩, v, [], rfl, rv', rfl⟩ ⟨⟨v, _, rfl, he'⟩, hit', hk' _ _ hle hli x.ls, keepV x.vr⟩ ⟨kp, fun b o q => ?_⟩ (GXn.refl _ _) rfl
    by_cases q1 : b = e
    · subst q1; exact ⟨_, he'⟩
    by_cases q2 : b = it
    · subst q2; obtain ⟨o', h, _⟩ := hit'; exact ⟨o', h⟩
    exact ⟨o, hk' b o q1 q2 q⟩
  go := fun i v s elts kk pos Q x hQ => by
    obtain ⟨y, T, rfl, he⟩ := x.en
    refine wpAny_letOwnedTupleGo_enum he fun h' he' hs' => ?_
    have kp : ∀ b o, b ≠ e → s.heap.get? b = some o → h'.get? b = some o := hs'.extBut
    refine hQ _ ⟨⟨_, he'⟩, x.li.at fun o q => kp _ _ hei.symm q, kp _ _ hle x.ls, VRs.keeps (fun b o hb q => ⟨kp b o (fun h => hb (by simp [h])) q, hb⟩) _ _ x.vr⟩ ⟨fun b o hb q => kp b o (fun h => hb (by simp [h])) q, fun b o q => ?_⟩ (GXn.refl _ _) rfl
    by_cases q1 : b = e
    · subst q1; exact ⟨_, he'⟩
    exact ⟨o, kp b o q1 q⟩
  done := fun s Q x hQ => by
    obtain ⟨old, he⟩ := x.en
    have hl : s.heap.IsList l vs.toArray := ⟨_, x.ls, rfl, n, rfl⟩
    have hlen : (numAV items).length = vs.length := by unfold numAV; rw [x.vr.length]; simp
    rw [hlen] at he
    have li := x.li
    rw [hlen] at li
    refine wpAny_pyNext_enum_end hh he li hl (by simp) fun h' hb => hQ _ (fun b o hb' q => hb b o (fun h => hb' (by simp [h])) q) (GXn.refl _ _) rfl

theorem IT.enum {c : Cx} {m mc : LM} {G : Heap → Prop} {id : Str} {p pos : Pos} {e1 : Expr} {K : List AV → (Heap → Prop) → Prop} (hf : peek c.K ⟨c.prog, c.w.params⟩ (loadName c.env id) = some (.type "enumerate"))
    (hd : (id == ("__debug__" : Str)) = false) (hA : c.A.handled = none) (hplain : (backTo pos (starEach [e1] c.env)).any (·.1) = false)
    (h : EA c m mc G pos [e1] fun as G1 => ∃ items, as = [.lst items] ∧ K (numAV items) G1) : IT c m mc G (.Call (.Name id p) [e1] [] pos) K := ⟨fun s x => by
  rw [arm_eval_Call_Name']
  refine wpAny_bind (wpAny_Name ((Looks.of_peek (M := c.M) x.gd.k hf).here ?_) hd)
  refine PySem.callWith_type hplain (evalArgs_any hplain (wpAny_imp (h.run s x) ?_))
  rintro vs s2 ⟨as, G2, rs, x2, y2, items, rfl, hK⟩
  obtain ⟨v, vr, rfl, ⟨l, us, n, rfl, hlV, ho, hus⟩, rfl⟩ := rs
  refine call_enumerate_list ⟨_, ho, rfl, n, rfl⟩ fun h' he hli hz keep => ?_
  have st : Stp [] s2 { s2 with heap := h' } := Stp.grow keep rfl rfl
  have n1 : s2.heap.get? s2.heap.objs.size = none := get_ge (Nat.le_refl _)
  have n2 : s2.heap.get? (s2.heap.objs.size + 1) = none := get_ge (Nat.le_succ _)
  have nn : ∀ I ∈ [s2.heap.objs.size + 1, s2.heap.objs.size], s2.heap.get? I = none := fun I hi => by
    rcases List.mem_cons.mp hi with q | hi
    · rw [q]; exact n2
    · rw [List.mem_singleton.mp hi]; exact n1
  obtain ⟨x3, hWV⟩ := x2.wide (W := [s2.heap.objs.size + 1, s2.heap.objs.size]) st.hp nn (fun I hi => by
    rcases List.mem_cons.mp hi with q | hi
    · rw [q]; exact ⟨_, he⟩
    · rw [List.mem_singleton.mp hi]; obtain ⟨o, e, _⟩ := hli; exact ⟨o, e⟩)
  have lne : ∀ I, s2.heap.get? I = none → l ≠ I := fun I e q => by rw [q, e] at ho; cases ho
  refine wpAny_pyIter_enum he ⟨numAV items, _, EnSt c.V (s2.heap.objs.size + 1) s2.heap.objs.size l us n items, EnMid c.V (s2.heap.objs.size + 1) s2.heap.objs.size l us n items, G2,
    EnSt.src hA (Nat.succ_ne_self _) (lne _ n2) (lne _ n1) (hWV _ (by simp)) (hWV _ (by simp)) hlV, ⟨⟨_, he⟩, hli, keep _ _ ho, ?_⟩, x3, fun I hi => ⟨hWV I hi, ?_⟩, y2.trans (st.mono (by simp)), hK⟩
  · exact VRs.keeps (fun b o hb e => ⟨keep b o e, fun h => by
      rcases List.mem_append.mp h with h | h
      · rw [nn b h] at e; cases e
      · exact hb h⟩) _ _ hus
  · cases q : s.heap.get? I with
    | none => rfl
    | some o => obtain ⟨o', e⟩ := y2.there I o q; rw [nn I hi] at e; cases e⟩
end Mine
end

-- part W49
section
open PySem PySem.W PyProof.Rows
set_option Elab.async false
set_option linter.unusedVariables false
set_option maxRecDepth 100000
namespace Mine

theorem EV.listGen {c : Cx} {m mc : LM} {G : Heap → Prop} {id id2 : Str} {p p2 pos pos2 : Pos} {e1 : Expr} {args : List Expr} {K : AK} {n : Nat} (f : Addr) (E : EnvOk c) (hcl : ∀ p ∈ c.env.cells, p.2 ∈ c.V)
    (hf : peek c.K ⟨c.prog, c.w.params⟩ (loadName c.env id) = some (.type "list")) (hd : (id == ("__debug__" : Str)) = false)
    (hf2 : peek c.K ⟨c.prog, c.w.params⟩ (loadName c.env id2) = some (.ref f)) (hk : fnIn c.K f = true) (hd2 : (id2 == ("__debug__" : Str)) = false) (hA : AOk c.A (n + 2))
    (h : EA c m mc G pos2 (e1 :: args) fun as G1 => ∃ items, GCT c.prog c.w c.K n (.ref f) as items ∧ items.length ≤ sizeLine ∧ K (.lst items) G1)
    (he : starEach (e1 :: args) c.env = (false, eval e1 c.env) :: starEach args c.env := by rfl)
    (he2 : backTo pos (starEach [.Call (.Name id2 p2) (e1 :: args) [] pos2] c.env) = [(false, eval (.Call (.Name id2 p2) (e1 :: args) [] pos2) c.env)] := by rfl) :
    EV c m mc G (.Call (.Name id p) [.Call (.Name id2 p2) (e1 :: args) [] pos2] [] pos) K := ⟨fun s x => by
  rw [arm_eval_Call_Name']
  refine wpAny_bind (wpAny_Name ((Looks.of_peek (M := c.M) x.gd.k hf).here ?_) hd)
  rw [he2]
  refine PySem.callWith_type rfl (evalArgs_any rfl ?_)
  refine Calls.spliced_cons ?_
  rw [arm_eval_Call_Name']
  refine wpAny_bind (wpAny_Name ((Looks.of_peek (M := c.M) x.gd.k hf2).here ?_) hd2)
  unfold fnIn at hk
  split at hk
  · rename_i oc od fd osl ho
    refine Calls.callWith_function (o := ⟨oc, od, .func fd, osl⟩) (fd := fd) ?_
    have h' := h.run s x
    rw [he] at h' ⊢
    refine Calls.evalArgs_plain (wpAny_imp h' ?_)
    rintro vs s2 ⟨as, G2, rs, x2, y2, items, hct, hlen, hK⟩
    refine ⟨⟨x2.gd.k _ _ ho, rfl⟩, ?_⟩
    refine wpAny_call (codeAny_mono (hct c.A (hA.mono (by omega)) c.V vs s2 x2.gd rs) ?_)
    rintro r s3 ⟨a, L, g, rfl, hg, ha, hL, hLt, y3, mk⟩
    refine Calls.spliced_nil ?_
    have hS3 : s3.heap.get? s3.heap.objs.size = Option.none := get_fresh _
    have hS2 : s2.heap.get? s3.heap.objs.size = Option.none := by
      cases q : s2.heap.get? s3.heap.objs.size with
      | none => rfl
      | some o => obtain ⟨o', e⟩ := y3.there _ o q; rw [hS3] at e; cases e
    have hLS : L ≠ s3.heap.objs.size := fun q => by obtain ⟨o, e⟩ := hLt; rw [q, hS3] at e; cases e
    have haS : a ≠ s3.heap.objs.size := fun q => by obtain ⟨o, _, _, e, _⟩ := hg; rw [q, hS3] at e; cases e
    refine callType_codes (Q₁ := fun obj s₁ => obj = .ref s3.heap.objs.size ∧ s₁ = { s3 with heap := s3.heap.push { cls := .type "list", data := .seq #[] } }) F.called_list (F.typeCall_list_1 _) F.entry_list_init
      (code_list_new _ ⟨rfl, rfl⟩) fun obj s₁ h₁ => ?_
    obtain ⟨rfl, rfl⟩ := h₁
    have hS : (s3.heap.push { cls := .type "list", data := .seq #[] }).get? s3.heap.objs.size = some { cls := .type "list", data := .seq #[] } := Heap.get?_push_size _ rfl
    refine ⟨⟨_, hS, rfl⟩, F.args_list_init_2 _ _, ?_⟩
    have y4 : Stp [] s3 { s3 with heap := s3.heap.push { cls := .type "list", data := .seq #[] } } := .push _ _
    generalize hs4 : ({ s3 with heap := s3.heap.push { cls := .type "list", data := .seq #[] } } : Shared) = s4 at *
    have hS4 : s4.heap.get? s3.heap.objs.size = some { cls := .type "list", data := .seq #[] } := by rw [← hs4]; exact hS
    have g4 : s4.gens = s3.gens := by rw [← hs4]
    clear hs4 hS
    generalize hSS : s3.heap.objs.size = S at *
    have fresh2 : ∀ I ∈ [S, L], s2.heap.get? I = Option.none := fun I hi => by
      rcases List.mem_cons.mp hi with q | hi
      · rw [q]; exact hS2
      · rw [List.mem_singleton.mp hi]; exact hL
    obtain ⟨x4, hWV⟩ := x2.wide (W := [S, L]) (y3.trans y4).hp fresh2 (fun I hi => by
      rcases List.mem_cons.mp hi with q | hi
      · rw [q]; exact ⟨_, hS4⟩
      · rw [List.mem_singleton.mp hi]; obtain ⟨o, e⟩ := hLt; exact ⟨o, y4.keep _ _ (by simp) e⟩)
    have hSV : S ∉ c.V := hWV S (by simp)
    have hLV : L ∉ c.V := hWV L (by simp)
    have haV : a ∉ c.V := fun h => by obtain ⟨o, e⟩ := x2.gd.lt a h; rw [ha] at e; cases e
    have sub : ∀ v ∈ S :: c.V, v ∈ (c.wide [S, L]).V := fun v hv => by
      rcases List.mem_cons.mp hv with q | hv
      · rw [q]; exact Cx.wide_V.mpr (.inl (by simp))
      · exact Cx.wide_V.mpr (.inr hv)
    have gd4 : Gd c.K (S :: c.V) s4 := ⟨x4.gd.k, x4.gd.nl, fun v hv => x4.gd.hi v (sub v hv), fun v hv => x4.gd.lt v (sub v hv)⟩
    obtain ⟨St, src, hst, hgen⟩ := mk c.A.in1.in1 (S :: c.V) s4 ((hA.in1).in1) gd4 (fun h => by
        rcases List.mem_cons.mp h with q | h
        · exact hLS q
        · exact hLV h) (fun h => by
        rcases List.mem_cons.mp h with q | h
        · exact haS q
        · exact haV h) (fun b hb => by
        rcases List.mem_cons.mp hb with q | h
        · rw [q]; exact .inr hS2
        · exact .inl h) (fun b o e => y4.keep b o (by simp) e) g4
    have hy5 : ∀ s5 vs' c', Kp (S :: [L]) s4 s5 → GXn s2.gens.size s4.gens s5.gens → s5.os = s4.os → s5.heap.get? S = some (LObj vs' c') → VRs ([L] ++ S :: c.V) s5.heap items vs' →
        ∃ a G', VR c.V s5.heap a (.ref S) ∧ At c m mc G' s5 ∧ Stp c.D s s5 ∧ K a G' := fun s5 vs' c' k5 g5 o5 hS5 hv5 => by
      have x5 := x4.leaveK hWV E.own (fun p hp q => hWV _ q (hcl p hp)) k5
      refine ⟨.lst items, G2, ⟨S, vs', c', rfl, hSV, hS5, VRs.keeps (fun b o hb e => ⟨e, fun h => hb (List.mem_append_right _ (List.mem_cons_of_mem _ h))⟩) _ _ hv5⟩, x5, ?_, hK⟩
      have st4 : Stp c.D s s4 := y2.trans ((y3.trans y4).mono (by simp))
      have oldW : ∀ b o, s.heap.get? b = some o → b ∉ [S, L] := fun b o e hb => by
        obtain ⟨o', e'⟩ := y2.there b o e
        rw [fresh2 b hb] at e'; cases e'
      exact ⟨fun b o hb e => k5 b o (oldW b o e) (st4.keep b o hb e), fun b o e => by
        have hb := oldW b o e
        obtain ⟨o', e'⟩ := st4.there b o e
        exact ⟨o', k5 b o' hb e'⟩, st4.gens.thenN ⟨fun i hi => g5.1 i (Nat.lt_of_lt_of_le hi y2.gens.size), g5.2⟩, o5.trans st4.os⟩
    refine list_initG (A := c.A.in1) src (fun s h => (hgen 0 s h).typeIs) (fun s Q E h hq => wpAny_pyIter_gen (hgen 0 s h) hq) hlen (List.mem_cons_self ..) (fun h => hLS (List.mem_singleton.mp h).symm) haS.symm hst ?_ hS4 ?_
    · intro v hv
      rcases List.mem_append.mp hv with h | h
      · exact x4.gd.lt v (Cx.wide_V.mpr (.inl (by rw [List.mem_singleton.mp h]; simp)))
      · exact gd4.lt v h
    · intro s5 vs' c' k5 g5 o5 hS5 hv5
      exact ⟨rfl, hy5 s5 vs' c' k5 g5 o5 hS5 hv5⟩
  · cases hk⟩
end Mine
end

-- part W50
section
open PySem PySem.W PyProof.Rows
set_option Elab.async false
set_option linter.unusedVariables false
set_option maxRecDepth 100000
namespace Mine

section
variable {c : Cx} {m mc : LM} {G : Heap → Prop} {K : AK}

theorem OF.rstrip {x : Str} (hz : x.length ≤ sizeLine) (k : K (.str (Txt.rstrip x)) G) : OF c m mc G (.builtin "str.rstrip") [.str x] K := ⟨fun vs s at0 r => by
  obtain ⟨v, vr, rfl, ⟨t, rfl⟩, rfl⟩ := r
  exact SC.rstrip (fun t' k' => ⟨.str _, G, ⟨t', rfl⟩, at0.pure (.toks s k'), .toks s k', k⟩) hz⟩

theorem VRs.toStrs {V : List Addr} {h : Heap} : ∀ {xs : List Str} {vs : List Value}, VRs V h (xs.map .str) vs → ∃ l : List (Str × Tok), vs = strValues l ∧ l.map (·.1) = xs
  | [], vs, r => by cases r; exact ⟨[], rfl, rfl⟩
  | x :: xs, vs, ⟨v, vr, e, ⟨t, e2⟩, y⟩ => by
    obtain ⟨l, h1, h2⟩ := VRs.toStrs y
    subst e e2 h1
    exact ⟨(x, t) :: l, rfl, by simp [h2]⟩

theorem OF.join {x : Str} {xs : List Str} (hok : JoinOk x xs = true) (k : K (.str (Txt.join x xs)) G) : OF c m mc G (.builtin "str.join") [.str x, .lst (xs.map .str)] K := ⟨fun vs s at0 r => by
  obtain ⟨v, vr, rfl, ⟨t, rfl⟩, v2, vr2, rfl, ⟨p, us, n, rfl, hp, ho, hl⟩, rfl⟩ := r
  obtain ⟨l, rfl, e⟩ := hl.toStrs
  exact SC.join (D := p) (l := l) (texts := xs) ⟨_, ho, rfl, n, rfl⟩ e hok fun t' k' => ⟨.str _, G, ⟨t', rfl⟩, at0.pure (.toks s k'), .toks s k', k⟩⟩

/-- an item is laid to the end of a list that may be turned -/
theorem OF.append {l : Addr} {a : AV} {G2 : Heap → Prop} (hl : l ∈ c.D)
    (hG : ∀ s v, At c m mc G s → VR c.V s.heap a v → ∃ vs n, s.heap.get? l = some (LObj vs n) ∧ vs.length ≤ sizeLine ∧
      (∀ h' n', h'.get? l = some (LObj (vs ++ [v]) n') → (∀ b o, b ≠ l → s.heap.get? b = some o → h'.get? b = some o) → GB c.O G2 h')) (k : K .none G2) :
    OF c m mc G (.builtin "list.append") [.raw (.ref l), a] K := ⟨fun vs s at0 r => by
  obtain ⟨v, vr, rfl, rfl, v2, vr2, rfl, r2, rfl⟩ := r
  obtain ⟨us, n, ho, hz, hg⟩ := hG s v2 at0 r2
  refine call_meets F.slot_list_append ⟨_, ho, rfl⟩ F.entry_list_append (F.args_list_append_2 _ _) (list_append l us.toArray n v2 (by simpa using hz)) ⟨ho, ?_⟩
  have hfr : ∀ o, s.heap.get? l = some o → (Obj.mapSeq (fun xs => xs.push v2) o).isFreed = false := fun o e => by rw [ho] at e; cases e; rfl
  have st : Stp c.D s { s with heap := s.heap.update l (Obj.mapSeq fun xs => xs.push v2) } := Stp.upd (c := c) _ hfr hl
  have up := PySem.IsL.update (f := fun xs => xs.push v2) (show PySem.IsL s.heap l us.toArray n from ho)
  refine ⟨.none, G2, rfl, at0.step st (hg _ (if (us.toArray.push v2).size == us.toArray.size then n else n + 1) ?_ fun b o hb e => (Heap.get?_update_other _ _ (Ne.symm hb)).trans e), st, k⟩
  have e : ∀ k, LObj (us ++ [v2]) k = ({ cls := .type "list", dict := none, data := .seq (us.toArray.push v2) k, slots := #[] } : Obj) := fun k => by simp [LObj]
  rw [e]
  exact up⟩
end

theorem At.weak {c : Cx} {m mc : LM} {G G2 : Heap → Prop} {s : Shared} (x : At c m mc G s) (h : ∀ h, G h → G2 h) : At c m mc G2 s := ⟨x.loc, x.cel, x.locD, fun h' k => h _ (x.g h' k), x.gd⟩
theorem X1.weak {c : Cx} {m mc : LM} {G G2 : Heap → Prop} {st : Stmt} {KF : FK} (h : ∀ h, G h → G2 h) (x : X1 c m mc G2 st KF) : X1 c m mc G st KF := ⟨fun s a => x.run s (a.weak h)⟩
theorem XS.weak {c : Cx} {m mc : LM} {G G2 : Heap → Prop} {st : List Stmt} {KF : FK} (h : ∀ h, G h → G2 h) (x : XS c m mc G2 st KF) : XS c m mc G st KF := ⟨fun s a => x.run s (a.weak h)⟩
theorem XS.norm {c : Cx} {m m0 mc : LM} {G : Heap → Prop} {st : List Stmt} {KF : FK} (x : XS c m0 mc G st KF) (h : ∀ n a, m0.lookup n = some a → m.lookup n = some a) : XS c m mc G st KF := ⟨fun s a => x.run s (a.norm h)⟩

def LsAt (V : List Addr) (r : Addr) (its : List AV) (h : Heap) : Prop := ∃ vs n, h.get? r = some (LObj vs n) ∧ VRs V h its vs

/-- a frame in which just D0 and a new list r may be turned -/
def Cx.fr (c : Cx) (D0 : List Addr) (r : Addr) : Cx := { c with outer := c.outer ++ c.D.filter (fun b => decide (b ∉ D0)), D := r :: D0 }
theorem Cx.fr_O {c : Cx} {D0 : List Addr} {r b : Addr} : b ∈ (c.fr D0 r).O ↔ b ∈ c.O ∨ (b ∈ c.D ∧ b ∉ D0) := by
  unfold Cx.fr Cx.O
  simp only [List.mem_append, List.mem_filter, decide_eq_true_eq]
  constructor
  · rintro (h | h | h)
    · exact .inl (.inl h)
    · exact .inl (.inr h)
    · exact .inr h
  · rintro ((h | h) | h)
    · exact .inl h
    · exact .inr (.inl h)
    · exact .inr (.inr h)
theorem Cx.fr_V {c : Cx} {D0 : List Addr} {r b : Addr} (h0 : ∀ b ∈ D0, b ∈ c.D) : b ∈ (c.fr D0 r).V ↔ b = r ∨ b ∈ c.V := by
  unfold Cx.V
  rw [List.mem_append, Cx.fr_O, List.mem_append]
  show (b ∈ c.O ∨ (b ∈ c.D ∧ b ∉ D0)) ∨ b ∈ r :: D0 ↔ _
  rw [List.mem_cons]
  constructor
  · rintro ((h | h) | h | h)
    · exact .inr (.inl h)
    · exact .inr (.inr h.1)
    · exact .inl h
    · exact .inr (.inr (h0 b h))
  · rintro (h | h | h)
    · exact .inr (.inl h)
    · exact .inl (.inl h)
    · by_cases q : b ∈ D0
      · exact .inr (.inr q)
      · exact .inl (.inr ⟨h, q⟩)
theorem CxOk.fr {c : Cx} {n : Nat} {D0 : List Addr} {r : Addr} (ok : CxOk c n) (h0 : ∀ b ∈ D0, b ∈ c.D) (hr : r ∉ c.V) : CxOk (c.fr D0 r) n := ⟨ok.a, fun d hd h => by
  rcases List.mem_cons.mp hd with rfl | hd
  · rcases Cx.fr_O.mp h with h | h
    · exact hr (List.mem_append_left _ h)
    · exact hr (List.mem_append_right _ h.1)
  · rcases Cx.fr_O.mp h with h | h
    · exact ok.d d (h0 d hd) h
    · exact h.2 hd⟩
theorem EnvOk.fr {c : Cx} {D0 : List Addr} {r : Addr} (E : EnvOk c) : EnvOk (c.fr D0 r) := ⟨E.own, E.cells, E.kind⟩

theorem At.fr {c : Cx} {m mc : LM} {G G1 : Heap → Prop} {s s' : Shared} {n : Nat} {D0 : List Addr} {r : Addr} (ok : CxOk c n) (x : At c m mc G s) (y : Stp [] s s') (h0 : ∀ b ∈ D0, b ∈ c.D) (hG : ∀ h, G h → G1 h) (hL : Loc D0 G1) (hn : s.heap.get? r = none) (hr : s'.heap.get? r = some (LObj [] 0)) :
    At (c.fr D0 r) m mc (fun h => G1 h ∧ h.get? r = some (LObj [] 0)) s' := by
  have hrV : r ∉ c.V := fun h => by obtain ⟨o, e⟩ := x.gd.lt r h; rw [hn] at e; cases e
  have old : ∀ b o, s.heap.get? b = some o → b ≠ r := fun b o e q => by rw [q, hn] at e; cases e
  have fV : ∀ {b}, b ∈ (c.fr D0 r).V ↔ b = r ∨ b ∈ c.V := Cx.fr_V h0
  have rr : ∀ {a v}, VR c.V s.heap a v → VR (c.fr D0 r).V s'.heap a v := fun {a v} q => VR.keeps (fun b o hb e => ⟨y.keep b o (by simp) e, fun h => by
    rcases fV.mp h with q | h
    · exact old b o e q
    · exact hb h⟩) a v q
  have rO : ∀ b ∈ r :: D0, b ∉ (c.fr D0 r).O := (CxOk.fr ok h0 hrV).d
  refine ⟨?_, ?_, ?_, fun h' k => ⟨?_, k r _ (rO r (List.mem_cons_self ..)) hr⟩, ?_⟩
  · obtain ⟨f, ⟨o, es, ep, ho, q⟩, h⟩ := x.loc
    exact ⟨f, ⟨o, es, ep, y.keep _ _ (by simp) ho, q⟩, fun n a e => let ⟨v, e1, e2⟩ := h n a e; ⟨v, e1, rr e2⟩⟩
  · intro n a e
    obtain ⟨b, v, h1, h2, ⟨o, ho, hd⟩, h3⟩ := x.cel n a e
    exact ⟨b, v, h1, fun h => by
      rcases List.mem_cons.mp h with q | h
      · exact old b o ho q
      · exact h2 (h0 b h), ⟨o, y.keep _ _ (by simp) ho, hd⟩, rr h3⟩
  · intro h
    obtain ⟨f, ⟨o, es, ep, ho, q⟩, _⟩ := x.loc
    rcases List.mem_cons.mp h with q | h
    · exact old _ o ho q
    · exact x.locD (h0 _ h)
  · have g1 : G1 s'.heap := hG _ (x.g _ fun b o _ e => y.keep b o (by simp) e)
    exact hL.loc _ _ (fun b hb o e => k b o (rO b (List.mem_cons_of_mem _ hb)) e) g1
  · refine ⟨fun a o e => y.keep a o (by simp) (x.gd.k a o e), x.gd.nl.keeps fun b o e => y.keep b o (by simp) e, fun v hv => ?_, fun v hv => ?_⟩
    · rcases fV.mp hv with rfl | hv
      · refine ⟨?_, ?_⟩
        · cases q : c.K.lookup v with
          | none => exact q
          | some o => exact absurd rfl (old v o (x.gd.k _ _ q))
        · rintro rfl
          obtain ⟨_, ⟨o, _, _, ho, _⟩, _⟩ := x.gd.nl
          exact old _ o ho rfl
      · exact x.gd.hi v hv
    · rcases fV.mp hv with rfl | hv
      · exact ⟨_, hr⟩
      · obtain ⟨o, e⟩ := x.gd.lt v hv; exact y.there v o e

theorem At.unfr {c : Cx} {m m2 mc : LM} {G G2 : Heap → Prop} {s : Shared} {D0 : List Addr} {r : Addr} {x : Str} {its : List AV} (hrV : r ∉ c.V) (h0 : ∀ b ∈ D0, b ∈ c.D) (a : At (c.fr D0 r) m mc G s) (hloc : c.env.locals ∉ c.D) (hcel : ∀ p ∈ c.env.cells, p.2 ∉ c.D) (hg : GB c.O G2 s.heap)
    (hls : LsAt (c.fr D0 r).V r its s.heap) (hm : ∀ n a, m2.lookup n = some a → m.lookup n = some a) (hx : m.lookup x = some (.raw (.ref r))) : At c ((x, .lst its) :: m2) mc G2 s := by
  have fV : ∀ {b}, b ∈ (c.fr D0 r).V ↔ b = r ∨ b ∈ c.V := Cx.fr_V h0
  have rr : ∀ {a v}, VR (c.fr D0 r).V s.heap a v → VR c.V s.heap a v := fun {a v} q => VR.keeps (fun b o hb e => ⟨e, fun h => hb (fV.mpr (.inr h))⟩) a v q
  refine ⟨?_, ?_, hloc, hg, ⟨a.gd.k, a.gd.nl, fun v hv => a.gd.hi v (fV.mpr (.inr hv)), fun v hv => a.gd.lt v (fV.mpr (.inr hv))⟩⟩
  · obtain ⟨f, hn, h⟩ := a.loc
    refine ⟨f, hn, fun n b e => ?_⟩
    rw [List.lookup_cons] at e
    cases q : n == x with
    | true =>
      rw [q] at e; cases e
      obtain ⟨v, e1, rfl⟩ := h x _ hx
      obtain ⟨vs, k, ho, hv⟩ := hls
      refine ⟨.ref r, (by rw [beq_iff_eq.mp q]; exact e1), r, vs, k, rfl, hrV, ho, VRs.keeps (fun b o hb e => ⟨e, fun h => hb (fV.mpr (.inr h))⟩) _ _ hv⟩
    | false =>
      rw [q] at e
      obtain ⟨v, e1, e2⟩ := h n b (hm n b e)
      exact ⟨v, e1, rr e2⟩
  · intro n b e
    obtain ⟨p, v, h1, h2, h4, h3⟩ := a.cel n b e
    exact ⟨p, v, h1, hcel _ (mem_of_lookup h1), h4, rr h3⟩

/-- a list is made, filled by the next statement, and from then on left as it is -/
theorem XS.fill {c : Cx} {m mc : LM} {G : Heap → Prop} {KF : FK} {n : Nat} {x : Str} {xp lpos pos : Pos} {mid : Stmt} {rest : List Stmt} (ok : CxOk c n) (E : EnvOk c) (hcd : ∀ p ∈ c.env.cells, p.2 ∉ c.D) (hl : c.env.kindOf x = some .local)
    (hs : swapsWith (.List [] lpos) (some (.Name x xp)) pos.line c.env = pure false) (D0 : List Addr) (h0 : ∀ b ∈ D0, b ∈ c.D) (G1 R : Heap → Prop) (hG : ∀ h, G h → G1 h) (hL : Loc D0 G1)
    (hR : ∀ h h2, GB c.O G h → (∀ b o, b ∉ c.O → b ∉ D0 → h.get? b = some o → h2.get? b = some o) → GB c.O R h2)
    (h : ∀ r, r ∉ c.V → X1 (c.fr D0 r) ((x, .raw (.ref r)) :: m) mc (fun h => G1 h ∧ h.get? r = some (LObj [] 0)) mid (fun fa m' mc' G' => fa = .next ∧ ∃ (its : List AV) (m'' : LM) (G1' : Heap → Prop), (∀ h, G' h → G1' h ∧ LsAt (c.fr D0 r).V r its h) ∧
      (∀ n a, m''.lookup n = some a → m'.lookup n = some a) ∧ m'.lookup x = some (.raw (.ref r)) ∧ XS c ((x, .lst its) :: m'') mc' (fun h => G1' h ∧ R h) rest KF)) :
    XS c m mc G (.Assign [.Name x xp] (.List [] lpos) pos :: mid :: rest) KF := ⟨fun s x0 => by
  refine wpAny_execs_cons (wpAny_Assign_Name (wpAny_List (Calls.spliced_nil ?_)) hs)
  refine ⟨Nat.zero_le _, ?_⟩
  have nr : s.heap.get? s.heap.objs.size = none := get_fresh _
  have hrV : s.heap.objs.size ∉ c.V := x0.gd.fresh
  have y1 : Stp [] s { s with heap := s.heap.push { cls := .type "list", data := .seq ([] : List Value).toArray } } := .push _ _
  have hr1 : (s.heap.push { cls := .type "list", data := .seq ([] : List Value).toArray }).get? s.heap.objs.size = some (LObj [] 0) := Heap.get?_push_size _ rfl
  generalize hs1 : ({ s with heap := s.heap.push { cls := .type "list", data := .seq ([] : List Value).toArray } } : Shared) = s1 at *
  replace hr1 : s1.heap.get? s.heap.objs.size = some (LObj [] 0) := by rw [← hs1]; exact hr1
  clear hs1
  generalize hr : s.heap.objs.size = r at *
  have old : ∀ b o, s.heap.get? b = some o → b ≠ r := fun b o e q => by rw [q, nr] at e; cases e
  have x1 : At (c.fr D0 r) m mc (fun h => G1 h ∧ h.get? r = some (LObj [] 0)) s1 := x0.fr ok y1 h0 hG hL nr hr1
  refine x1.store (a := .raw (.ref r)) rfl hl E.own E.cells (by show (c.env.scope.kind == .class || (c.env.scope.kind == .module && c.env.locals != c.env.globals)) = false; rw [E.kind]; rfl) fun s2 x2 y2 => ?_
  refine wpAny_execs_cons (wpAny_imp ((h r hrV).run s2 x2) ?_)
  rintro f s3 ⟨fa, m', mc', G', rf, x3, y3, rfl, its, m'', G1', hG', hm, hx, hrest⟩
  cases rf
  have y23 : Stp (c.own ++ r :: D0) s1 s3 := Stp.trans (D := c.own ++ r :: D0) y2 y3
  have keep : ∀ b o, b ∉ c.own → b ∉ D0 → s.heap.get? b = some o → s3.heap.get? b = some o := fun b o hb hb2 e => y23.keep b o (fun h => by
    rcases List.mem_append.mp h with h | h
    · exact hb h
    · rcases List.mem_cons.mp h with q | h
      · exact old b o e q
      · exact hb2 h) (y1.keep b o (by simp) e)
  have st : Stp (c.own ++ c.D) s s3 := ⟨fun b o hb e => keep b o (fun h => hb (List.mem_append_left _ h)) (fun h => hb (List.mem_append_right _ (h0 b h))) e, fun b o e => by
    obtain ⟨o1, e1⟩ := y1.there b o e
    exact y23.there b o1 e1, y1.gens.trans y23.gens, y23.os.trans y1.os⟩
  have gR : GB c.O R s3.heap := hR s.heap s3.heap x0.g fun b o hb hb2 e => keep b o (fun h => hb (List.mem_append_left _ h)) hb2 e
  have gG : GB c.O (fun h => G1' h ∧ R h) s3.heap := fun h' k => ⟨(hG' h' (x3.g h' fun b o hb e => k b o (fun h => hb (Cx.fr_O.mpr (.inl h))) e)).1, gR h' k⟩
  have x4 : At c ((x, .lst its) :: m'') mc' (fun h => G1' h ∧ R h) s3 := At.unfr hrV h0 x3 x0.locD hcd gG (hG' _ x3.g.here).2 hm hx
  refine wpAny_imp (hrest.run s3 x4) ?_
  rintro f2 s4 ⟨fb, m4, mc4, G4, rf4, x5, y5, k5⟩
  exact ⟨fb, m4, mc4, G4, rf4, x5, st.trans y5, k5⟩⟩
end Mine
end

-- part W52
section
open PySem PySem.W PyProof.Rows
set_option Elab.async false
set_option linter.unusedVariables false
set_option maxRecDepth 100000
namespace Mine

/-- cells that hold nothing yet -/
def UC (bs : List Addr) (h : Heap) : Prop := ∀ b ∈ bs, h.IsCell b none
theorem UC.loc (bs : List Addr) : Loc bs (UC bs) := ⟨fun h h' k x b hb => let ⟨o, e, d⟩ := x b hb; ⟨o, k b hb o e, d⟩⟩

def cxC (prog : Program) (w : World) (K : Frag) (A : Around) (env : Env) (ow ua O D : List Addr) : Cx := ⟨prog, w, K, A, env, env.locals :: ow, O, ua ++ D⟩

structure CellsAs (fd : FuncData) (as : List AV) (names : List Str) (m mc : LM) (ow ua : Addr → List Addr) : Prop where
  rel : ∀ L f vs V h, VRs V h as vs → (∀ x a, m.lookup x = some a → ∃ v, bindL (callEnvC fd L f).kindOf (names.zip vs) (fun _ => none) x = some v ∧ VR V h a v) ∧
    (∀ x a, mc.lookup x = some a → ∃ b v, (cellsFrom (L + 1) fd.scope.names []).lookup x = some b ∧ b ∈ ow L ∧ b ∉ ua L ∧ bindC (callEnvC fd L f).kindOf (names.zip vs) (fun _ => none) x = some v ∧ VR V h a v) ∧
    (∀ b ∈ ua L, ∃ x, (cellsFrom (L + 1) fd.scope.names []).lookup x = some b ∧ bindC (callEnvC fd L f).kindOf (names.zip vs) (fun _ => none) x = none)
  kind : ∀ L (vs : List Value), vs.length = as.length → ∀ x ∈ names.zip vs, fd.scope.names.lookup x.1 = some .local ∨ (fd.scope.names.lookup x.1 = some .cell ∧ ((cellsFrom (L + 1) fd.scope.names []).lookup x.1).isSome = true)
  apart : ∀ L, ∀ b ∈ ow L, b ∉ ua L
  above : ∀ L, ∀ b ∈ ow L ++ ua L, L < b ∧ ∃ x, (cellsFrom (L + 1) fd.scope.names []).lookup x = some b

theorem CT.defC {prog : Program} {w : World} {K : Frag} {n : Nat} {D : List Addr} {f : Addr} {as : List AV} {G : Heap → Prop} {KK : AK} {fd : FuncData} {o : Obj} {body : List Stmt} {names : List Str} {m mc : LM} {ow ua : Addr → List Addr}
    (ho : K.lookup f = some o) (hd : o.data = .func fd) (hb : fd.body = .stmts body) (hcd : codeIn K fd.code fd.qualname = true)
    (hbind : ∀ (vs : List Value) (s : Shared) (V : List Addr), VRs V s.heap as vs → bindArgs fd ⟨vs, []⟩ = pure (names.zip vs))
    (cs : CellsAs fd as names m mc ow ua)
    (hco : fd.scope.isCoroutine = false) (hgen : fd.scope.isGenerator = false) (hk : fd.scope.kind = .function) (hclo : fd.closure = [])
    (h : ∀ A L O, AOk A n → (∀ d ∈ ua L ++ D, d ∉ (L :: ow L) ++ O) → (∀ b ∈ ow L ++ ua L, b ≠ L) → (∀ b ∈ ow L ++ ua L, b ∉ D) → XS (cxC prog w K A (callEnvC fd L f) (ow L) (ua L) O D) m mc (fun h => UC (ua L) h ∧ G h) body
      (fun fa _ _ G' => match fa with | .ret a => KK a G' | .next => KK .none G' | _ => False)) : CT prog w K (n + 1) D (.ref f) as G KK := by
  intro A hA O vs s gd hD gb hr
  refine codeAny_call_cells (binds := names.zip vs) hA.room (gd.k _ _ ho) hd gd.nl (codeRec_of gd.k hcd) hb (hbind vs s _ hr) hclo (cs.kind _ vs hr.length) (fun s₁ hin => ?_) hco hgen hk
  obtain ⟨hrel, hrelc, hun⟩ := cs.rel s.heap.objs.size f vs _ _ hr
  have hab := cs.above s.heap.objs.size
  have hlt : ∀ v ∈ O ++ D, v < s.heap.objs.size := fun v hv => let ⟨_, e⟩ := gd.lt v hv; Heap.lt_size e
  have hkeep := hin.toInCall.keep
  have hA' : AOk (A.deeper (callEnvC fd s.heap.objs.size f)) n := hA.deeper
  have isc : ∀ b ∈ ow s.heap.objs.size ++ ua s.heap.objs.size, ∃ o, s₁.heap.get? b = some o := fun b hb => by
    obtain ⟨_, x, hx⟩ := hab b hb
    obtain ⟨o', e, _⟩ := hin.cell x b hx
    exact ⟨o', e⟩
  have hDO : ∀ d ∈ ua s.heap.objs.size ++ D, d ∉ (s.heap.objs.size :: ow s.heap.objs.size) ++ O := fun d hd' hm => by
    rcases List.mem_append.mp hd' with hd' | hd'
    · have h1 := (hab d (List.mem_append_right _ hd')).1
      rcases List.mem_append.mp hm with hm | hm
      · rcases List.mem_cons.mp hm with e | hm
        · exact Nat.ne_of_gt h1 e
        · exact cs.apart _ d hm hd'
      · exact Nat.lt_asymm h1 (hlt d (List.mem_append_left _ hm))
    · have h1 := hlt d (List.mem_append_right _ hd')
      rcases List.mem_append.mp hm with hm | hm
      · rcases List.mem_cons.mp hm with e | hm
        · exact Nat.ne_of_lt h1 e
        · exact Nat.lt_asymm h1 (hab d (List.mem_append_left _ hm)).1
      · exact hD d hd' hm
  obtain ⟨h₁, tk, hs₁⟩ := hin.toInCall.same
  have g1 : s₁.gens = s.gens := by rw [hs₁]
  have o1 : s₁.os = s.os := by rw [hs₁]
  have st0 : Stp D s s₁ := Stp.grow hkeep g1 o1
  have nlt : cStatics < s.heap.objs.size := let ⟨_, hn, _⟩ := gd.nl; hn.lt
  have old : ∀ b o, s.heap.get? b = some o → b ≠ s.heap.objs.size ∧ b ∉ ow s.heap.objs.size ++ ua s.heap.objs.size := fun b o e => ⟨Nat.ne_of_lt (Heap.lt_size e), fun hm => Nat.lt_asymm (Heap.lt_size e) (hab b hm).1⟩
  generalize hL : s.heap.objs.size = L at *
  let c := cxC prog w K (A.deeper (callEnvC fd L f)) (callEnvC fd L f) (ow L) (ua L) O D
  have cO : ∀ b, b ∈ c.O ↔ b = L ∨ b ∈ ow L ∨ b ∈ O := fun b => by
    show b ∈ (L :: ow L) ++ O ↔ _
    simp
  have cV : ∀ b, b ∈ c.V ↔ b = L ∨ b ∈ ow L ++ ua L ∨ b ∈ O ++ D := fun b => by
    unfold Cx.V
    rw [List.mem_append, cO]
    show (_ ∨ _ ∨ _) ∨ b ∈ ua L ++ D ↔ _
    simp only [List.mem_append]
    constructor
    · rintro ((h | h | h) | h | h) <;> simp [h]
    · rintro (h | (h | h) | h | h) <;> simp [h]
  have up : ∀ {a v}, VR (O ++ D) s.heap a v → VR c.V s₁.heap a v := fun {a v} r => VR.keeps (fun b o' hb e => ⟨hkeep b o' e, fun hm => by
    rcases (cV b).mp hm with q | q | q
    · exact (old b o' e).1 q
    · exact (old b o' e).2 q
    · exact hb q⟩) a v r
  have at0 : At c m mc (fun h => UC (ua L) h ∧ G h) s₁ := by
    refine ⟨⟨_, hin.toInCall.ns, fun x a e => ?_⟩, fun x a e => ?_, ?_, fun h' k => ⟨?_, ?_⟩, hin.toInCall.keep |> fun kp => ⟨fun a o' e => kp _ _ (gd.k a o' e), gd.nl.keeps kp, fun v hv => ?_, fun v hv => ?_⟩⟩
    · obtain ⟨v, h1, h2⟩ := hrel x a e
      exact ⟨v, h1, up h2⟩
    · obtain ⟨b, v, h1, h2, h3, h4, h5⟩ := hrelc x a e
      refine ⟨b, v, h1, fun hd' => ?_, ?_, up h5⟩
      · rcases List.mem_append.mp hd' with hd' | hd'
        · exact h3 hd'
        · obtain ⟨o', e'⟩ := gd.lt b (List.mem_append_right _ hd')
          exact (old b o' e').2 (List.mem_append_left _ h2)
      · rw [← h4]; exact hin.cell x b h1
    · exact fun hm => hDO L hm (List.mem_append_left _ (List.mem_cons_self ..))
    · intro b hb
      obtain ⟨x, hx, hnone⟩ := hun b hb
      have := hin.cell x b hx
      rw [hnone] at this
      obtain ⟨o', e, q⟩ := this
      exact ⟨o', k b o' (fun hm => hDO b (List.mem_append_left _ hb) hm) e, q⟩
    · exact gb h' fun b o' hb e => k b o' (fun hm => by
        rcases (cO b).mp hm with q | q | q
        · exact (old b o' e).1 q
        · exact (old b o' e).2 (List.mem_append_left _ q)
        · exact hb q) (hkeep b o' e)
    · have fresh : s.heap.get? v = none → K.lookup v = none ∧ v ≠ cStatics := fun hn => by
        refine ⟨?_, ?_⟩
        · cases q : K.lookup v with
          | none => rfl
          | some o' => rw [gd.k _ _ q] at hn; cases hn
        · rintro rfl
          obtain ⟨_, ⟨o', _, _, e', _⟩, _⟩ := gd.nl
          rw [e'] at hn; cases hn
      rcases (cV v).mp hv with q | q | q
      · exact fresh (by rw [q, ← hL]; exact get_fresh _)
      · exact fresh (get_ge (by rw [hL]; exact Nat.le_of_lt (hab v q).1))
      · exact gd.hi v q
    · rcases (cV v).mp hv with q | q | q
      · rw [q]; obtain ⟨o', es, ep, e', _⟩ := hin.toInCall.ns; exact ⟨o', e'⟩
      · exact isc v q
      · obtain ⟨o', e'⟩ := gd.lt v q; exact ⟨o', hkeep _ _ e'⟩
  have main := (h _ L O hA' hDO (fun b hb => Nat.ne_of_gt (hab b hb).1) (fun b hb hd' => by
    obtain ⟨o', e'⟩ := gd.lt b (List.mem_append_right _ hd')
    exact (old b o' e').2 hb)).run _ at0
  refine wpAny_mono main ?_ (fun _ _ x => x.elim)
  rintro fl s' ⟨fa, m', mc', G', rf, x', y', kk⟩
  have stp : Stp D s s' := by
    refine ⟨fun b o' hb e => y'.keep b o' (fun hm => ?_) (hkeep b o' e), fun b o' e => y'.there b o' (hkeep b o' e), by rw [← g1]; exact y'.gens, by rw [← o1]; exact y'.os⟩
    have hm : b ∈ (L :: ow L) ++ (ua L ++ D) := hm
    rcases List.mem_append.mp hm with hm | hm
    · rcases List.mem_cons.mp hm with q | q
      · exact (old b o' e).1 q
      · exact (old b o' e).2 (List.mem_append_left _ q)
    · rcases List.mem_append.mp hm with q | q
      · exact (old b o' e).2 (List.mem_append_right _ q)
      · exact hb q
  have gb' : GB O G' s'.heap := fun h' k => x'.g h' fun b o' hb e => k b o' (fun hm => hb ((cO b).mpr (.inr (.inr hm)))) e
  have back : ∀ {a v}, VR c.V s'.heap a v → VR (O ++ D) s'.heap a v := fun {a v} r =>
    VR.keeps (fun b o' hb e => ⟨e, fun hm => hb ((cV b).mpr (.inr (.inr hm)))⟩) a v r
  cases fa with
  | next => cases rf; exact ⟨_, .none, G', rfl, rfl, gb', stp, kk⟩
  | brk => exact kk.elim
  | cont => exact kk.elim
  | ret a => obtain ⟨v, rfl, rv⟩ := rf; exact ⟨v, a, G', rfl, back rv, gb', stp, kk⟩
end Mine
end

-- part W53
section
open PySem PySem.W PyProof.Rows
set_option Elab.async false
set_option linter.unusedVariables false
set_option maxRecDepth 100000
namespace Mine

def Cx.take (c : Cx) (b : Addr) : Cx := { c with own := c.own ++ [b], D := c.D.filter (fun d => decide (d ≠ b)) }
theorem Cx.take_O {c : Cx} {b p : Addr} : p ∈ (c.take b).O ↔ p = b ∨ p ∈ c.O := by
  unfold Cx.take Cx.O
  simp only [List.mem_append, List.mem_singleton]
  constructor
  · rintro ((h | h) | h) <;> simp [h]
  · rintro (h | h | h) <;> simp [h]
theorem Cx.take_V {c : Cx} {b p : Addr} (hb : b ∈ c.D) : p ∈ (c.take b).V ↔ p ∈ c.V := by
  unfold Cx.V
  rw [List.mem_append, Cx.take_O, List.mem_append]
  show (p = b ∨ p ∈ c.O) ∨ p ∈ c.D.filter (fun d => decide (d ≠ b)) ↔ _
  rw [List.mem_filter]
  simp only [decide_eq_true_eq]
  constructor
  · rintro ((h | h) | h)
    · exact .inr (h ▸ hb)
    · exact .inl h
    · exact .inr h.1
  · rintro (h | h)
    · exact .inl (.inr h)
    · by_cases q : p = b
      · exact .inl (.inl q)
      · exact .inr ⟨h, q⟩
theorem CxOk.take {c : Cx} {n : Nat} {b : Addr} (ok : CxOk c n) : CxOk (c.take b) n := ⟨ok.a, fun d hd h => by
  have hd' := List.mem_filter.mp hd
  simp only [decide_eq_true_eq] at hd'
  rcases Cx.take_O.mp h with q | q
  · exact hd'.2 q
  · exact ok.d d hd'.1 q⟩
theorem EnvOk.take {c : Cx} {b : Addr} (E : EnvOk c) : EnvOk (c.take b) := ⟨List.mem_append_left _ E.own, E.cells, E.kind⟩

/-- the first value of a cell -/
theorem XS.cellIn {c : Cx} {m mc : LM} {G : Heap → Prop} {KF : FK} {x : Str} {xp pos : Pos} {e : Expr} {rest : List Stmt} {b : Addr} (E : EnvOk c) (hl : c.env.kindOf x = some .cell) (hc : c.env.cells.lookup x = some b)
    (hb : b ∈ c.D) (hbO : b ∉ c.O) (hs : swapsWith e (some (.Name x xp)) pos.line c.env = pure false)
    (h : EV c m mc G e fun a G1 => ∃ G2 : Heap → Prop, (∀ h, G1 h → h.IsCell b Option.none ∧ G2 h) ∧ (∀ h h', (∀ p o, p ∉ c.O → p ≠ b → h.get? p = some o → h'.get? p = some o) → G2 h → G2 h') ∧ XS (c.take b) m ((x, a) :: mc) G2 rest fun fa _ _ G' => KF fa [] [] G') :
    XS c m mc G (.Assign [.Name x xp] e pos :: rest) KF := ⟨fun s x0 => by
  refine wpAny_execs_cons (wpAny_Assign_Name (wpAny_imp (h.run s x0) ?_) hs)
  rintro v s1 ⟨a, G1, ra, x1, y1, G2, hG, hins, hrest⟩
  have hcell := (hG _ x1.g.here).1
  refine wpAny_storeName_cell E.kind hl hc hcell fun h' hc' hs' => ?_
  have keep : ∀ p o, p ≠ b → s1.heap.get? p = some o → h'.get? p = some o := hs'.extBut
  have y2 : Stp c.D s1 { s1 with heap := h' } := ⟨fun p o hp e => keep p o (fun q => hp (q ▸ hb)) e, fun p o e => (by
    by_cases q : p = b
    · subst q; obtain ⟨o', e', _⟩ := hc'; exact ⟨o', e'⟩
    · exact ⟨o, keep p o q e⟩), .refl _, rfl⟩
  have lb : c.env.locals ≠ b := fun q => hbO (q ▸ List.mem_append_left _ E.own)
  have rr : ∀ {a v}, VR c.V s1.heap a v → VR (c.take b).V h' a v := fun {a v} r => VR.keeps (fun p o hp e => ⟨keep p o (fun q => hp (q ▸ c.D_sub b hb)) e, fun h => hp ((Cx.take_V hb).mp h)⟩) a v r
  have x2 : At (c.take b) m ((x, a) :: mc) G2 { s1 with heap := h' } := by
    refine ⟨?_, fun n a' e => ?_, fun h => x1.locD (List.mem_filter.mp h).1, fun h'' k => ?_, ?_⟩
    · obtain ⟨f, ⟨o, es, ep, ho, q⟩, hf⟩ := x1.loc
      exact ⟨f, ⟨o, es, ep, keep _ _ lb ho, q⟩, fun n a e => let ⟨v, e1, e2⟩ := hf n a e; ⟨v, e1, rr e2⟩⟩
    · rw [List.lookup_cons] at e
      cases q : n == x with
      | true =>
        rw [q] at e; cases e
        have q' := beq_iff_eq.mp q
        subst q'
        exact ⟨b, v, hc, (fun h => by have := (List.mem_filter.mp h).2; simp at this), hc', rr ra⟩
      | false =>
        rw [q] at e
        obtain ⟨p, v', h1, h2, ⟨o, ho, hd⟩, h3⟩ := x1.cel n a' e
        exact ⟨p, v', h1, fun h => h2 (List.mem_filter.mp h).1, ⟨o, keep _ _ (fun q => h2 (q ▸ hb)) ho, hd⟩, rr h3⟩
    · refine hins s1.heap h'' (fun p o hp hpb e => k p o (fun h => ?_) (keep p o hpb e)) (hG _ x1.g.here).2
      rcases Cx.take_O.mp h with q | q
      · exact hpb q
      · exact hp q
    · have gd := x1.gd.step y2 c.D_sub
      exact ⟨gd.k, gd.nl, fun v hv => gd.hi v ((Cx.take_V hb).mp hv), fun v hv => gd.lt v ((Cx.take_V hb).mp hv)⟩
  refine wpAny_imp (hrest.run _ x2) ?_
  rintro f s3 ⟨fa, m3, mc3, G3, rf, x3, y3, k3⟩
  refine ⟨fa, [], [], G3, FRel.keeps (fun p o hp e => ⟨e, fun h => hp ((Cx.take_V hb).mpr h)⟩) fa f rf, ⟨?_, (fun n a e => by cases e), x1.locD, fun h'' k => x3.g h'' fun p o hp e => k p o (fun h => hp (Cx.take_O.mpr (.inr h))) e, ?_⟩, (y1.trans y2).own.trans (y3.mono fun d hd => ?_), k3⟩
  · obtain ⟨f', hn, _⟩ := x3.loc
    exact ⟨f', hn, fun n a e => by cases e⟩
  · exact ⟨x3.gd.k, x3.gd.nl, fun v hv => x3.gd.hi v ((Cx.take_V hb).mpr hv), fun v hv => x3.gd.lt v ((Cx.take_V hb).mpr hv)⟩
  · have hd : d ∈ (c.own ++ [b]) ++ c.D.filter (fun d => decide (d ≠ b)) := hd
    rcases List.mem_append.mp hd with h | h
    · rcases List.mem_append.mp h with h | h
      · exact List.mem_append_left _ h
      · rw [List.mem_singleton.mp h]; exact List.mem_append_right _ hb
    · exact List.mem_append_right _ (List.mem_filter.mp h).1⟩

/-- a cell that holds something is stored anew -/
theorem X1.setCell {c : Cx} {m mc : LM} {G : Heap → Prop} {KF : FK} {x : Str} {xp pos : Pos} {e : Expr} {b : Addr} {a0 : AV} (E : EnvOk c) (hl : c.env.kindOf x = some .cell) (hc : c.env.cells.lookup x = some b) (hb : b ∈ c.own) (hm : mc.lookup x = some a0)
    (hne : ∀ y p, c.env.cells.lookup y = some p → (y == x) = false → p ≠ b) (hs : swapsWith e (some (.Name x xp)) pos.line c.env = pure false)
    (h : EV c m mc G e fun a G1 => KF .next m ((x, a) :: mc) G1) : X1 c m mc G (.Assign [.Name x xp] e pos) KF := ⟨fun s x0 => by
  refine wpAny_Assign_Name (wpAny_imp (h.run s x0) ?_) hs
  rintro v s1 ⟨a, G1, ra, x1, y1, hk⟩
  obtain ⟨b', v0, h1, h2, hcell, _⟩ := x1.cel x a0 hm
  rw [hc] at h1; cases h1
  refine wpAny_storeName_cell E.kind hl hc hcell fun h' hc' hs' => ?_
  have keep : ∀ p o, p ≠ b → s1.heap.get? p = some o → h'.get? p = some o := hs'.extBut
  have bO : b ∈ c.O := List.mem_append_left _ hb
  have y2 : Stp (c.own ++ c.D) s1 { s1 with heap := h' } := ⟨fun p o hp e => keep p o (fun q => hp (q ▸ List.mem_append_left _ hb)) e, fun p o e => (by
    by_cases q : p = b
    · subst q; obtain ⟨o', e', _⟩ := hc'; exact ⟨o', e'⟩
    · exact ⟨o, keep p o q e⟩), .refl _, rfl⟩
  have lb : c.env.locals ≠ b := fun q => E.cells (x, b) (mem_of_lookup hc) q.symm
  refine ⟨.next, m, (x, a) :: mc, G1, rfl, ⟨?_, fun n a' e => ?_, x1.locD, x1.g.keeps fun p o hp e => keep p o (fun q => hp (q ▸ bO)) e, x1.gd.step y2 c.own_sub⟩, y1.own.trans y2, hk⟩
  · obtain ⟨f, ⟨o, es, ep, ho, q⟩, hf⟩ := x1.loc
    exact ⟨f, ⟨o, es, ep, keep _ _ lb ho, q⟩, fun n a e => let ⟨v, e1, e2⟩ := hf n a e; ⟨v, e1, e2.stepO y2⟩⟩
  · rw [List.lookup_cons] at e
    cases q : n == x with
    | true =>
      rw [q] at e; cases e
      have q' := beq_iff_eq.mp q
      subst q'
      exact ⟨b, v, hc, h2, hc', ra.stepO y2⟩
    | false =>
      rw [q] at e
      obtain ⟨p, v', k1, k2, ⟨o, ho, hd⟩, k3⟩ := x1.cel n a' e
      exact ⟨p, v', k1, k2, ⟨o, keep _ _ (hne n p k1 q) ho, hd⟩, k3.stepO y2⟩⟩

section
variable {c : Cx} {m mc : LM} {G : Heap → Prop} {K : AK}
theorem OF.range1 {n : Nat} (k : K (.rng n) G) : OF c m mc G (.type "range") [.int (n : Int)] K := ⟨fun vs s at0 r => by
  obtain ⟨v, vr, rfl, ⟨t, rfl⟩, rfl⟩ := r
  have hn : s.heap.objs.size ∉ c.V := at0.gd.fresh
  refine call_range_1 ?_
  have st : Stp [] s { s with heap := s.heap.push { cls := .type "range", data := .fields #[.int 0 s.toks, .int (n : Int) t, .int 1 (s.toks + 1)] }, toks := s.toks + 1 + 1 } := Stp.grow (fun b o e => Heap.get?_push_of_some _ e) rfl rfl
  exact ⟨.rng n, G, ⟨_, _, _, _, rfl, hn, Heap.get?_push_size _ rfl⟩, at0.pure st, st.mono (by simp), k⟩⟩
theorem OF.abs {i : Int} (k : K (.int (if i < 0 then -i else i)) G) : OF c m mc G (.builtin "abs") [.int i] K := ⟨fun vs s at0 r => by
  obtain ⟨v, vr, rfl, ⟨t, rfl⟩, rfl⟩ := r
  exact call_abs_int fun u tk => ⟨.int _, G, ⟨u, rfl⟩, at0.pure (.toks s tk), .toks s tk, k⟩⟩
end
end Mine
end

-- part W55
section
open PySem PySem.W PyProof.Rows PySem.SeqAt
set_option Elab.async false
set_option linter.unusedVariables false
set_option maxRecDepth 100000
set_option pp.maxSteps 300
set_option pp.deepTerms false
namespace Mine
local macro_rules | `(tactic| got_up) => `(tactic| first
  | refine EV.localI 0 rfl (by rfl) rfl (by kernel_rfl) ?_ (by kernel_rfl)
  | refine EV.localI 1 rfl (by rfl) rfl (by kernel_rfl) ?_ (by kernel_rfl)
  | refine EV.localI 2 rfl (by rfl) rfl (by kernel_rfl) ?_ (by kernel_rfl)
  | refine EV.localI 3 rfl (by rfl) rfl (by kernel_rfl) ?_ (by kernel_rfl)
  | refine EV.localI 4 rfl (by rfl) rfl (by kernel_rfl) ?_ (by kernel_rfl)
  | refine EV.localI 5 rfl (by rfl) rfl (by kernel_rfl) ?_ (by kernel_rfl)
  | refine EV.localI 6 rfl (by rfl) rfl (by kernel_rfl) ?_ (by kernel_rfl))
local macro_rules | `(tactic| leaf_len) => `(tactic| first
  | refine EV.str ?_ | refine EV.int ?_ | refine EV.none ?_ | refine EV.bool ?_
  | refine EV.binop ?_ | refine EV.sub ?_ | refine EV.cmp ?_ | refine EV.ifexp ?_ | refine EV.tuple ?_ | refine EV.list ?_
  | refine EA.cons ?_ | refine EA.nil ?_
  | got_up
  | refine OS.tup (by decide) (by decide) rfl rfl ?_
  | refine OB.add_str ?_ ?_
  | refine OB.add ?_
  | refine OC.lt ?_ | refine OC.le ?_ | refine OC.gt ?_ | refine OC.ge ?_
  | refine XS.cons ?_ | refine X1.ret ?_ | refine X1.iff ?_ | refine XS.nil ?_
  | refine X1.assign (cxOf_env rfl rfl) (by kernel_rfl) rfl ?_
  | refine BT.cmp ?_)
theorem EV.sliceLNt {c : Cx} {m mc : LM} {G : Heap → Prop} {K : AK} {value hi : Expr} {p pos : Pos}
    (h : EV c m mc G value fun a G1 => EV c m mc G1 hi fun b G2 => ∃ l i, a = .lst l ∧ b = .int i ∧ 0 ≤ i ∧ l.length ≤ sizeLine ∧ K (.lst (l.take i.toNat)) G2) :
    EV c m mc G (.Subscript value (.Slice Option.none (some hi) Option.none p) pos) K := ⟨fun s x0 => by
  refine Subscript_ (wpAny_imp (h.run s x0) ?_)
  rintro v s1 ⟨a, G1, ra, x1, y1, h1⟩
  refine wpAny_Slice ?_
  rw [evalPart_none]
  refine wpAny_pure (wpAny_imp (h1.run s1 x1) ?_)
  rintro vl s2 ⟨b, G2, rb, x2, y2, l, i, rfl, rfl, h0, hz, k⟩
  obtain ⟨L, vs, n, rfl, hL, ho, hvs⟩ := VR.step ra y2
  obtain ⟨ti, rfl⟩ := rb
  have hl : s2.heap.IsList L vs.toArray := ⟨_, ho, rfl, n, rfl⟩
  refine wpAny_pure (tail_any (hl.push _).typeIs slot_list_getitem.lookup (wpAny_getItem_list_slice (lo := Option.none) (hi := some i) (st := Option.none) (hl.push _) (Heap.IsSliceOf.new ..) .none (.int i ti) .none (by simp) ?_ (by rw [List.size_toArray, hvs.length]; exact hz)) (by rfl))
  rw [Heap.size_push]
  have st : Stp [] s2 { s2 with heap := (s2.heap.push { cls := .type "slice", data := .fields #[.none, .int i ti, .none] }).push { cls := .type "list", data := .seq (slicePick vs.toArray Option.none (some i) Option.none) } } := Stp.grow (fun b o e => Heap.get?_push_of_some _ (Heap.get?_push_of_some _ e)) rfl rfl
  refine ⟨.lst (l.take i.toNat), G2, ⟨_, vs.take i.toNat, 0, rfl, ?_, ?_, ?_⟩, x2.pure st, y1.trans (y2.trans (st.mono (by simp))), k⟩
  · intro hv
    obtain ⟨o, e⟩ := x2.gd.lt _ hv
    have := Heap.lt_size e
    exact Nat.lt_irrefl _ (Nat.lt_of_le_of_lt (Nat.le_succ _) this)
  · rw [show slicePick vs.toArray Option.none (some i) Option.none = (vs.take i.toNat).toArray from by
      have := slicePick_upto' vs.toArray i.toNat
      rw [show ((i.toNat : Nat) : Int) = i by omega] at this
      simpa using this]
    exact push2 rfl
  · exact VRs.step (hvs.take _) (st.mono (by simp))⟩

def absI (i : Int) : Int := if i < 0 then -i else i
def stepD (s c : Int) : Int := (s * 48271 + (absI c).fmod 65521 + 1).fmod 2147483647
def seedP (ns : List Int) : Int := ns.foldl stepD 47
def drawP (ns : List Int) : DS := ((ns.map absI).take 40, seedP ns)
theorem seedP_ok (ns : List Int) : 0 ≤ seedP ns ∧ seedP ns < 2147483647 := by
  unfold seedP
  suffices h : ∀ (l : List Int) (s : Int), (0 ≤ s ∧ s < 2147483647) → 0 ≤ l.foldl stepD s ∧ l.foldl stepD s < 2147483647 from h ns 47 (by decide)
  intro l
  induction l with
  | nil => intro s h; exact h
  | cons a l ih => intro s h; exact ih _ (modb (by decide))
theorem drawP_ok (ns : List Int) : DSok (drawP ns) := ⟨by unfold drawP; simp; omega, seedP_ok ns⟩

theorem draw_ct {w : World} {n : Nat} {D : List Addr} {G : Heap → Prop} {ns : List Int} (hn : ns.length ≤ 100) :
    CT PG w (KH w) (n + 20) D (.ref 424) [.lst (ns.map .int)] G (fun a G' => a = .lst [.lst ((drawP ns).1.map .int), .int (drawP ns).2] ∧ G' = G) := by
  refine CT.def (o := Mine.hz.zo_396 w.params) (names := [Str.ofString "script"]) (by kernel_rfl) (hd := by rfl) (hb := by rfl) (by kernel_rfl) (hbind := ?_) (by decide +kernel) (by decide +kernel) rfl rfl rfl rfl ?_
  · intro vs s V X hr
    obtain ⟨v, vr, rfl, r1, rfl⟩ := hr
    exact BindsTo.of_eq rfl
  · intro A L O hA hD
    refine XS.cons ?_
    leaf_len
    refine EV.int ?_
    refine XS.cons (X1.forS (cxOf_env rfl rfl) hA.handled (by rfl) (by intro p hp; cases hp) (by intro _; rfl) (by intro _ _; rfl)
      (fun i m mc G' => G' = G ∧ mc = [] ∧ List.lookup (Str.ofString "seed") m = some (.int ((ns.take i).foldl stepD 47)) ∧ List.lookup (Str.ofString "script") m = some (.lst (ns.map .int))) ?_)
    repeat leaf_len
    refine ⟨_, rfl, by simp; omega, ⟨rfl, rfl, by rfl, by rfl⟩, fun i a m' mc' G' hia hinv I hI => ?_, fun m' mc' G' hinv => ?_⟩
    · obtain ⟨rfl, rfl, hsd, hsc⟩ := hinv
      obtain ⟨x, hx, rfl⟩ : ∃ x, ns[i]? = some x ∧ AV.int x = a := by simpa [List.getElem?_map] using hia
      have hstep : (ns.take (i + 1)).foldl stepD 47 = stepD ((ns.take i).foldl stepD 47) x := by
        rw [List.take_add_one, hx]; simp [List.foldl_append]
      refine XS.cons (X1.assign (EnvOk.plus (cxOf_env rfl rfl)) (by rfl) rfl ?_)
      refine EV.binop (EV.binop (EV.binop (EV.binop ?_)))
      refine EV.local rfl (by rfl) ((lk_skip (by rfl)).trans hsd) ?_ (by kernel_rfl)
      refine EV.int (OB.mul (IntMulOk.of_right (by decide)) ?_)
      refine EV.binop (EV.callB "abs" (by kernel_rfl) (by kernel_rfl) rfl ?_)
      refine EA.cons (EV.localI 0 rfl (by rfl) rfl (by rfl) (EA.nil ?_) (by kernel_rfl))
      refine OF.abs (EV.int (OB.mod (by decide) ?_))
      refine OB.add (EV.int (OB.add (EV.int (OB.mod (by decide) ?_))))
      refine XS.nil ⟨rfl, rfl, ?_, (lk_skip (by rfl)).trans ((lk_skip (by rfl)).trans hsc)⟩
      rw [hstep]
      exact lk_here (by rfl)
    · obtain ⟨rfl, rfl, hsd, hsc⟩ := hinv
      rw [List.length_map, List.take_length] at hsd
      refine XS.cons (X1.ret (EV.list ?_))
      refine EA.cons (EV.sliceLNt ?_)
      refine EV.comp (cl := []) (mci := []) ⟨by intro _; rfl, rfl, by decide, rfl, by decide +kernel, rfl, by intro _ _; rfl, (by intro x a e; cases e), (by intro p hp; cases hp)⟩ hA.handled (fun i outs G2 => G2 = G' ∧ outs = (ns.take i).map fun x => .int (absI x)) ?_
      refine EV.local rfl (by rfl) hsc ?_ (by kernel_rfl)
      refine ⟨_, rfl, by simp; unfold sizeLine; omega, ⟨rfl, rfl⟩, ?_, ?_⟩
      · intro C acc I i a outs G2 ml hia hinv okc
        obtain ⟨rfl, rfl⟩ := hinv
        obtain ⟨x, hx, rfl⟩ : ∃ x, ns[i]? = some x ∧ AV.int x = a := by simpa [List.getElem?_map] using hia
        refine IFs.nil ⟨fun _ => ?_, fun h => (by cases h)⟩
        refine EV.callB "abs" (by kernel_rfl) (by kernel_rfl) rfl ?_
        refine EA.cons (EV.localI 0 rfl (by rfl) rfl (by kernel_rfl) (EA.nil ?_) (by kernel_rfl))
        refine OF.abs ⟨rfl, ?_⟩
        rw [List.take_add_one, hx]
        simp [absI]
      · intro outs G2 hinv
        obtain ⟨rfl, rfl⟩ := hinv
        refine EV.int ⟨_, _, rfl, rfl, by decide, by simp; unfold sizeLine; omega, ?_⟩
        refine EA.cons (EV.local rfl (by rfl) hsd (EA.nil ?_) (by kernel_rfl))
        refine ⟨by show 2 ≤ sizeLine; decide, ?_, rfl⟩
        rw [List.length_map, List.take_length]
        unfold drawP seedP
        rw [List.map_take, List.map_map]
        rfl
end Mine
end

-- part W56
section
open PySem PySem.W PyProof.Rows PySem.SeqAt
set_option Elab.async false
set_option linter.unusedVariables false
set_option maxRecDepth 100000
set_option pp.maxSteps 300
set_option pp.deepTerms false
namespace Mine

/-- what the wrapper's own dict must tell -/
structure WFacts (K : Frag) (od : Obj) (lid : Addr) : Prop where
  ids : findObj K 411 (some od) (Str.ofString "hyperlink_ids") = some (.value (.ref lid))
  s1 : shadowIn (some od) (Str.ofString "_track_hyperlink_state") = some false
  s2 : shadowIn (some od) (Str.ofString "_rstrip_visible") = some false
  s3 : shadowIn (some od) (Str.ofString "_next_hyperlink_id") = some false
abbrev wrObj (dx : Addr) : Obj := { cls := .ref 411, dict := some dx }
def WrapNew (K : Frag) (vs : List Value) (s : Shared) (v : Value) (s' : Shared) : Prop := ∃ wr dx lid od n, v = .ref wr ∧ s'.heap.get? wr = some (wrObj dx) ∧ s.heap.get? wr = none ∧ s'.heap.get? dx = some od ∧ s.heap.get? dx = none ∧
  s'.heap.get? lid = some (LObj vs n) ∧ s.heap.get? lid = none ∧ WFacts K od lid ∧ wr ≠ dx ∧ wr ≠ lid ∧ dx ≠ lid ∧ Stp [] s s'
theorem wrap_close {K : Frag} {vs : List Value} {s : Shared} {h : Heap} {d : Drawn} {tk : Nat} {news : List (Addr × Obj)} {wr dx lid : Addr} {od : Obj} {n : Nat} (D : W.X.Mem s.heap h [] news)
    (h0 : news[0]? = some (lid, LObj vs n)) (h2 : news[2]? = some (wr, wrObj dx)) (h3 : news[3]? = some (dx, od)) (c1 : od.cls = .type "dict") (f : WFacts K od lid) :
    WrapNew K vs s (.ref wr) ⟨h, s.gens, d, tk, s.os⟩ := by
  have k0 := D.nw _ (List.mem_of_getElem? h0)
  have k2 := D.nw _ (List.mem_of_getElem? h2)
  have k3 := D.nw _ (List.mem_of_getElem? h3)
  refine ⟨wr, dx, lid, od, n, rfl, k2.1, k2.2, k3.1, k3.2, k0.1, k0.2, f, ?_, ?_, ?_, .of_mem D⟩
  · intro e
    have a := k2.1
    have b := k3.1
    dsimp only at a b
    rw [e, b] at a
    cases a
    cases c1
  · intro e
    have a := k2.1
    have b := k0.1
    dsimp only at a b
    rw [e, b] at a
    cases a
  · intro e
    have a := k3.1
    have b := k0.1
    dsimp only at a b
    rw [e, b] at a
    cases a
    exact absurd c1 (by intro q; injection q with q; exact absurd q (by decide))
local macro_rules | `(tactic| x_close) => `(tactic| exact wrap_close (by assumption) rfl rfl rfl rfl ⟨by kernel_rfl, by kernel_rfl, by kernel_rfl, by kernel_rfl⟩)
set_option maxHeartbeats 8000000 in
theorem wrap_ax1 (w : World) (s : Shared) (X : Frag.In (Mine.hz.heap_448 w.params) s.heap) (NL : s.heap.NoLimit) (l : Addr) (x0 : Str) (t0 : Tok) (n : Nat) (tw : Tok) (hl : s.heap.get? l = some ⟨.type "list", none, .seq #[.str x0 t0] n, #[]⟩) :
   wpAny (model PG w) { handled := none, depth := 900, frames := none, guards := none, units := 9000 } (call (.ref 411) [.int 20 tw] [(Str.ofString "hyperlink_ids", .ref l)])
     (WrapNew (KH w) [.str x0 t0] s) NoE s := by
  x_run
set_option maxHeartbeats 8000000 in
theorem wrap_ax2 (w : World) (s : Shared) (X : Frag.In (Mine.hz.heap_448 w.params) s.heap) (NL : s.heap.NoLimit) (l : Addr) (x0 x1 : Str) (t0 t1 : Tok) (n : Nat) (tw : Tok) (hl : s.heap.get? l = some ⟨.type "list", none, .seq #[.str x0 t0, .str x1 t1] n, #[]⟩) :
   wpAny (model PG w) { handled := none, depth := 900, frames := none, guards := none, units := 9000 } (call (.ref 411) [.int 20 tw] [(Str.ofString "hyperlink_ids", .ref l)])
     (WrapNew (KH w) [.str x0 t0, .str x1 t1] s) NoE s := by
  x_run
set_option maxHeartbeats 8000000 in
theorem wrap_ax3 (w : World) (s : Shared) (X : Frag.In (Mine.hz.heap_448 w.params) s.heap) (NL : s.heap.NoLimit) (l : Addr) (x0 x1 x2 : Str) (t0 t1 t2 : Tok) (n : Nat) (tw : Tok) (hl : s.heap.get? l = some ⟨.type "list", none, .seq #[.str x0 t0, .str x1 t1, .str x2 t2] n, #[]⟩) :
   wpAny (model PG w) { handled := none, depth := 900, frames := none, guards := none, units := 9000 } (call (.ref 411) [.int 20 tw] [(Str.ofString "hyperlink_ids", .ref l)])
     (WrapNew (KH w) [.str x0 t0, .str x1 t1, .str x2 t2] s) NoE s := by
  x_run
set_option maxHeartbeats 8000000 in
theorem wrap_ax4 (w : World) (s : Shared) (X : Frag.In (Mine.hz.heap_448 w.params) s.heap) (NL : s.heap.NoLimit) (l : Addr) (x0 x1 x2 x3 : Str) (t0 t1 t2 t3 : Tok) (n : Nat) (tw : Tok) (hl : s.heap.get? l = some ⟨.type "list", none, .seq #[.str x0 t0, .str x1 t1, .str x2 t2, .str x3 t3] n, #[]⟩) :
   wpAny (model PG w) { handled := none, depth := 900, frames := none, guards := none, units := 9000 } (call (.ref 411) [.int 20 tw] [(Str.ofString "hyperlink_ids", .ref l)])
     (WrapNew (KH w) [.str x0 t0, .str x1 t1, .str x2 t2, .str x3 t3] s) NoE s := by
  x_run
set_option maxHeartbeats 8000000 in
theorem wrap_ax5 (w : World) (s : Shared) (X : Frag.In (Mine.hz.heap_448 w.params) s.heap) (NL : s.heap.NoLimit) (l : Addr) (x0 x1 x2 x3 x4 : Str) (t0 t1 t2 t3 t4 : Tok) (n : Nat) (tw : Tok) (hl : s.heap.get? l = some ⟨.type "list", none, .seq #[.str x0 t0, .str x1 t1, .str x2 t2, .str x3 t3, .str x4 t4] n, #[]⟩) :
   wpAny (model PG w) { handled := none, depth := 900, frames := none, guards := none, units := 9000 } (call (.ref 411) [.int 20 tw] [(Str.ofString "hyperlink_ids", .ref l)])
     (WrapNew (KH w) [.str x0 t0, .str x1 t1, .str x2 t2, .str x3 t3, .str x4 t4] s) NoE s := by
  x_run
end Mine
end

-- part W57
section
open PySem PySem.W PyProof.Rows
set_option Elab.async false
set_option linter.unusedVariables false
set_option maxRecDepth 100000
namespace Mine

/-- the contract of a call that tells of new objects too: they lie above the heap's end at the call -/
def CTL (prog : Program) (w : World) (K : Frag) (n : Nat) (D : List Addr) (f : Value) (as : List AV) (G : Heap → Prop) (KK : Addr → AK) : Prop :=
  ∀ A, AOk A n → ∀ O vs s, Gd K (O ++ D) s → (∀ d ∈ D, d ∉ O) → GB O G s.heap → VRs (O ++ D) s.heap as vs →
    codeAny (model prog w) A (.call f ⟨vs, []⟩) (fun r s' => ∃ v a G', r = .ok (.ret v) ∧ VR (O ++ D) s'.heap a v ∧ GB O G' s'.heap ∧ Stp D s s' ∧ KK s.heap.objs.size a G') s

theorem CTL.def {prog : Program} {w : World} {K : Frag} {n : Nat} {D : List Addr} {f : Addr} {as : List AV} {G : Heap → Prop} {KK : Addr → AK} {fd : FuncData} {o : Obj} {body : List Stmt} {names : List Str}
    (ho : K.lookup f = some o) (hd : o.data = .func fd) (hb : fd.body = .stmts body) (hcd : codeIn K fd.code fd.qualname = true)
    (hbind : ∀ (vs : List Value) (s : Shared) (V : List Addr), K.In s.heap → VRs V s.heap as vs → BindsTo s fd ⟨vs, []⟩ (names.zip vs))
    (hcell : ∀ x ∈ fd.scope.names, x.2 ≠ .cell) (hloc : ∀ x ∈ names, fd.scope.names.lookup x = some .local)
    (hco : fd.scope.isCoroutine = false) (hgen : fd.scope.isGenerator = false) (hk : fd.scope.kind = .function) (hclo : fd.closure = [])
    (h : ∀ A L O, AOk A n → (∀ d ∈ D, d ∉ L :: O) → XS (cxOf prog w K A (callEnv fd L f) O D) (names.zip as).reverse [] G body
      (fun fa _ _ G' => match fa with | .ret a => KK L a G' | .next => KK L .none G' | _ => False)) : CTL prog w K (n + 1) D (.ref f) as G KK := by
  intro A hA O vs s gd hD gb hr
  refine codeAny_call_def (binds := names.zip vs) hA.room (gd.k _ _ ho) hd gd.nl (codeRec_of gd.k hcd) hb (hbind vs s _ gd.k hr) hcell (fun x hx => hloc x.1 (List.of_mem_zip hx).1) (fun h₀ hns hkeep => ?_) hco hgen hk
  have hlt : ∀ v ∈ O ++ D, v < s.heap.objs.size := fun v hv => let ⟨_, e⟩ := gd.lt v hv; Heap.lt_size e
  have hA' : AOk (A.deeper (callEnv fd s.heap.objs.size f)) n := hA.deeper
  have hsz : s.heap.objs.size < h₀.objs.size := hns.lt
  have hDO : ∀ d ∈ D, d ∉ s.heap.objs.size :: O := fun d hd' hm => by
    rcases List.mem_cons.mp hm with e | hm
    · exact Nat.ne_of_lt (hlt d (List.mem_append_right _ hd')) e
    · exact hD d hd' hm
  have key : ∀ b o, s.heap.get? b = some o → b ≠ s.heap.objs.size := fun b o e => Nat.ne_of_lt (Heap.lt_size e)
  have st0 : Stp D s { s with heap := h₀, toks := s.toks + (names.zip vs).length } := Stp.grow hkeep rfl rfl
  have gb0 : GB (s.heap.objs.size :: O) G h₀ := fun h' k => gb h' fun b o' hb e => k b o' (fun hm => by
    rcases List.mem_cons.mp hm with e' | hm
    · exact key b o' e e'
    · exact hb hm) (hkeep b o' e)
  have hrV : ∀ {a v}, VR (O ++ D) s.heap a v → VR (cxOf prog w K (A.deeper (callEnv fd s.heap.objs.size f)) (callEnv fd s.heap.objs.size f) O D).V h₀ a v := fun {a v} r =>
    VR.keeps (fun b o' hb e => ⟨hkeep b o' e, fun hm => by
      rcases List.mem_append.mp hm with hm | hm
      · rcases List.mem_cons.mp hm with e' | hm
        · exact key b o' e e'
        · exact hb (List.mem_append_left _ hm)
      · exact hb (List.mem_append_right _ hm)⟩) a v r
  have at0 : At (cxOf prog w K (A.deeper (callEnv fd s.heap.objs.size f)) (callEnv fd s.heap.objs.size f) O D) (names.zip as).reverse [] G { s with heap := h₀, toks := s.toks + (names.zip vs).length } := by
    refine ⟨⟨_, hns, fun x a e => ?_⟩, fun x a e => by simp at e, fun hm => hDO _ hm (List.mem_cons_self ..), gb0, ?_⟩
    · have := lookup_rel (V := O ++ D) (h := s.heap) names as vs [] [] hr (fun _ _ e => by simp at e) x a (by simpa using e)
      obtain ⟨v, h1, h2⟩ := this
      exact ⟨v, by simpa using h1, hrV h2⟩
    · have hin : ∀ v ∈ (cxOf prog w K (A.deeper (callEnv fd s.heap.objs.size f)) (callEnv fd s.heap.objs.size f) O D).V, v = s.heap.objs.size ∨ v ∈ O ++ D := fun v hv => by
        rcases List.mem_append.mp hv with hm | hm
        · rcases List.mem_cons.mp hm with e | hm
          · exact .inl e
          · exact .inr (List.mem_append_left _ hm)
        · exact .inr (List.mem_append_right _ hm)
      have nlt : cStatics < s.heap.objs.size := let ⟨_, hn, _⟩ := gd.nl; hn.lt
      refine ⟨fun a o' e => hkeep _ _ (gd.k a o' e), gd.nl.keeps hkeep, fun v hv => ?_, fun v hv => ?_⟩
      · rcases hin v hv with rfl | hv
        · refine ⟨?_, Nat.ne_of_gt nlt⟩
          cases q : K.lookup s.heap.objs.size with
          | none => exact q
          | some o' => exact absurd (Heap.lt_size (gd.k _ _ q)) (Nat.lt_irrefl _)
        · exact gd.hi v hv
      · rcases hin v hv with rfl | hv
        · obtain ⟨o', _, _, e', _⟩ := hns; exact ⟨o', e'⟩
        · obtain ⟨o', e'⟩ := gd.lt v hv; exact ⟨o', hkeep _ _ e'⟩
  have main := (h _ s.heap.objs.size O hA' hDO).run _ at0
  refine wpAny_mono main ?_ (fun _ _ x => x.elim)
  rintro fl s' ⟨fa, m', mc', G', rf, x', y', kk⟩
  have stp : Stp D s s' := by
    refine ⟨fun b o' hb e => y'.keep b o' (fun hm => ?_) (hkeep b o' e), fun b o' e => y'.there b o' (hkeep b o' e), y'.gens, y'.os⟩
    rcases List.mem_append.mp hm with hm | hm
    · exact key b o' e (List.mem_singleton.mp hm)
    · exact hb hm
  have gb' : GB O G' s'.heap := fun h' k => x'.g h' fun b o' hb e => k b o' (fun hm => hb (List.mem_cons_of_mem _ hm)) e
  have back : ∀ {a v}, VR (cxOf prog w K (A.deeper (callEnv fd s.heap.objs.size f)) (callEnv fd s.heap.objs.size f) O D).V s'.heap a v → VR (O ++ D) s'.heap a v := fun {a v} r =>
    VR.keeps (fun b o' hb e => ⟨e, fun hm => hb (by
      rcases List.mem_append.mp hm with hm | hm
      · exact List.mem_append_left _ (List.mem_cons_of_mem _ hm)
      · exact List.mem_append_right _ hm)⟩) a v r
  cases fa with
  | next => cases rf; exact ⟨_, .none, G', rfl, rfl, gb', stp, kk⟩
  | brk => exact kk.elim
  | cont => exact kk.elim
  | ret a => obtain ⟨v, rfl, rv⟩ := rf; exact ⟨v, a, G', rfl, back rv, gb', stp, kk⟩


/-- a new list of a slice and an int: both lists are new -/
theorem EV.drawNew {c : Cx} {m mc : LM} {G : Heap → Prop} {K : AK} {n : Nat} {value hi e2 : Expr} {p pos1 pos : Pos} (ok : CxOk c n)
    (h : EV c m mc G value fun a G1 => EV c m mc G1 hi fun b G2 => ∃ (ns : List Int) (i : Int), a = .lst (ns.map .int) ∧ b = .int i ∧ 0 ≤ i ∧ ns.length ≤ sizeLine ∧ EV c m mc G2 e2 fun d G3 => ∃ sd, d = .int sd ∧
      ∀ dd ll, dd ∉ c.V → ll ∉ c.V → dd ≠ ll → c.env.locals < dd → c.env.locals < ll → K (.raw (.ref dd)) (fun h => DR dd ll (ns.take i.toNat) sd h ∧ G3 h))
    (he : backTo pos (starEach [.Subscript value (.Slice Option.none (some hi) Option.none p) pos1, e2] c.env) = [(false, eval (.Subscript value (.Slice Option.none (some hi) Option.none p) pos1) c.env), (false, eval e2 c.env)] := by rfl) :
    EV c m mc G (.List [.Subscript value (.Slice Option.none (some hi) Option.none p) pos1, e2] pos) K := ⟨fun s x0 => by
  refine wpAny_List ?_
  rw [he]
  refine Calls.spliced_cons ?_
  refine Subscript_ (wpAny_imp (h.run s x0) ?_)
  rintro v s1 ⟨a, G1, ra, x1, y1, h1⟩
  refine wpAny_Slice ?_
  rw [evalPart_none]
  refine wpAny_pure (wpAny_imp (h1.run s1 x1) ?_)
  rintro vl s2 ⟨b, G2, rb, x2, y2, ns, i, rfl, rfl, h0, hz, h2⟩
  obtain ⟨Lx, vs, n, rfl, hL, ho, hvs⟩ := VR.step ra y2
  obtain ⟨ti, rfl⟩ := rb
  have hl : s2.heap.IsList Lx vs.toArray := ⟨_, ho, rfl, n, rfl⟩
  have hvl : vs.length = ns.length := by have := hvs.length; simpa using this
  refine wpAny_pure (tail_any (hl.push _).typeIs slot_list_getitem.lookup (wpAny_getItem_list_slice (lo := Option.none) (hi := some i) (st := Option.none) (hl.push _) (Heap.IsSliceOf.new ..) .none (.int i ti) .none (by simp) ?_ (by rw [List.size_toArray, hvl]; exact hz)) (by rfl))
  rw [Heap.size_push]
  have st : Stp [] s2 { s2 with heap := (s2.heap.push { cls := .type "slice", data := .fields #[.none, .int i ti, .none] }).push { cls := .type "list", data := .seq (slicePick vs.toArray Option.none (some i) Option.none) } } := Stp.grow (fun b o e => Heap.get?_push_of_some _ (Heap.get?_push_of_some _ e)) rfl rfl
  have hls : (((s2.heap.push { cls := .type "slice", data := .fields #[.none, .int i ti, .none] }).push { cls := .type "list", data := .seq (slicePick vs.toArray Option.none (some i) Option.none) }).get? (s2.heap.objs.size + 1)) = some (LObj (vs.take i.toNat) 0) := by
    rw [show slicePick vs.toArray Option.none (some i) Option.none = (vs.take i.toNat).toArray from by
      have := slicePick_upto' vs.toArray i.toNat
      rw [show ((i.toNat : Nat) : Int) = i by omega] at this
      simpa using this]
    exact push2 rfl
  have hn2 : s2.heap.get? (s2.heap.objs.size + 1) = Option.none := get_ge (Nat.le_succ _)
  have hlt2 : c.env.locals < s2.heap.objs.size + 1 := by
    obtain ⟨f, ⟨o, es, ep, e, _⟩, _⟩ := x2.loc
    exact Nat.lt_succ_of_lt (Heap.lt_size e)
  generalize hs3 : ({ s2 with heap := (s2.heap.push { cls := .type "slice", data := .fields #[.none, .int i ti, .none] }).push { cls := .type "list", data := .seq (slicePick vs.toArray Option.none (some i) Option.none) } } : Shared) = s3 at st
  replace hls : s3.heap.get? (s2.heap.objs.size + 1) = some (LObj (vs.take i.toNat) 0) := by rw [← hs3]; exact hls
  show wpAny _ _ _ _ _ _
  generalize s2.heap.objs.size + 1 = l at *
  have hlV : l ∉ c.V := fun h => by obtain ⟨o, e⟩ := x2.gd.lt l h; rw [hn2] at e; cases e
  have x3 := x2.pure st
  refine Calls.spliced_cons (wpAny_imp (h2.run s3 x3) ?_)
  rintro v2 s4 ⟨d, G3, rd, x4, y4, sd, rfl, hK⟩
  obtain ⟨ts, rfl⟩ := rd
  refine Calls.spliced_nil ?_
  refine ⟨by show 2 ≤ sizeLine; decide, ?_⟩
  have hl4 : s4.heap.get? l = some (LObj (vs.take i.toNat) 0) := y4.keep l _ (fun h => hlV (c.D_sub _ h)) hls
  have hdV : s4.heap.objs.size ∉ c.V := x4.gd.fresh
  have hdl : s4.heap.objs.size ≠ l := fun q => by rw [← q] at hl4; rw [get_fresh] at hl4; cases hl4
  have hlt4 : c.env.locals < s4.heap.objs.size := by
    obtain ⟨f, ⟨o, es, ep, e, _⟩, _⟩ := x4.loc
    exact Heap.lt_size e
  have st4 : Stp [] s4 { s4 with heap := s4.heap.push { cls := .type "list", data := .seq [Value.ref l, .int sd ts].toArray } } := .push _ _
  have hDR : DR s4.heap.objs.size l (ns.take i.toNat) sd (s4.heap.push { cls := .type "list", data := .seq [Value.ref l, .int sd ts].toArray }) := by
    refine ⟨⟨ts, _, Heap.get?_push_size _ rfl, rfl, 0, rfl⟩, vs.take i.toNat, 0, Heap.get?_push_of_some _ hl4, ?_⟩
    rw [List.map_take]
    exact VRs.take _ (ints_any hvs)
  refine ⟨.raw (.ref s4.heap.objs.size), _, rfl, ?_, y1.trans (y2.trans ((st.mono (by simp)).trans (y4.trans (st4.mono (by simp))))), hK _ _ hdV hlV hdl hlt4 hlt2⟩
  have x5 := x4.pure st4
  refine ⟨x5.loc, x5.cel, x5.locD, fun h' k => ⟨(DR.loc _ _ _ _).loc _ h' (fun b hb o e => k b o (fun hO => ?_) e) hDR, x5.g h' k⟩, x5.gd⟩
  rcases List.mem_cons.mp hb with q | hb
  · exact hdV (q ▸ List.mem_append_left _ hO)
  · exact hlV (List.mem_singleton.mp hb ▸ List.mem_append_left _ hO)⟩
end Mine
end

-- part W58
section
open PySem PySem.W PyProof.Rows
set_option Elab.async false
set_option linter.unusedVariables false
set_option maxRecDepth 100000
namespace Mine

/-- b goes from D to own, N (new) comes to D -/
def Cx.more (c : Cx) (b : Addr) (N : List Addr) : Cx := { c with own := c.own ++ [b], D := N ++ c.D.filter (fun d => decide (d ≠ b)) }
theorem Cx.more_O {c : Cx} {b p : Addr} {N : List Addr} : p ∈ (c.more b N).O ↔ p = b ∨ p ∈ c.O := Cx.take_O (c := c)
theorem Cx.more_V {c : Cx} {b p : Addr} {N : List Addr} (hb : b ∈ c.D) : p ∈ (c.more b N).V ↔ p ∈ N ∨ p ∈ c.V := by
  have := Cx.take_V (c := c) (p := p) hb
  unfold Cx.V at this ⊢
  rw [List.mem_append] at this ⊢
  show p ∈ (c.take b).O ∨ p ∈ N ++ (c.take b).D ↔ _
  rw [List.mem_append]
  constructor
  · rintro (h | h | h)
    · exact .inr (this.mp (.inl h))
    · exact .inl h
    · exact .inr (this.mp (.inr h))
  · rintro (h | h)
    · exact .inr (.inl h)
    · rcases this.mpr h with h | h
      · exact .inl h
      · exact .inr (.inr h)
theorem CxOk.more {c : Cx} {n : Nat} {b : Addr} {N : List Addr} (ok : CxOk c n) (hb : b ∈ c.D) (hN : ∀ d ∈ N, d ∉ c.V) : CxOk (c.more b N) n := ⟨ok.a, fun d hd h => by
  have hd : d ∈ N ++ (c.take b).D := hd
  rcases List.mem_append.mp hd with hd | hd
  · rcases Cx.more_O.mp h with q | q
    · exact hN d hd (q ▸ c.D_sub b hb)
    · exact hN d hd (List.mem_append_left _ q)
  · exact (CxOk.take (b := b) ok).d d hd h⟩
theorem EnvOk.more {c : Cx} {b : Addr} {N : List Addr} (E : EnvOk c) : EnvOk (c.more b N) := ⟨List.mem_append_left _ E.own, E.cells, E.kind⟩

theorem XS.cellInD {c : Cx} {m mc : LM} {G : Heap → Prop} {KF : FK} {x : Str} {xp pos : Pos} {e : Expr} {rest : List Stmt} {b : Addr} (E : EnvOk c) (hl : c.env.kindOf x = some .cell) (hc : c.env.cells.lookup x = some b)
    (hb : b ∈ c.D) (hbO : b ∉ c.O) (hs : swapsWith e (some (.Name x xp)) pos.line c.env = pure false)
    (h : ∀ s, At c m mc G s → wpAny c.M c.A (eval e c.env) (fun v s1 => ∃ (N : List Addr) (G2 : Heap → Prop), (∀ p ∈ N, s.heap.get? p = none ∧ ∃ o, s1.heap.get? p = some o) ∧ Stp c.D s s1 ∧ s1.heap.IsCell b none ∧
      (∀ h', (∀ p o, p ∉ c.O → p ≠ b → s1.heap.get? p = some o → h'.get? p = some o) → G2 h') ∧ XS (c.more b N) m ((x, .raw v) :: mc) G2 rest fun fa _ _ G' => KF fa [] [] G') NoE s) :
    XS c m mc G (.Assign [.Name x xp] e pos :: rest) KF := ⟨fun s x0 => by
  refine wpAny_execs_cons (wpAny_Assign_Name (wpAny_imp (h s x0) ?_) hs)
  rintro v s1 ⟨N, G2, hN, y1, hcell, hG, hrest⟩
  refine wpAny_storeName_cell E.kind hl hc hcell fun h' hc' hs' => ?_
  have keep : ∀ p o, p ≠ b → s1.heap.get? p = some o → h'.get? p = some o := hs'.extBut
  have y2 : Stp c.D s1 { s1 with heap := h' } := ⟨fun p o hp e => keep p o (fun q => hp (q ▸ hb)) e, fun p o e => (by
    by_cases q : p = b
    · subst q; obtain ⟨o', e', _⟩ := hc'; exact ⟨o', e'⟩
    · exact ⟨o, keep p o q e⟩), .refl _, rfl⟩
  have lb : c.env.locals ≠ b := fun q => hbO (q ▸ List.mem_append_left _ E.own)
  have old : ∀ p o, s.heap.get? p = some o → p ∉ N := fun p o e h => by rw [(hN p h).1] at e; cases e
  have mV : ∀ {p}, p ∈ (c.more b N).V ↔ p ∈ N ∨ p ∈ c.V := Cx.more_V hb
  have kD : ∀ p o, p ∉ c.D → s.heap.get? p = some o → h'.get? p = some o := fun p o hp e => keep p o (fun q => hp (q ▸ hb)) (y1.keep p o hp e)
  have rr : ∀ {a v}, VR c.V s.heap a v → VR (c.more b N).V h' a v := fun {a v} r => VR.keeps (fun p o hp e => ⟨kD p o (fun h => hp (c.D_sub p h)) e, fun h => by
    rcases mV.mp h with q | q
    · exact old p o e q
    · exact hp q⟩) a v r
  have x2 : At (c.more b N) m ((x, .raw v) :: mc) G2 { s1 with heap := h' } := by
    refine ⟨?_, fun n a' e => ?_, fun h => ?_, fun h'' k => ?_, ?_⟩
    · obtain ⟨f, ⟨o, es, ep, ho, q⟩, hf⟩ := x0.loc
      exact ⟨f, ⟨o, es, ep, kD _ _ x0.locD ho, q⟩, fun n a e => let ⟨v, e1, e2⟩ := hf n a e; ⟨v, e1, rr e2⟩⟩
    · rw [List.lookup_cons] at e
      cases q : n == x with
      | true =>
        rw [q] at e; cases e
        have q' := beq_iff_eq.mp q
        subst q'
        refine ⟨b, v, hc, (fun h => ?_), hc', rfl⟩
        rcases List.mem_append.mp h with h | h
        · obtain ⟨o, e⟩ := x0.gd.lt b (c.D_sub b hb)
          exact old b o e h
        · have := (List.mem_filter.mp h).2; simp at this
      | false =>
        rw [q] at e
        obtain ⟨p, v', h1, h2, ⟨o, ho, hd⟩, h3⟩ := x0.cel n a' e
        refine ⟨p, v', h1, fun h => ?_, ⟨o, kD _ _ h2 ho, hd⟩, rr h3⟩
        rcases List.mem_append.mp h with h | h
        · exact old p o ho h
        · exact h2 (List.mem_filter.mp h).1
    · obtain ⟨f, ⟨o, es, ep, ho, q⟩, hf⟩ := x0.loc
      rcases List.mem_append.mp h with h | h
      · exact old _ o ho h
      · exact x0.locD (List.mem_filter.mp h).1
    · refine hG h'' fun p o hp hpb e => k p o (fun h => ?_) (keep p o hpb e)
      rcases Cx.more_O.mp h with q | q
      · exact hpb q
      · exact hp q
    · have gd := (x0.gd.step y1 c.D_sub).step y2 c.D_sub
      refine ⟨gd.k, gd.nl, fun v hv => ?_, fun v hv => ?_⟩
      · rcases mV.mp hv with q | q
        · have hn := (hN v q).1
          refine ⟨?_, ?_⟩
          · cases q : c.K.lookup v with
            | none => exact q
            | some o => rw [x0.gd.k _ _ q] at hn; cases hn
          · rintro rfl
            obtain ⟨_, ⟨o, _, _, ho, _⟩, _⟩ := x0.gd.nl
            rw [ho] at hn; cases hn
        · exact gd.hi v q
      · rcases mV.mp hv with q | q
        · obtain ⟨o, e⟩ := (hN v q).2
          exact y2.there v o e
        · exact gd.lt v q
  refine wpAny_imp (hrest.run _ x2) ?_
  rintro f s3 ⟨fa, m3, mc3, G3, rf, x3, y3, k3⟩
  refine ⟨fa, [], [], G3, FRel.keeps (fun p o hp e => ⟨e, fun h => hp (mV.mpr (.inr h))⟩) fa f rf, ⟨?_, (fun n a e => by cases e), x0.locD, fun h'' k => x3.g h'' fun p o hp e => k p o (fun h => hp (Cx.more_O.mpr (.inr h))) e, ?_⟩, ?_, k3⟩
  · obtain ⟨f', hn, _⟩ := x3.loc
    exact ⟨f', hn, fun n a e => by cases e⟩
  · exact ⟨x3.gd.k, x3.gd.nl, fun v hv => x3.gd.hi v (mV.mpr (.inr hv)), fun v hv => x3.gd.lt v (mV.mpr (.inr hv))⟩
  · have y12 := y1.trans y2
    have y3 : Stp ((c.own ++ [b]) ++ (N ++ c.D.filter (fun d => decide (d ≠ b)))) { s1 with heap := h' } s3 := y3
    refine ⟨fun p o hp e => y3.keep p o (fun h => ?_) (y12.keep p o (fun h => hp (List.mem_append_right _ h)) e), fun p o e => let ⟨o1, e1⟩ := y12.there p o e; y3.there p o1 e1, y12.gens.trans y3.gens, y3.os.trans y12.os⟩
    rcases List.mem_append.mp h with h | h
    · rcases List.mem_append.mp h with h | h
      · exact hp (List.mem_append_left _ h)
      · exact hp (List.mem_append_right _ (List.mem_singleton.mp h ▸ hb))
    · rcases List.mem_append.mp h with h | h
      · exact old p o e h
      · exact hp (List.mem_append_right _ (List.mem_filter.mp h).1)⟩
end Mine
end

-- part W51
section
open PySem PySem.W PyProof.Rows PySem.SeqAt
set_option Elab.async false
set_option linter.unusedVariables false
set_option maxRecDepth 100000
set_option pp.maxSteps 300
set_option pp.deepTerms false
namespace Mine
local macro_rules | `(tactic| got_up) => `(tactic| first
  | refine EV.localI 0 rfl (by rfl) rfl (by kernel_rfl) ?_ (by kernel_rfl)
  | refine EV.localI 1 rfl (by rfl) rfl (by kernel_rfl) ?_ (by kernel_rfl)
  | refine EV.localI 2 rfl (by rfl) rfl (by kernel_rfl) ?_ (by kernel_rfl)
  | refine EV.localI 3 rfl (by rfl) rfl (by kernel_rfl) ?_ (by kernel_rfl)
  | refine EV.localI 4 rfl (by rfl) rfl (by kernel_rfl) ?_ (by kernel_rfl)
  | refine EV.localI 5 rfl (by rfl) rfl (by kernel_rfl) ?_ (by kernel_rfl)
  | refine EV.localI 6 rfl (by rfl) rfl (by kernel_rfl) ?_ (by kernel_rfl))
local macro_rules | `(tactic| leaf_len) => `(tactic| first
  | refine EV.str ?_ | refine EV.int ?_ | refine EV.none ?_ | refine EV.bool ?_
  | refine EV.binop ?_ | refine EV.sub ?_ | refine EV.cmp ?_ | refine EV.ifexp ?_ | refine EV.tuple ?_ | refine EV.list ?_
  | refine EA.cons ?_ | refine EA.nil ?_
  | got_up
  | refine OS.tup (by decide) (by decide) rfl rfl ?_
  | refine OB.add_str ?_ ?_
  | refine OB.add ?_
  | refine OC.lt ?_ | refine OC.le ?_ | refine OC.gt ?_ | refine OC.ge ?_
  | refine XS.cons ?_ | refine X1.ret ?_ | refine X1.iff ?_ | refine XS.nil ?_
  | refine X1.assign (cxOf_env rfl rfl) (by kernel_rfl) rfl ?_
  | refine BT.cmp ?_)
theorem strs_any {V V' h h'} : ∀ {xs : List Str} {vs : List Value}, VRs V h (xs.map .str) vs → VRs V' h' (xs.map .str) vs
  | [], _, x => x
  | _ :: _, _, ⟨v, vr, e, x, y⟩ => ⟨v, vr, e, x, strs_any y⟩
def LsS (r : Addr) (xs : List Str) (h : Heap) : Prop := ∃ vs n, h.get? r = some (LObj vs n) ∧ VRs [] h (xs.map .str) vs
theorem LsS.loc (r xs) : Loc [r] (LsS r xs) := ⟨fun h h' k ⟨vs, n, e, v⟩ => ⟨vs, n, k r (by simp) _ e, strs_any v⟩⟩
theorem LsS.at {r xs h} (V) (x : LsS r xs h) : LsAt V r (xs.map .str) h := let ⟨vs, n, e, v⟩ := x; ⟨vs, n, e, strs_any v⟩
theorem OF.appendS {c : Cx} {m mc : LM} {K : AK} {n : Nat} {r : Addr} {xs : List Str} {y : Str} (ok : CxOk c n) (hr : r ∈ c.D) (hz : xs.length ≤ sizeLine) (k : K .none (LsS r (xs ++ [y]))) : OF c m mc (LsS r xs) (.builtin "list.append") [.raw (.ref r), .str y] K :=
  OF.append (G2 := LsS r (xs ++ [y])) hr (fun s v at0 rv => by
    obtain ⟨vs, n', e, hv⟩ := at0.g.here
    obtain ⟨t, rfl⟩ := rv
    refine ⟨vs, n', e, by rw [hv.length]; simpa using hz, fun h' n'' e' kp => (LsS.loc r _).gb (fun b hb => by rw [List.mem_singleton.mp hb]; exact ok.d r hr) ⟨_, n'', e', ?_⟩⟩
    rw [List.map_append]
    exact VRs.snoc (strs_any hv) ⟨t, rfl⟩) k

def visAt (p : Str × Bool) : Bool := !p.2 && (((Txt.rstrip p.1).length : Int) != 0)
def stepV (l : Int) (q : (Str × Bool) × Nat) : Int := if visAt q.1 then (q.2 : Int) else l
def lastV (its : List (Str × Bool)) : Int := its.zipIdx.foldl stepV (-1)
def pick (last : Int) (q : (Str × Bool) × Nat) : Option Str := if decide ((q.2 : Int) < last) then some q.1.1 else if (q.2 : Int) == last then some (Txt.rstrip q.1.1) else if q.1.2 then some q.1.1 else none
def resV (last : Int) (its : List (Str × Bool)) : List Str := its.zipIdx.filterMap (pick last)
def rstripP (its : List (Str × Bool)) : Str := if lastV its == -1 then Str.ofString "" else Txt.join (Str.ofString "") (resV (lastV its) its)

theorem rstrip_le (x : Str) : (Txt.rstrip x).length ≤ x.length := by
  unfold Txt.rstrip Txt.stripBy
  split
  · exact Nat.le_refl _
  · show (x.cps.extract _ _).size ≤ x.cps.size
    rw [Array.size_extract]; omega
theorem num_get {its : List (Str × Bool)} {i : Nat} {a : AV} (h : (numAV (its.map itAV))[i]? = some a) : ∃ p, its[i]? = some p ∧ a = .tup [.int (i : Int), itAV p] := by
  unfold numAV at h
  rw [List.getElem?_map, List.getElem?_zipIdx, List.getElem?_map] at h
  cases q : its[i]? with
  | none => rw [q] at h; cases h
  | some p => rw [q] at h; simp at h; exact ⟨p, rfl, h.symm⟩
theorem take_zip {α : Type} {l : List α} {i : Nat} {p : α} (h : l[i]? = some p) : l.zipIdx.take (i + 1) = l.zipIdx.take i ++ [(p, i)] := by
  rw [List.take_add_one, List.getElem?_zipIdx, h]
  simp

theorem norm_of {m m0 : LM} (h : m0.all (fun p => decide (True)) = true) (hp : ∀ p ∈ m0, m.lookup p.1 = some p.2) : ∀ n a, m0.lookup n = some a → m.lookup n = some a := fun n a e => hp (n, a) (mem_of_lookup e)
theorem norm2 {m : LM} {n1 n2 : Str} {a1 a2 : AV} (h1 : m.lookup n1 = some a1) (h2 : m.lookup n2 = some a2) : ∀ n a, List.lookup n [(n1, a1), (n2, a2)] = some a → m.lookup n = some a :=
  norm_of rfl fun p hp => by
    rcases List.mem_cons.mp hp with rfl | hp
    · exact h1
    · rw [List.mem_singleton.mp hp]; exact h2

theorem rstrip_ct {w : World} {n : Nat} {D : List Addr} {G : Heap → Prop} {sv : AV} {x : Str} {its : List (Str × Bool)} (hx : x.cps.size ≤ 4000000) (hsg : Sg x 0 0 (its.map itAV)) (hn : its.length ≤ 1000000)
    (hz : ∀ it ∈ its, it.1.length ≤ 4000000) (hj : JoinOk (Str.ofString "") (resV (lastV its) its) = true) :
    CT PG w (KH w) (n + 30) D (.ref 408) [sv, .str x] G (fun a G' => a = .str (rstripP its) ∧ G' = G) := by
  refine CT.def (o := Mine.hz.zo_382 w.params) (names := [Str.ofString "self", Str.ofString "text"]) (by kernel_rfl) (hd := by rfl) (hb := by rfl) (by kernel_rfl) (hbind := ?_) (by decide +kernel) (by decide +kernel) rfl rfl rfl rfl ?_
  · intro vs s V X hr
    obtain ⟨v, vr, rfl, r1, v2, vr2, rfl, r2, rfl⟩ := hr
    exact BindsTo.of_eq rfl
  · intro A L O hA hD
    have hlen : (numAV (its.map itAV)).length = its.length := by unfold numAV; simp
    refine XS.cons (X1.expr rfl rfl (EV.str ?_))
    refine XS.cons ?_
    leaf_len
    refine EV.listGen (n := 20) 55 (cxOf_env rfl rfl) (by intro p hp; cases hp) (by kernel_rfl) (by kernel_rfl) (by kernel_rfl) (by kernel_rfl) (by kernel_rfl) (hA.mono (by omega)) ?_
    repeat leaf_len
    refine ⟨_, iter_gct w (n := 10) hx hsg, by rw [List.length_map]; unfold sizeLine; omega, ?_⟩
    refine XS.cons ?_
    leaf_len
    refine EV.neg (EV.int ⟨_, rfl, ?_⟩)
    refine XS.cons (X1.forT (cxOf_env rfl rfl) hA.handled (by intro p hp; cases hp) (by intro _; rfl)
      (fun i m mc G' => G' = G ∧ mc = [] ∧ List.lookup (Str.ofString "last_vis") m = some (.int ((its.zipIdx.take i).foldl stepV (-1))) ∧ List.lookup (Str.ofString "segments") m = some (.lst (its.map itAV))) ?_)
    refine IT.enum (by kernel_rfl) (by kernel_rfl) hA.handled rfl ?_
    repeat leaf_len
    refine ⟨_, rfl, ⟨rfl, rfl, by rfl, by rfl⟩, fun i a m' mc' G' hia hinv W hW => ?_, fun m' mc' G' hinv => ?_⟩
    · obtain ⟨rfl, rfl, hlv, hseg⟩ := hinv
      obtain ⟨⟨t, b⟩, hit, rfl⟩ := num_get hia
      have htz : t.length ≤ 4000000 := hz (t, b) (List.mem_of_getElem? hit)
      have hstep : (its.zipIdx.take (i + 1)).foldl stepV (-1) = if visAt (t, b) then (i : Int) else (its.zipIdx.take i).foldl stepV (-1) := by
        rw [take_zip hit, List.foldl_append]; rfl
      refine ⟨_, TG.pair hA.handled (TG.name (EnvOk.wide (cxOf_env rfl rfl)) (by kernel_rfl)) (TG.pair hA.handled (TG.name (EnvOk.wide (cxOf_env rfl rfl)) (by kernel_rfl)) (TG.name (EnvOk.wide (cxOf_env rfl rfl)) (by kernel_rfl)) rfl) rfl, ?_⟩
      have no : visAt (t, b) = false → List.lookup (Str.ofString "last_vis") ((Str.ofString "is_seq", AV.bool b) :: (Str.ofString "segment", AV.str t) :: (Str.ofString "i", AV.int (i : Int)) :: m') = some (.int ((its.zipIdx.take (i + 1)).foldl stepV (-1))) ∧
          List.lookup (Str.ofString "segments") ((Str.ofString "is_seq", AV.bool b) :: (Str.ofString "segment", AV.str t) :: (Str.ofString "i", AV.int (i : Int)) :: m') = some (.lst (its.map itAV)) := fun h => by
        rw [hstep, h]
        exact ⟨(lk_skip (by rfl)).trans ((lk_skip (by rfl)).trans ((lk_skip (by rfl)).trans hlv)), (lk_skip (by rfl)).trans ((lk_skip (by rfl)).trans ((lk_skip (by rfl)).trans hseg))⟩
      refine XS.cons (X1.iff (BT.and (BT.not (BT.plain (EV.localI 0 rfl (by rfl) rfl (by kernel_rfl) ⟨b, rfl, (fun x e => by cases e), fun hb => ?_, fun hb => ?_⟩ (by kernel_rfl))))))
      · refine BT.and (BT.plain ?_)
        refine EV.meth "str" "str.rstrip" rfl rfl rfl PySem.F.plainAttrs_str F.slot_str_rstrip F.type_str_rstrip ?_
        refine EV.localI 1 rfl (by rfl) rfl (by kernel_rfl) ?_ (by kernel_rfl)
        refine ⟨fun v s x hv => (by obtain ⟨tk, rfl⟩ := hv; exact ⟨typeIs_str _ _ _, fun p e => by cases e⟩), CW.of rfl (EA.nil (OF.rstrip (by show t.length ≤ sizeLine; unfold sizeLine; omega) ⟨_, rfl, (fun y e => by cases e; exact Nat.le_trans (rstrip_le t) (by unfold sizeLine; omega)), ?_, ?_⟩))⟩
        · intro h
          refine BT.andNil ⟨fun _ => ?_, fun h => (by cases h)⟩
          refine XS.cons (X1.assign (EnvOk.wide (cxOf_env rfl rfl)) (by kernel_rfl) rfl ?_)
          refine EV.localI 2 rfl (by rfl) rfl (by kernel_rfl) ?_ (by kernel_rfl)
          repeat refine XS.nil ?_
          refine ⟨rfl, rfl, ?_, ?_⟩
          · rw [hstep, show visAt (t, b) = true from by unfold visAt; rw [hb]; exact h]
            exact lk_here (by rfl)
          · exact (lk_skip (by rfl)).trans ((lk_skip (by rfl)).trans ((lk_skip (by rfl)).trans ((lk_skip (by rfl)).trans hseg)))
        · intro h
          refine ⟨fun h => (by cases h), fun _ => ?_⟩
          repeat refine XS.nil ?_
          exact ⟨rfl, rfl, no (by unfold visAt; rw [hb]; exact h)⟩
      · refine ⟨fun h => (by cases h), fun _ => ?_⟩
        repeat refine XS.nil ?_
        exact ⟨rfl, rfl, no (by unfold visAt; rw [hb]; rfl)⟩
    · obtain ⟨rfl, rfl, hlv, hseg⟩ := hinv
      rw [hlen, show its.length = its.zipIdx.length from (List.length_zipIdx).symm, List.take_length] at hlv
      replace hlv : List.lookup (Str.ofString "last_vis") m' = some (.int (lastV its)) := hlv
      refine XS.norm (m0 := [(Str.ofString "last_vis", .int (lastV its)), (Str.ofString "segments", .lst (its.map itAV))]) ?_ (norm2 hlv hseg)
      clear hlv hseg
      refine XS.cons (X1.iff (BT.cmp ?_))
      refine EV.localI 0 rfl (by rfl) rfl (by kernel_rfl) ?_ (by kernel_rfl)
      refine EV.neg (EV.int ⟨_, rfl, ?_⟩)
      refine OC.eq (cxOf_ok hA hD) rfl rfl ⟨_, rfl, fun h => ?_, fun h => ?_⟩
      · refine XS.cons (X1.ret (EV.str ⟨?_, rfl⟩))
        unfold rstripP
        rw [show (lastV its == -1) = true from h]
        rfl
      · have hne : (lastV its == -1) = false := h
        repeat refine XS.nil ?_
        have hG : (fun h2 => True ∧ G' h2) = G' := by funext h2; simp
        refine XS.fill (cxOf_ok hA hD) (cxOf_env rfl rfl) (by intro p hp; cases hp) (by kernel_rfl) rfl [] (by intro b hb; cases hb) (fun _ => True) G' (fun _ _ => trivial) Loc.true (fun h h2 g k => g.keeps fun b o hb e => k b o hb (by simp) e) (fun r hr => ?_)
        refine X1.weak (G2 := LsS r []) (fun h x => ⟨[], 0, x.2, rfl⟩) ?_
        refine X1.forT (EnvOk.fr (cxOf_env rfl rfl)) hA.handled (by intro p hp; cases hp) (by intro _; rfl)
          (fun i m mc G' => G' = LsS r ((its.zipIdx.take i).filterMap (pick (lastV its))) ∧ mc = [] ∧ List.lookup (Str.ofString "result") m = some (.raw (.ref r)) ∧ List.lookup (Str.ofString "last_vis") m = some (.int (lastV its))) ?_
        refine IT.enum (by kernel_rfl) (by kernel_rfl) hA.handled rfl ?_
        repeat leaf_len
        refine ⟨_, rfl, ⟨rfl, rfl, by rfl, by rfl⟩, fun i a m' mc' G' hia hinv W hW => ?_, fun m' mc' G' hinv => ?_⟩
        · obtain ⟨rfl, rfl, hres, hlv⟩ := hinv
          obtain ⟨⟨t, b⟩, hit, rfl⟩ := num_get hia
          have htz : t.length ≤ 4000000 := hz (t, b) (List.mem_of_getElem? hit)
          have htz' : t.length ≤ sizeLine := by unfold sizeLine; omega
          have ilt : i < its.length := by
            rcases Nat.lt_or_ge i its.length with h | h
            · exact h
            · rw [List.getElem?_eq_none h] at hit; cases hit
          have hstep : (its.zipIdx.take (i + 1)).filterMap (pick (lastV its)) = (its.zipIdx.take i).filterMap (pick (lastV its)) ++ (pick (lastV its) ((t, b), i)).toList := by
            rw [take_zip hit, List.filterMap_append]
            congr 1
          have hcnt : ((its.zipIdx.take i).filterMap (pick (lastV its))).length ≤ sizeLine := by
            refine Nat.le_trans (List.length_filterMap_le _ _) ?_
            rw [List.length_take, List.length_zipIdx]; unfold sizeLine; omega
          refine ⟨_, TG.pair hA.handled (TG.name (EnvOk.wide (EnvOk.fr (cxOf_env rfl rfl))) (by kernel_rfl)) (TG.pair hA.handled (TG.name (EnvOk.wide (EnvOk.fr (cxOf_env rfl rfl))) (by kernel_rfl)) (TG.name (EnvOk.wide (EnvOk.fr (cxOf_env rfl rfl))) (by kernel_rfl)) rfl) rfl, ?_⟩
          have hres' := (lk_skip (a := AV.bool b) (by rfl : (Str.ofString "result" == Str.ofString "is_seq") = false)).trans ((lk_skip (a := AV.str t) (by rfl : (Str.ofString "result" == Str.ofString "segment") = false)).trans ((lk_skip (a := AV.int (i : Int)) (by rfl : (Str.ofString "result" == Str.ofString "i") = false)).trans hres))
          have hlv' := (lk_skip (a := AV.bool b) (by rfl : (Str.ofString "last_vis" == Str.ofString "is_seq") = false)).trans ((lk_skip (a := AV.str t) (by rfl : (Str.ofString "last_vis" == Str.ofString "segment") = false)).trans ((lk_skip (a := AV.int (i : Int)) (by rfl : (Str.ofString "last_vis" == Str.ofString "i") = false)).trans hlv))
          have ok := ((cxOf_ok (prog := PG) (w := w) (K := KH w) (fd := _) hA hD).fr (D0 := []) (r := r) (by intro b hb; cases hb) hr).wide (W := W) (fun I h hd => hW I h (List.mem_append_right _ hd))
          refine XS.cons (X1.iff (BT.cmp ?_))
          refine EV.localI 2 rfl (by rfl) rfl (by kernel_rfl) ?_ (by kernel_rfl)
          refine EV.local rfl (by kernel_rfl) hlv' ?_ (by kernel_rfl)
          refine OC.lt ⟨_, rfl, fun h1 => ?_, fun h1 => ?_⟩
          · have hp : pick (lastV its) ((t, b), i) = some t := by unfold pick; rw [if_pos h1]
            refine XS.cons (X1.expr rfl rfl ?_)
            refine EV.meth "list" "list.append" rfl rfl rfl F.plainAttrs_list F.slot_list_append F.type_list_append ?_
            refine EV.local rfl (by kernel_rfl) (a := .raw (.ref r)) hres' ?_ (by kernel_rfl)
            refine ⟨fun v s x hv => (by
              cases hv
              obtain ⟨vs, nn, e, _⟩ := x.g.here
              exact ⟨⟨_, e, rfl⟩, fun p e' => (by cases e'; exact ⟨_, e, rfl⟩)⟩), CW.of rfl ?_⟩
            refine EA.cons (EV.localI 1 rfl (by rfl) rfl (by kernel_rfl) (EA.nil ?_) (by kernel_rfl))
            refine OF.appendS ok (List.mem_cons_self ..) hcnt ?_
            repeat refine XS.nil ?_
            exact ⟨by rw [hstep, hp]; rfl, rfl, hres', hlv'⟩
          · refine XS.cons (X1.iff (BT.cmp ?_))
            refine EV.localI 2 rfl (by rfl) rfl (by kernel_rfl) ?_ (by kernel_rfl)
            refine EV.local rfl (by kernel_rfl) hlv' ?_ (by kernel_rfl)
            refine OC.eq ok rfl rfl ⟨_, rfl, fun h2 => ?_, fun h2 => ?_⟩
            · have hp : pick (lastV its) ((t, b), i) = some (Txt.rstrip t) := by unfold pick; rw [if_neg (by rw [h1]; decide), if_pos (show ((i : Int) == lastV its) = true from h2)]
              refine XS.cons (X1.expr rfl rfl ?_)
              refine EV.meth "list" "list.append" rfl rfl rfl F.plainAttrs_list F.slot_list_append F.type_list_append ?_
              refine EV.local rfl (by kernel_rfl) (a := .raw (.ref r)) hres' ?_ (by kernel_rfl)
              refine ⟨fun v s x hv => (by
                cases hv
                obtain ⟨vs, nn, e, _⟩ := x.g.here
                exact ⟨⟨_, e, rfl⟩, fun p e' => (by cases e'; exact ⟨_, e, rfl⟩)⟩), CW.of rfl ?_⟩
              refine EA.cons ?_
              refine EV.meth "str" "str.rstrip" rfl rfl rfl PySem.F.plainAttrs_str F.slot_str_rstrip F.type_str_rstrip ?_
              refine EV.localI 1 rfl (by rfl) rfl (by kernel_rfl) ?_ (by kernel_rfl)
              refine ⟨fun v s x hv => (by obtain ⟨tk, rfl⟩ := hv; exact ⟨typeIs_str _ _ _, fun p e => by cases e⟩), CW.of rfl (EA.nil (OF.rstrip htz' (EA.nil ?_)))⟩
              refine OF.appendS ok (List.mem_cons_self ..) hcnt ?_
              repeat refine XS.nil ?_
              exact ⟨by rw [hstep, hp]; rfl, rfl, hres', hlv'⟩
            · refine XS.cons (X1.iff (BT.plain (EV.localI 0 rfl (by rfl) rfl (by kernel_rfl) ⟨b, rfl, (fun x e => by cases e), fun h3 => ?_, fun h3 => ?_⟩ (by kernel_rfl))))
              · have hp : pick (lastV its) ((t, b), i) = some t := by unfold pick; rw [if_neg (by rw [h1]; decide), if_neg (by rw [show ((i : Int) == lastV its) = false from h2]; decide), if_pos h3]
                refine XS.cons (X1.expr rfl rfl ?_)
                refine EV.meth "list" "list.append" rfl rfl rfl F.plainAttrs_list F.slot_list_append F.type_list_append ?_
                refine EV.local rfl (by kernel_rfl) (a := .raw (.ref r)) hres' ?_ (by kernel_rfl)
                refine ⟨fun v s x hv => (by
                  cases hv
                  obtain ⟨vs, nn, e, _⟩ := x.g.here
                  exact ⟨⟨_, e, rfl⟩, fun p e' => (by cases e'; exact ⟨_, e, rfl⟩)⟩), CW.of rfl ?_⟩
                refine EA.cons (EV.localI 1 rfl (by rfl) rfl (by kernel_rfl) (EA.nil ?_) (by kernel_rfl))
                refine OF.appendS ok (List.mem_cons_self ..) hcnt ?_
                repeat refine XS.nil ?_
                exact ⟨by rw [hstep, hp]; rfl, rfl, hres', hlv'⟩
              · have hp : pick (lastV its) ((t, b), i) = none := by unfold pick; rw [if_neg (by rw [h1]; decide), if_neg (by rw [show ((i : Int) == lastV its) = false from h2]; decide), if_neg (by rw [show b = false from h3]; exact Bool.false_ne_true)]
                repeat refine XS.nil ?_
                exact ⟨by rw [hstep, hp]; simp, rfl, hres', hlv'⟩
        · obtain ⟨rfl, rfl, hres, hlv⟩ := hinv
          rw [hlen, show its.length = its.zipIdx.length from (List.length_zipIdx).symm, List.take_length]
          refine ⟨rfl, (resV (lastV its) its).map .str, [], (fun _ => True), fun h x => ⟨trivial, LsS.at _ x⟩, (by intro n a e; cases e), hres, ?_⟩
          refine XS.cons (X1.ret ?_)
          refine EV.meth "str" "str.join" rfl rfl rfl PySem.F.plainAttrs_str F.slot_str_join F.type_str_join ?_
          refine EV.str ?_
          refine ⟨fun v s x hv => (by obtain ⟨tk, rfl⟩ := hv; exact ⟨typeIs_str _ _ _, fun p e => by cases e⟩), CW.of rfl ?_⟩
          refine EA.cons (EV.localI 0 rfl (by rfl) rfl (by kernel_rfl) (EA.nil ?_) (by kernel_rfl))
          refine OF.join hj ⟨?_, hG⟩
          unfold rstripP
          rw [hne]
          rfl
end Mine
end

-- part W59
section
open PySem PySem.W PyProof.Rows PySem.SeqAt
set_option Elab.async false
set_option linter.unusedVariables false
set_option maxRecDepth 100000
set_option pp.maxSteps 300
set_option pp.deepTerms false
namespace Mine
local macro_rules | `(tactic| got_up) => `(tactic| first
  | refine EV.localI 0 rfl (by rfl) rfl (by kernel_rfl) ?_ (by kernel_rfl)
  | refine EV.localI 1 rfl (by rfl) rfl (by kernel_rfl) ?_ (by kernel_rfl)
  | refine EV.localI 2 rfl (by rfl) rfl (by kernel_rfl) ?_ (by kernel_rfl)
  | refine EV.localI 3 rfl (by rfl) rfl (by kernel_rfl) ?_ (by kernel_rfl)
  | refine EV.localI 4 rfl (by rfl) rfl (by kernel_rfl) ?_ (by kernel_rfl)
  | refine EV.localI 5 rfl (by rfl) rfl (by kernel_rfl) ?_ (by kernel_rfl)
  | refine EV.localI 6 rfl (by rfl) rfl (by kernel_rfl) ?_ (by kernel_rfl))
local macro_rules | `(tactic| leaf_len) => `(tactic| first
  | refine EV.str ?_ | refine EV.int ?_ | refine EV.none ?_ | refine EV.bool ?_
  | refine EV.binop ?_ | refine EV.sub ?_ | refine EV.cmp ?_ | refine EV.ifexp ?_ | refine EV.tuple ?_ | refine EV.list ?_
  | refine EA.cons ?_ | refine EA.nil ?_
  | got_up
  | refine OS.tup (by decide) (by decide) rfl rfl ?_
  | refine OB.add_str ?_ ?_
  | refine OB.add ?_
  | refine OC.lt ?_ | refine OC.le ?_ | refine OC.gt ?_ | refine OC.ge ?_
  | refine XS.cons ?_ | refine X1.ret ?_ | refine X1.iff ?_ | refine XS.nil ?_
  | refine X1.assign (cxOf_env rfl rfl) (by kernel_rfl) rfl ?_
  | refine BT.cmp ?_)
theorem drawN_ct {w : World} {n : Nat} {D : List Addr} {G : Heap → Prop} {ns : List Int} (hn : ns.length ≤ 100) :
    CTL PG w (KH w) (n + 20) D (.ref 424) [.lst (ns.map .int)] G (fun L a G' => ∃ dd ll, a = .raw (.ref dd) ∧ dd ≠ ll ∧ L < dd ∧ L < ll ∧ G' = fun h => DR dd ll (drawP ns).1 (drawP ns).2 h ∧ G h) := by
  refine CTL.def (o := Mine.hz.zo_396 w.params) (names := [Str.ofString "script"]) (by kernel_rfl) (hd := by rfl) (hb := by rfl) (by kernel_rfl) (hbind := ?_) (by decide +kernel) (by decide +kernel) rfl rfl rfl rfl ?_
  · intro vs s V X hr
    obtain ⟨v, vr, rfl, r1, rfl⟩ := hr
    exact BindsTo.of_eq rfl
  · intro A L O hA hD
    refine XS.cons ?_
    leaf_len
    refine EV.int ?_
    refine XS.cons (X1.forS (cxOf_env rfl rfl) hA.handled (by rfl) (by intro p hp; cases hp) (by intro _; rfl) (by intro _ _; rfl)
      (fun i m mc G' => G' = G ∧ mc = [] ∧ List.lookup (Str.ofString "seed") m = some (.int ((ns.take i).foldl stepD 47)) ∧ List.lookup (Str.ofString "script") m = some (.lst (ns.map .int))) ?_)
    repeat leaf_len
    refine ⟨_, rfl, by simp; omega, ⟨rfl, rfl, by rfl, by rfl⟩, fun i a m' mc' G' hia hinv I hI => ?_, fun m' mc' G' hinv => ?_⟩
    · obtain ⟨rfl, rfl, hsd, hsc⟩ := hinv
      obtain ⟨x, hx, rfl⟩ : ∃ x, ns[i]? = some x ∧ AV.int x = a := by simpa [List.getElem?_map] using hia
      have hstep : (ns.take (i + 1)).foldl stepD 47 = stepD ((ns.take i).foldl stepD 47) x := by
        rw [List.take_add_one, hx]; simp [List.foldl_append]
      refine XS.cons (X1.assign (EnvOk.plus (cxOf_env rfl rfl)) (by rfl) rfl ?_)
      refine EV.binop (EV.binop (EV.binop (EV.binop ?_)))
      refine EV.local rfl (by rfl) ((lk_skip (by rfl)).trans hsd) ?_ (by kernel_rfl)
      refine EV.int (OB.mul (IntMulOk.of_right (by decide)) ?_)
      refine EV.binop (EV.callB "abs" (by kernel_rfl) (by kernel_rfl) rfl ?_)
      refine EA.cons (EV.localI 0 rfl (by rfl) rfl (by rfl) (EA.nil ?_) (by kernel_rfl))
      refine OF.abs (EV.int (OB.mod (by decide) ?_))
      refine OB.add (EV.int (OB.add (EV.int (OB.mod (by decide) ?_))))
      refine XS.nil ⟨rfl, rfl, ?_, (lk_skip (by rfl)).trans ((lk_skip (by rfl)).trans hsc)⟩
      rw [hstep]
      exact lk_here (by rfl)
    · obtain ⟨rfl, rfl, hsd, hsc⟩ := hinv
      rw [List.length_map, List.take_length] at hsd
      refine XS.cons (X1.ret (EV.drawNew (cxOf_ok hA hD) ?_))
      refine EV.comp (cl := []) (mci := []) ⟨by intro _; rfl, rfl, by decide, rfl, by decide +kernel, rfl, by intro _ _; rfl, (by intro x a e; cases e), (by intro p hp; cases hp)⟩ hA.handled (fun i outs G2 => G2 = G' ∧ outs = (ns.take i).map fun x => .int (absI x)) ?_
      refine EV.local rfl (by rfl) hsc ?_ (by kernel_rfl)
      refine ⟨_, rfl, by simp; unfold sizeLine; omega, ⟨rfl, rfl⟩, ?_, ?_⟩
      · intro C acc I i a outs G2 ml hia hinv okc
        obtain ⟨rfl, rfl⟩ := hinv
        obtain ⟨x, hx, rfl⟩ : ∃ x, ns[i]? = some x ∧ AV.int x = a := by simpa [List.getElem?_map] using hia
        refine IFs.nil ⟨fun _ => ?_, fun h => (by cases h)⟩
        refine EV.callB "abs" (by kernel_rfl) (by kernel_rfl) rfl ?_
        refine EA.cons (EV.localI 0 rfl (by rfl) rfl (by kernel_rfl) (EA.nil ?_) (by kernel_rfl))
        refine OF.abs ⟨rfl, ?_⟩
        rw [List.take_add_one, hx]
        simp [absI]
      · intro outs G2 hinv
        obtain ⟨rfl, rfl⟩ := hinv
        refine EV.int ⟨ns.map absI, 40, ?_, rfl, by decide, by simp; unfold sizeLine; omega, ?_⟩
        · rw [List.length_map, List.take_length, List.map_map]
          rfl
        refine EV.local rfl (by rfl) hsd ?_ (by kernel_rfl)
        exact ⟨_, rfl, fun dd ll _ _ h1 h2 h3 => ⟨dd, ll, rfl, h1, h2, h3, rfl⟩⟩

/-- the wrapper as the ghost tells of it -/
def WG (wr dx lid : Addr) (od : Obj) (xs : List Str) (h : Heap) : Prop := h.get? wr = some (wrObj dx) ∧ h.get? dx = some od ∧ LsS lid xs h
theorem WG.loc (wr dx lid : Addr) (od : Obj) (xs : List Str) : Loc [wr, dx, lid] (WG wr dx lid od xs) := ⟨fun h h' k ⟨h1, h2, h3⟩ => ⟨k wr (by simp) _ h1, k dx (by simp) _ h2, (LsS.loc lid xs).loc h h' (fun b hb => k b (by simp at hb; simp [hb])) h3⟩⟩

theorem ga411 (w : World) : findIn (KH w) (.ref 411) "__getattribute__" = some (some (.builtin "object.__getattribute__")) := by kernel_rfl
theorem gt411 (w : World) : findIn (KH w) (.ref 411) "__getattr__" = some none := by kernel_rfl

theorem nextid_ct {w : World} {n : Nat} {D F : List Addr} {R : Heap → Prop} {wr dx lid : Addr} {od : Obj} {x : Str} {xs : List Str} (hf : WFacts (KH w) od lid) (hw : wr ∈ D) (hd : dx ∈ D) (hl : lid ∈ D) (h1 : wr ≠ lid) (h2 : dx ≠ lid) (hF : ∀ b ∈ F, b ∈ D) (hlF : lid ∉ F) (hR : Loc F R) (hz : xs.length < 1000) :
    CT PG w (KH w) (n + 10) D (.ref 338) [.raw (.ref wr)] (fun h => WG wr dx lid od (x :: xs) h ∧ R h) (fun a G' => a = .str x ∧ G' = fun h => WG wr dx lid od xs h ∧ R h) := by
  refine CT.def (o := Mine.hz.zo_312 w.params) (names := [Str.ofString "self"]) (by kernel_rfl) (hd := by rfl) (hb := by rfl) (by kernel_rfl) (hbind := ?_) (by decide +kernel) (by decide +kernel) rfl rfl rfl rfl ?_
  · intro vs s V X hr
    obtain ⟨v, vr, rfl, r1, rfl⟩ := hr
    exact BindsTo.of_eq rfl
  · intro A L O hA hD
    refine XS.cons (X1.expr rfl rfl (EV.str ?_))
    refine XS.cons (X1.ret ?_)
    refine EV.meth "list" "list.pop" rfl rfl rfl PySem.F.plainAttrs_list PySem.F.slot_list_pop PySem.F.type_list_pop ?_
    refine EV.attr rfl ?_
    refine EV.localI 0 rfl (by rfl) rfl (by rfl) ?_ (by kernel_rfl)
    intro v s x0 hv
    cases hv
    obtain ⟨⟨g1, g2, g3⟩, g4⟩ := x0.g.here
    have I : InstAt s.heap wr (wrObj dx) 411 (some od) := ⟨g1, rfl, rfl, g2⟩
    refine get_value x0.gd.k I (ga411 w) hf.ids rfl ?_
    refine ⟨.raw (.ref lid), _, rfl, x0.pure (.toks _ _), .toks _ _, fun v s x hv => ?_, ?_⟩
    · cases hv
      obtain ⟨⟨_, _, vs, n', e, _⟩, _⟩ := x.g.here
      exact ⟨⟨_, e, rfl⟩, fun p e' => by cases e'; exact ⟨_, e, rfl⟩⟩
    refine CW.pop0 (a := .str x) (G' := fun h => WG wr dx lid od xs h ∧ R h) hl (fun s x1 => ?_) ⟨rfl, rfl⟩
    obtain ⟨⟨k1, k2, vs, n', e, v, vr, rfl, ⟨t, rfl⟩, hvr⟩, k4⟩ := x1.g.here
    have hlen := hvr.length
    refine ⟨_, vr, n', e, ?_, ⟨t, rfl⟩, fun h' n'' e1 keep => ?_⟩
    · simp only [List.length_cons, List.length_map] at hlen ⊢
      unfold sizeLine; omega
    have dis : ∀ b ∈ [wr, dx, lid] ++ F, b ∉ L :: O := fun b hb => hD b (by
      rcases List.mem_append.mp hb with h | h
      · rcases List.mem_cons.mp h with rfl | h
        · exact hw
        · rcases List.mem_cons.mp h with rfl | h
          · exact hd
          · rw [List.mem_singleton.mp h]; exact hl
      · exact hF b h)
    exact ((WG.loc wr dx lid od xs).and hR).gb dis ⟨⟨keep wr _ h1 k1, keep dx _ h2 k2, vr, n'', e1, strs_any hvr⟩, hR.loc s.heap h' (fun b hb o e => keep b o (fun q => hlF (q ▸ hb)) e) k4⟩
end Mine
end

-- part W60
section
open PySem PySem.W PyProof.Rows PySem.SeqAt
set_option Elab.async false
set_option linter.unusedVariables false
set_option maxRecDepth 100000
namespace Mine

theorem X1.forI {c : Cx} {m mc : LM} {G : Heap → Prop} {KF : FK} {x : Str} {xp pos : Pos} {iter : Expr} {body : List Stmt} (E : EnvOk c) (hA : c.A.handled = none) (hl : c.env.kindOf x = some .local)
    (hcl : ∀ p ∈ c.env.cells, p.2 ∈ c.V) (hs : ∀ x, foldedSetIterable iter c.env x = pure x) (ht : ∀ it v, letOwnedTupleGo (.Name x xp) it v = pure ())
    (Inv : Addr → Nat → LM → LM → (Heap → Prop) → Prop)
    (h : EV c m mc G iter fun a G1 => ∃ items, Items a = some items ∧ items.length < 2 ^ 60 ∧ (∀ I, I ∉ c.V → Inv I 0 m mc G1) ∧
      (∀ i a m' mc' G' I, items[i]? = some a → Inv I i m' mc' G' → I ∉ c.V → XS (c.plus I) ((x, a) :: m') mc' G' body fun fa m3 mc3 G3 => match fa with
        | .next => Inv I (i + 1) m3 mc3 G3 | .cont => Inv I (i + 1) m3 mc3 G3 | .brk => KF .next m3 mc3 G3 | .ret a => KF (.ret a) m3 mc3 G3) ∧
      (∀ I m' mc' G', I ∉ c.V → Inv I items.length m' mc' G' → KF .next m' mc' G')) : X1 c m mc G (.For (.Name x xp) iter body [] pos) KF := ⟨fun s h0 => by
  refine wpAny_For (wpAny_imp (h.run s h0) ?_) hs
  rintro v s1 ⟨a, G1, ra, x1, y1, items, hitems, hlen, hi0, hbody, hend⟩
  refine source_of hA hitems hlen ra fun I It o h2 hn1 e2 tI hI0 src => ?_
  subst e2
  have st0 : Stp [] s1 { s1 with heap := s1.heap.push o } := .push _ _
  obtain ⟨x2, hIV⟩ := x1.plus (I := I) st0 hn1 tI
  have st1 : ∀ b o, s1.heap.get? b = some o → b ≠ I := fun b o e q => by rw [q, hn1] at e; cases e
  have goal : codeAny c.M c.A (.forLoop (.Name x xp) (.ref I) body [] c.env) (fun r s' => ∃ f fa m' mc' G', r = .ok f ∧ FRel c.V s'.heap fa f ∧ At c m' mc' G' s' ∧ Stp (c.own ++ c.D) s1 s' ∧ KF fa m' mc' G') { s1 with heap := s1.heap.push o } := by
    refine codeAny_forLoop (I := fun k s' => ∃ i m' mc' G', k = items.length - i ∧ i ≤ items.length ∧ At (c.plus I) m' mc' G' s' ∧ Inv I i m' mc' G' ∧ It i s'.heap ∧ Stp (c.own ++ c.D) s1 s')
      (fun k s' hk => ?_) items.length ⟨0, m, mc, G1, rfl, Nat.zero_le _, x2, hi0 I hIV, hI0, st0.mono (by simp)⟩ (ht _)
    obtain ⟨i, m', mc', G', rfl, hle, xs, hi, hiter, st⟩ := hk
    have cel : ∀ p ∈ c.env.cells, p.2 ≠ I := fun p hp q => hIV (q ▸ hcl p hp)
    have keep1 : ∀ b o, b ∉ c.V → s1.heap.get? b = some o → s'.heap.get? b = some o := fun b o hb e => st.keep b o (fun h => hb (c.own_sub b h)) e
    rcases Nat.lt_or_ge i items.length with hlt | hge
    · refine wpAny_mono (Q := fun r s2 => ∃ v a, r = some v ∧ items[i]? = some a ∧ VR (c.plus I).V s2.heap a v ∧ It (i + 1) s2.heap ∧ Stp [I] s' s2) (E := NoE) ?_ ?_ (fun _ _ z => z.elim)
      · refine src.item i items[i] s' _ (List.getElem?_eq_getElem hlt) hiter keep1 fun v h' tk hv' hI' hthere hk' => ⟨v, items[i], rfl, List.getElem?_eq_getElem hlt, hv' _ _ fun b o hb e => ⟨hk' b o (st1 b o e) (keep1 b o hb e), fun h => ?_⟩, hI', ?_⟩
        · rcases Cx.plus_V.mp h with q | h
          · exact st1 b o e q
          · exact hb h
        · exact ⟨fun b o hb e => hk' b o (fun q => hb (List.mem_singleton.mpr q)) e, fun b o e => by
            by_cases q : b = I
            · subst q; exact hthere
            · exact ⟨o, hk' b o q e⟩, .refl _, rfl⟩
      · rintro r s2 ⟨v, a, rfl, hia, rv, hI2, yI⟩
        have x3 := xs.other hIV E.own cel yI
        refine wpAny_assign_Name (wpAny_mono (Q := fun _ s3 => At (c.plus I) ((x, a) :: m') mc' G' s3 ∧ Stp ((c.plus I).own ++ (c.plus I).D) s2 s3) (E := NoE) ?_ ?_ (fun _ _ z => z.elim))
        · exact x3.store rv hl E.own E.cells (by show (c.env.scope.kind == .class || (c.env.scope.kind == .module && c.env.locals != c.env.globals)) = false; rw [E.kind]; rfl) fun s3 x4 y4 => ⟨x4, y4⟩
        · rintro _ s3 ⟨x4, y4⟩
          refine wpAny_mono ((hbody i a m' mc' G' I hia hi hIV).run s3 x4) ?_ (fun _ _ z => z.elim)
          rintro f s4 ⟨fa, m5, mc5, G5, rf, x5, y5, k5⟩
          have yb : Stp ((c.plus I).own ++ (c.plus I).D) s2 s4 := y4.trans y5
          have nI : I ∉ (c.plus I).own ++ (c.plus I).D := fun q => hIV (c.own_sub I q)
          have stAll : Stp (c.own ++ c.D) s1 s4 := ⟨fun b o hb e => yb.keep b o hb (yI.keep b o (fun q => st1 b o e (List.mem_singleton.mp q)) (st.keep b o hb e)), fun b o e => by
            obtain ⟨o1, e1⟩ := st.there b o e
            obtain ⟨o2, e2⟩ := yI.there b o1 e1
            exact yb.there b o2 e2, st.gens.trans (yI.gens.trans yb.gens), yb.os.trans (yI.os.trans st.os)⟩
          have next : Inv I (i + 1) m5 mc5 G5 → ∃ k', k' < items.length - i ∧ ∃ i m' mc' G', k' = items.length - i ∧ i ≤ items.length ∧ At (c.plus I) m' mc' G' s4 ∧ Inv I i m' mc' G' ∧ It i s4.heap ∧ Stp (c.own ++ c.D) s1 s4 := fun hn =>
            ⟨items.length - (i + 1), by omega, i + 1, m5, mc5, G5, rfl, hlt, x5, hn, src.loc _ _ _ (fun o e => yb.keep I o nI e) hI2, stAll⟩
          cases fa with
          | next => cases rf; exact next k5
          | cont => cases rf; exact next k5
          | brk => cases rf; exact ⟨.next, .next, m5, mc5, G5, rfl, rfl, x5.minus, stAll, k5⟩
          | ret b => obtain ⟨u, rfl, ru⟩ := rf; exact ⟨.ret u, .ret b, m5, mc5, G5, rfl, FRel.minus (c := c) (I := I) ⟨u, rfl, ru⟩, x5.minus, stAll, k5⟩
    · have hi' : i = items.length := by omega
      subst hi'
      refine wpAny_mono (Q := fun r s2 => r = none ∧ ∃ h' tk, s2 = { s' with heap := h', toks := tk } ∧ ∀ b o, b ≠ I → s'.heap.get? b = some o → h'.get? b = some o) (E := NoE) ?_ ?_ (fun _ _ z => z.elim)
      · exact src.done s' _ hiter keep1 fun h' tk hk' => ⟨rfl, h', tk, rfl, hk'⟩
      · rintro r s2 ⟨rfl, h', tk, rfl, hb⟩
        have x3 : At c m' mc' G' { s' with heap := h', toks := tk } := xs.leave hIV E.own cel hb
        refine wpAny_execs_nil ?_
        refine ⟨.next, .next, m', mc', G', rfl, rfl, x3, ?_, hend I _ _ _ hIV hi⟩
        exact ⟨fun b o hb' e => hb b o (st1 b o e) (st.keep b o hb' e), fun b o e => by
            obtain ⟨o1, e1⟩ := st.there b o e
            exact ⟨o1, hb b o1 (st1 b o e) e1⟩, st.gens, st.os⟩
  refine codeAny_mono goal ?_
  rintro r s' ⟨f, fa, m', mc', G', rfl, rf, xf, st, k⟩
  exact ⟨fa, m', mc', G', rf, xf, y1.own.trans st, k⟩⟩

section
variable {c : Cx} {m mc : LM} {G : Heap → Prop} {K : AK}
/-- a contract that turns just D0: what is apart from D0 stands -/
theorem OF.ctF {f : Value} {as : List AV} {n : Nat} {G1 R : Heap → Prop} {KK : AK} (ok : CxOk c n) (D0 : List Addr) (h0 : ∀ b ∈ D0, b ∈ c.D) (hL : Loc D0 G1)
    (hR : ∀ h h', (∀ b o, b ∉ c.O → b ∉ D0 → h.get? b = some o → h'.get? b = some o) → R h → R h') (hct : CT c.prog c.w c.K n D0 f as G1 KK) (hk : ∀ a G', KK a G' → K a (fun h => G' h ∧ R h)) :
    OF c m mc (fun h => G1 h ∧ R h) f as K := ⟨fun vs s x r => by
  let O0 := c.O ++ c.D.filter (fun b => decide (b ∉ D0))
  have mV : ∀ b, b ∈ O0 ++ D0 ↔ b ∈ c.V := fun b => by
    show b ∈ (c.O ++ c.D.filter (fun b => decide (b ∉ D0))) ++ D0 ↔ b ∈ c.O ++ c.D
    simp only [List.mem_append, List.mem_filter, decide_eq_true_eq]
    constructor
    · rintro ((h | h) | h)
      · exact .inl h
      · exact .inr h.1
      · exact .inr (h0 b h)
    · rintro (h | h)
      · exact .inl (.inl h)
      · by_cases q : b ∈ D0
        · exact .inr q
        · exact .inl (.inr ⟨h, q⟩)
  have dO : ∀ d ∈ D0, d ∉ O0 := fun d hd h => by
    rcases List.mem_append.mp h with h | h
    · exact ok.d d (h0 d hd) h
    · have := (List.mem_filter.mp h).2
      simp only [decide_eq_true_eq] at this
      exact this hd
  have gd : Gd c.K (O0 ++ D0) s := ⟨x.gd.k, x.gd.nl, fun v hv => x.gd.hi v ((mV v).mp hv), fun v hv => x.gd.lt v ((mV v).mp hv)⟩
  have g1 : GB O0 G1 s.heap := fun h' k => hL.loc s.heap h' (fun b hb o e => k b o (dO b hb) e) x.g.here.1
  have rs : VRs (O0 ++ D0) s.heap as vs := VRs.keeps (fun b o hb e => ⟨e, fun h => hb ((mV b).mp h)⟩) _ _ r
  refine wpAny_call (codeAny_mono (hct c.A ok.a O0 vs s gd dO g1 rs) fun r' s' ⟨v, a, G', h1, h2, h3, h4, h5⟩ => ?_)
  subst h1
  have st : Stp c.D s s' := h4.mono h0
  refine ⟨a, _, VR.keeps (fun b o hb e => ⟨e, fun h => hb ((mV b).mpr h)⟩) _ _ h2, x.step st (fun h' k => ⟨h3 h' fun b o hb e => k b o (fun h => hb (List.mem_append_left _ h)) e, ?_⟩), st, hk a G' h5⟩
  exact hR s.heap h' (fun b o hb hb2 e => k b o hb (h4.keep b o hb2 e)) x.g.here.2⟩

/-- an item (an object too) is laid to the end of a list that may be turned -/
theorem OF.appendL {n : Nat} {r : Addr} {V : List Addr} {its : List AV} {a : AV} {G1 : Heap → Prop} {F : List Addr} (ok : CxOk c n) (hr : r ∈ c.D) (hV : ∀ b, b ∈ V ↔ b ∈ c.V) (hz : its.length ≤ sizeLine) (hL : Loc F G1) (hF : ∀ b ∈ F, b ∈ c.D) (hrF : r ∉ F)
    (k : K .none (fun h => G1 h ∧ LsAt V r (its ++ [a]) h)) : OF c m mc (fun h => G1 h ∧ LsAt V r its h) (.builtin "list.append") [.raw (.ref r), a] K :=
  OF.append (G2 := fun h => G1 h ∧ LsAt V r (its ++ [a]) h) hr (fun s v at0 rv => by
    obtain ⟨g1, vs, n', e, hv⟩ := at0.g.here
    refine ⟨vs, n', e, by rw [hv.length]; exact hz, fun h' n'' e' kp h'' k2 => ⟨?_, vs ++ [v], n'', k2 r _ (ok.d r hr) e', ?_⟩⟩
    · exact hL.loc s.heap h'' (fun b hb o q => k2 b o (ok.d b (hF b hb)) (kp b o (fun q' => hrF (q' ▸ hb)) q)) g1
    · have hrV : r ∈ V := (hV r).mpr (c.D_sub r hr)
      have kk : ∀ b o, b ∉ V → s.heap.get? b = some o → h''.get? b = some o ∧ b ∉ V := fun b o hb q => ⟨k2 b o (fun h => hb ((hV b).mpr (List.mem_append_left _ h))) (kp b o (fun q' => hb (q' ▸ hrV)) q), hb⟩
      refine VRs.snoc (VRs.keeps kk _ _ hv) (VR.keeps (V := c.V) (fun b o hb q => kk b o (fun h => hb ((hV b).mp h)) q) _ _ rv)) k

theorem OF.strInt {i : Nat} (hi : i < 1000) (k : K (.str (Str.ofString (toString (i : Int)))) G) : OF c m mc G (.type "str") [.int (i : Int)] K := ⟨fun vs s at0 r => by
  obtain ⟨v, vr, rfl, ⟨t, rfl⟩, rfl⟩ := r
  refine PySem.P.str_of_int ?_ ⟨.str _, G, ⟨_, rfl⟩, at0.pure (.toks _ _), .toks _ _, k⟩
  rw [Int.natAbs_natCast]
  rcases Nat.eq_zero_or_pos i with h | h
  · subst h; decide
  · have := (Nat.log2_lt (by omega : i ≠ 0)).mpr (show i < 2 ^ 1920 from Nat.lt_trans hi (by decide))
    exact this⟩

theorem EV.and {e : Expr} {rest : List Expr} {e2 : Expr} {pos : Pos} (h : EV c m mc G e fun a G1 => ∃ b, a = .bool b ∧ (b = true → EV c m mc G1 (.BoolOp .And (e2 :: rest) pos) K) ∧ (b = false → K (.bool false) G1)) : EV c m mc G (.BoolOp .And (e :: e2 :: rest) pos) K := ⟨fun s x => by
  refine BoolOp_and (wpAny_imp (h.run s x) ?_)
  rintro v s1 ⟨a, G1, ra, x1, y1, b, rfl, h1, h2⟩
  cases ra
  refine wpAny_truthy_bool ?_
  cases b with
  | true =>
    rw [if_pos rfl]
    refine wpAny_imp ((h1 rfl).run s1 x1) ?_
    rintro u s2 ⟨d, G2, rd, x2, y2, k2⟩
    exact ⟨d, G2, rd, x2, y1.trans y2, k2⟩
  | false => rw [if_neg (by decide)]; exact ⟨.bool false, G1, rfl, x1, y1, h2 rfl⟩⟩
theorem EV.andOne {e : Expr} {pos : Pos} (h : EV c m mc G e K) : EV c m mc G (.BoolOp .And [e] pos) K := ⟨fun s x => BoolOp_one (h.run s x)⟩

/-- lists of strs -/
theorem OC.eqStrs {n : Nat} {xs ys : List Str} (ok : CxOk c n) (k : K (.bool (decide (xs = ys))) G) : OC c m mc G .Eq (.lst (xs.map .str)) (.lst (ys.map .str)) K :=
  ⟨OJ.of2 (a := .bool (decide (xs = ys))) (fun v u s Q x r1 r2 k => by
    obtain ⟨p, vs, n1, rfl, _, ho, hl⟩ := r1
    obtain ⟨q, us, n2, rfl, _, ho', hr⟩ := r2
    have l1 := hl.length
    have l2 := hr.length
    rw [List.length_map] at l1 l2
    by_cases hsz : xs.length = ys.length
    · have hall : ∀ j (h1 : j < vs.toArray.size) (h2 : j < us.toArray.size), EqAt c.A.in1 s vs.toArray[j] us.toArray[j] (seq ((xs.map AV.str)[j]?.getD .none) ((ys.map AV.str)[j]?.getD .none)) := fun j h1 h2 =>
        eqAt_sc (all_sc (by simp [AV.sc])) (all_sc (by simp [AV.sc])) (hl.getElem h1) (hr.getElem h2)
      refine RcAt.lists (e := fun j => seq ((xs.map AV.str)[j]?.getD .none) ((ys.map AV.str)[j]?.getD .none)) ⟨_, ho, rfl, n1, rfl⟩ ⟨_, ho', rfl, n2, rfl⟩ (by simp [l1, l2, hsz]) ok.a.u hall c.prog c.w _ Q ?_
      refine k _ _ ?_ (.refl _ _)
      show Value.bool _ = Value.bool _
      congr 1
      rw [List.size_toArray, l1, Bool.eq_iff_iff, List.all_eq_true, decide_eq_true_eq]
      constructor
      · intro h
        refine List.ext_getElem hsz fun j h1 h2 => ?_
        have := h j (List.mem_range.mpr h1)
        simpa [h1, h2, seq] using this
      · rintro rfl j hj
        have hj := List.mem_range.mp hj
        simp [hj, seq]
    · refine RcAt.lists_lengths ⟨_, ho, rfl, n1, rfl⟩ ⟨_, ho', rfl, n2, rfl⟩ (by simp [l1, l2, hsz]) ok.a.u c.prog c.w _ Q ?_
      refine k _ _ ?_ (.refl _ _)
      show Value.bool _ = Value.bool _
      rw [decide_eq_false (fun h => hsz (by rw [h]))]) k⟩
end
end Mine
end

-- part W61
section
open PySem PySem.W PyProof.Rows PySem.SeqAt
set_option Elab.async false
set_option linter.unusedVariables false
set_option maxRecDepth 100000
namespace Mine

def WrapD (D : List Addr) (K : Frag) (vs : List Value) (s : Shared) (v : Value) (s' : Shared) : Prop := ∃ wr dx lid od n, v = .ref wr ∧ s'.heap.get? wr = some (wrObj dx) ∧ s.heap.get? wr = none ∧ s'.heap.get? dx = some od ∧ s.heap.get? dx = none ∧
  s'.heap.get? lid = some (LObj vs n) ∧ s.heap.get? lid = none ∧ WFacts K od lid ∧ wr ≠ dx ∧ wr ≠ lid ∧ dx ≠ lid ∧ Stp D s s'
theorem WrapNew.back {D : List Addr} {K : Frag} {vs : List Value} {s s2 : Shared} {v : Value} {s' : Shared} (y : Stp D s s2) (h : WrapNew K vs s2 v s') : WrapD D K vs s v s' := by
  obtain ⟨wr, dx, lid, od, n, rfl, e1, n1, e2, n2, e3, n3, f, d1, d2, d3, st⟩ := h
  have back : ∀ b, s2.heap.get? b = none → s.heap.get? b = none := fun b e => by
    cases q : s.heap.get? b with
    | none => rfl
    | some o => obtain ⟨o', e'⟩ := y.there b o q; rw [e] at e'; cases e'
  exact ⟨wr, dx, lid, od, n, rfl, e1, back _ n1, e2, back _ n2, e3, back _ n3, f, d1, d2, d3, y.trans (st.mono (by simp))⟩

theorem wrap_call {w : World} {A : Around} {n : Nat} {V : List Addr} {xs : List Str} {tw : Tok} {v : Value} {s : Shared} (hA : AOk A (n + 120)) (X : (KH w).In s.heap) (NL : s.heap.NoLimit) (r : VR V s.heap (.lst (xs.map .str)) v) (h1 : 1 ≤ xs.length) (h5 : xs.length ≤ 5) :
    wpAny (model PG w) A (call (.ref 411) [.int 20 tw] [(Str.ofString "hyperlink_ids", v)]) (fun v s' => ∃ vs, VRs [] s'.heap (xs.map .str) vs ∧ WrapNew (KH w) vs s v s') NoE s := by
  obtain ⟨l, vs, nn, rfl, hlV, ho, hvs⟩ := r
  refine wpAny_AX (wpAny_imp (Q := WrapNew (KH w) vs s) ?_ fun v s' h => ⟨vs, strs_any hvs, h⟩) (hA.mono (by omega))
  match xs, h1, h5, hvs with
  | [x0], _, _, ⟨v0, r0, e0, ⟨t0, q0⟩, hnil⟩ =>
    subst q0
    cases hnil
    subst e0
    exact wrap_ax1 w s X NL l x0 t0 nn tw ho
  | [x0, x1], _, _, ⟨v0, r0, e0, ⟨t0, q0⟩, ⟨v1, r1, e1, ⟨t1, q1⟩, hnil⟩⟩ =>
    subst q0 q1
    cases hnil
    subst e1
    subst e0
    exact wrap_ax2 w s X NL l x0 x1 t0 t1 nn tw ho
  | [x0, x1, x2], _, _, ⟨v0, r0, e0, ⟨t0, q0⟩, ⟨v1, r1, e1, ⟨t1, q1⟩, ⟨v2, r2, e2, ⟨t2, q2⟩, hnil⟩⟩⟩ =>
    subst q0 q1 q2
    cases hnil
    subst e2
    subst e1
    subst e0
    exact wrap_ax3 w s X NL l x0 x1 x2 t0 t1 t2 nn tw ho
  | [x0, x1, x2, x3], _, _, ⟨v0, r0, e0, ⟨t0, q0⟩, ⟨v1, r1, e1, ⟨t1, q1⟩, ⟨v2, r2, e2, ⟨t2, q2⟩, ⟨v3, r3, e3, ⟨t3, q3⟩, hnil⟩⟩⟩⟩ =>
    subst q0 q1 q2 q3
    cases hnil
    subst e3
    subst e2
    subst e1
    subst e0
    exact wrap_ax4 w s X NL l x0 x1 x2 x3 t0 t1 t2 t3 nn tw ho
  | [x0, x1, x2, x3, x4], _, _, ⟨v0, r0, e0, ⟨t0, q0⟩, ⟨v1, r1, e1, ⟨t1, q1⟩, ⟨v2, r2, e2, ⟨t2, q2⟩, ⟨v3, r3, e3, ⟨t3, q3⟩, ⟨v4, r4, e4, ⟨t4, q4⟩, hnil⟩⟩⟩⟩⟩ =>
    subst q0 q1 q2 q3 q4
    cases hnil
    subst e4
    subst e3
    subst e2
    subst e1
    subst e0
    exact wrap_ax5 w s X NL l x0 x1 x2 x3 x4 t0 t1 t2 t3 t4 nn tw ho

/-- the statement's value: a new wrapper -/
theorem wrap_eval {c : Cx} {m mc : LM} {G : Heap → Prop} {n : Nat} {w : World} {xs : List Str} {id nm : Str} {p p1 p2 pos kpos : Pos} {k1 : Nat} {s : Shared} (hp : c.prog = PG) (hw : c.w = w) (hK : c.K = KH w) (ok : CxOk c (n + 120)) (x : At c m mc G s)
    (hf : peek c.K ⟨c.prog, c.w.params⟩ (loadName c.env id) = some (.ref 411)) (hd : (id == ("__debug__" : Str)) = false)
    (hnm : EV c m mc G (.Name nm p2) fun a G' => a = .lst (xs.map .str) ∧ G' = G) (h1 : 1 ≤ xs.length) (h5 : xs.length ≤ 5)
    (hk : keepIn c.K (.ref 411) = true) (hall : (backToKw pos (keywordEach [⟨some (Str.ofString "hyperlink_ids"), .Name nm p2, kpos⟩] c.env)).all (·.1.isSome) = true)
    (hpl : ((backTo pos (starEach [.Constant (.int 20) k1 p1] c.env)).any (·.1) || (backToKw pos (keywordEach [⟨some (Str.ofString "hyperlink_ids"), .Name nm p2, kpos⟩] c.env)).any (·.1.isNone)) = false)
    (hfm : (backToKw pos (keywordEach [⟨some (Str.ofString "hyperlink_ids"), .Name nm p2, kpos⟩] c.env)).filterMap (·.1) = [Str.ofString "hyperlink_ids"]) :
    wpAny c.M c.A (eval (.Call (.Name id p) [.Constant (.int 20) k1 p1] [⟨some (Str.ofString "hyperlink_ids"), .Name nm p2, kpos⟩] pos) c.env) (fun v s' => ∃ vs, VRs [] s'.heap (xs.map .str) vs ∧ WrapD c.D (KH w) vs s v s' ∧ At c m mc G s') NoE s := by
  rw [arm_eval_Call_Name']
  refine wpAny_bind (wpAny_Name ((Looks.of_peek (M := c.M) x.gd.k hf).here ?_) hd)
  refine callWith_KW (K := c.K) (h₀ := s.heap) x.gd.k hk hall ?_ hpl
  have hea : EA c m mc G pos [.Constant (.int 20) k1 p1] fun as G1 => as = [.int 20] ∧ G1 = G := EA.cons (EV.int (EA.nil ⟨rfl, rfl⟩))
  refine wpAny_imp (hea.run s x) ?_
  rintro vs s1 ⟨as, G1, ra, x1, y1, rfl, rfl⟩
  obtain ⟨v0, vr, rfl, ⟨tw, rfl⟩, rfl⟩ := ra
  have hek : EK c m mc G1 pos [⟨some (Str.ofString "hyperlink_ids"), .Name nm p2, kpos⟩] fun as G2 => as = [.lst (xs.map .str)] ∧ G2 = G1 :=
    EK.cons (hnm.mono fun a G2 ⟨e1, e2⟩ => EK.nil ⟨by rw [e1], e2⟩)
  refine wpAny_imp (hek.run s1 x1) ?_
  rintro ks s2 ⟨as, G2, rs, x2, y2, rfl, rfl⟩
  obtain ⟨v, vr, rfl, rv, rfl⟩ := rs
  refine ⟨x2.gd.k, ?_⟩
  rw [hfm]
  show wpAny (model c.prog c.w) c.A (call (.ref 411) [.int 20 tw] [(Str.ofString "hyperlink_ids", v)]) _ NoE s2
  rw [hp, hw]
  refine wpAny_imp (wrap_call (V := c.V) (n := n) ok.a (hK ▸ x2.gd.k) x2.gd.nl rv h1 h5) ?_
  rintro u s3 ⟨vs, hv, hn⟩
  have st : Stp [] s2 s3 := by obtain ⟨_, _, _, _, _, _, _, _, _, _, _, _, _, _, _, _, st⟩ := hn; exact st
  exact ⟨vs, hv, hn.back (y1.trans y2), x2.pure st⟩
end Mine
end

-- part W54
section
open PySem PySem.W PyProof.Rows PySem.SeqAt
set_option Elab.async false
set_option linter.unusedVariables false
set_option maxRecDepth 100000
set_option pp.maxSteps 300
set_option pp.deepTerms false
namespace Mine
local macro_rules | `(tactic| got_up) => `(tactic| first
  | refine EV.localI 0 rfl (by rfl) rfl (by kernel_rfl) ?_ (by kernel_rfl)
  | refine EV.localI 1 rfl (by rfl) rfl (by kernel_rfl) ?_ (by kernel_rfl)
  | refine EV.localI 2 rfl (by rfl) rfl (by kernel_rfl) ?_ (by kernel_rfl)
  | refine EV.localI 3 rfl (by rfl) rfl (by kernel_rfl) ?_ (by kernel_rfl)
  | refine EV.localI 4 rfl (by rfl) rfl (by kernel_rfl) ?_ (by kernel_rfl)
  | refine EV.localI 5 rfl (by rfl) rfl (by kernel_rfl) ?_ (by kernel_rfl)
  | refine EV.localI 6 rfl (by rfl) rfl (by kernel_rfl) ?_ (by kernel_rfl))
local macro_rules | `(tactic| leaf_len) => `(tactic| first
  | refine EV.str ?_ | refine EV.int ?_ | refine EV.none ?_ | refine EV.bool ?_
  | refine EV.binop ?_ | refine EV.sub ?_ | refine EV.cmp ?_ | refine EV.ifexp ?_ | refine EV.tuple ?_ | refine EV.list ?_
  | refine EA.cons ?_ | refine EA.nil ?_
  | got_up
  | refine OS.tup (by decide) (by decide) rfl rfl ?_
  | refine OB.add_str ?_ ?_
  | refine OB.add ?_
  | refine OC.lt ?_ | refine OC.le ?_ | refine OC.gt ?_ | refine OC.ge ?_
  | refine XS.cons ?_ | refine X1.ret ?_ | refine X1.iff ?_ | refine XS.nil ?_
  | refine X1.assign (cxOf_env rfl rfl) (by kernel_rfl) rfl ?_
  | refine BT.cmp ?_)
theorem cxC_ok {prog w K A env ow ua O D n} (hA : AOk A n) (hD : ∀ d ∈ ua ++ D, d ∉ (Env.locals env :: ow) ++ O) : CxOk (cxC prog w K A env ow ua O D) n := ⟨hA, hD⟩
theorem cxC_env {prog w K A env ow ua O D} (hc : ∀ p ∈ Env.cells env, p.2 ≠ env.locals) (hk : env.scope.kind = .function) : EnvOk (cxC prog w K A env ow ua O D) := ⟨List.mem_cons_self .., hc, hk⟩

def lnAV (p : Str × Str) : AV := .tup [.str p.1, .str p.2]
def sS : Str := Str.ofString "s"
def sQ : Str := Str.ofString "q"
def stepB (l : Int) (q : (Str × Str) × Nat) : Int := if q.1.2 == sS then (q.2 : Int) else l
def lastB (line : List (Str × Str)) : Int := line.zipIdx.foldl stepB (-1)
def pickB (last : Int) (q : (Str × Str) × Nat) : Option Str := if decide ((q.2 : Int) ≤ last) || q.1.2 == sQ then some q.1.1 else none
def bareP (line : List (Str × Str)) : Str := if decide (lastB line < 0) then Str.ofString "" else Txt.join (Str.ofString "") (line.zipIdx.filterMap (pickB (lastB line)))

theorem bare_cells (w : World) (a : AV) : ∀ fd, (Mine.hz.zo_443 w.params).data = .func fd → CellsAs fd [a] [Str.ofString "pieces"] [] [(Str.ofString "pieces", a)] (fun L => [L + 1]) (fun L => [L + 2]) := by
  intro fd e
  cases e
  refine ⟨?_, ?_, ?_, ?_⟩
  · intro L f vs V h hr
    obtain ⟨v, vr, rfl, r1, rfl⟩ := hr
    refine ⟨(fun x a e => by cases e), fun x b e => ?_, fun b hb => ?_⟩
    · rw [List.lookup_cons] at e
      cases q : x == Str.ofString "pieces" with
      | false => rw [q] at e; cases e
      | true =>
        rw [q] at e; cases e
        rw [beq_iff_eq.mp q]
        exact ⟨L + 1, v, rfl, List.mem_singleton.mpr rfl, (fun h => Nat.ne_of_lt (Nat.lt_succ_self (L + 1)) (List.mem_singleton.mp h)), rfl, r1⟩
    · rw [List.mem_singleton.mp hb]
      exact ⟨Str.ofString "last", rfl, rfl⟩
  · intro L vs hl x hx
    obtain ⟨v, rfl⟩ : ∃ v, vs = [v] := by
      match vs, hl with
      | [v], _ => exact ⟨v, rfl⟩
    rw [List.mem_singleton.mp hx]
    exact .inr ⟨rfl, rfl⟩
  · intro L b hb h
    rw [List.mem_singleton.mp hb] at h
    exact Nat.ne_of_lt (Nat.lt_succ_self (L + 1)) (List.mem_singleton.mp h)
  · intro L b hb
    rcases List.mem_append.mp hb with hb | hb
    · rw [List.mem_singleton.mp hb]; exact ⟨Nat.lt_succ_self L, Str.ofString "pieces", rfl⟩
    · rw [List.mem_singleton.mp hb]; exact ⟨Nat.lt_succ_of_lt (Nat.lt_succ_self L), Str.ofString "last", rfl⟩

theorem bare_ct {w : World} {n : Nat} {D F : List Addr} {G : Heap → Prop} (hG : Loc F G) (hF : ∀ b ∈ F, b ∈ D) {line : List (Str × Str)} (hn : line.length ≤ 1000) (hz : ∀ p ∈ line, p.1.length ≤ 1000)
    (hj : JoinOk (Str.ofString "") (line.zipIdx.filterMap (pickB (lastB line))) = true) :
    CT PG w (KH w) (n + 20) D (.ref 471) [.lst (line.map lnAV)] G (fun a G' => a = .str (bareP line) ∧ G' = G) := by
  refine CT.defC (o := Mine.hz.zo_443 w.params) (names := [Str.ofString "pieces"]) (by kernel_rfl) (hd := by rfl) (hb := by rfl) (by kernel_rfl) (hbind := ?_) (bare_cells w _ _ rfl) rfl rfl rfl rfl ?_
  · intro vs s V hr
    obtain ⟨v, vr, rfl, r1, rfl⟩ := hr
    rfl
  · intro A L O hA hD hL hnD
    refine XS.cons (X1.expr rfl rfl (EV.str ?_))
    have cl2 : ∀ p ∈ [(Str.ofString "last", L + 2), (Str.ofString "pieces", L + 1)], p.2 = L + 2 ∨ p.2 = L + 1 := fun p hp => by
      rcases List.mem_cons.mp hp with rfl | hp
      · exact .inl rfl
      · rw [List.mem_singleton.mp hp]; exact .inr rfl
    have cne : ∀ p ∈ [(Str.ofString "last", L + 2), (Str.ofString "pieces", L + 1)], p.2 ≠ L := fun p hp => by
      rcases cl2 p hp with q | q
      · rw [q]; exact hL (L + 2) (by simp)
      · rw [q]; exact hL (L + 1) (by simp)
    refine XS.cellIn (b := L + 2) (cxC_env cne rfl) (by rfl) (by rfl) (List.mem_append_left _ (List.mem_singleton.mpr rfl)) (hD _ (List.mem_append_left _ (List.mem_singleton.mpr rfl))) rfl ?_
    refine EV.neg (EV.int ⟨_, rfl, ?_⟩)
    refine ⟨G, fun h x => ⟨x.1 _ (List.mem_singleton.mpr rfl), x.2⟩, fun h h' k g => hG.loc h h' (fun q hq o e => k q o (hD q (List.mem_append_right _ (hF q hq))) (fun e' => hnD (L + 2) (by simp) (e' ▸ hF q hq)) e) g, ?_⟩
    refine XS.cons (X1.forS (EnvOk.take (cxC_env cne rfl)) hA.handled (by rfl) ?_ (by intro _; rfl) (by intro _ _; rfl)
      (fun i m mc G' => G' = G ∧ List.lookup (Str.ofString "pieces") mc = some (.lst (line.map lnAV)) ∧ List.lookup (Str.ofString "last") mc = some (.int ((line.zipIdx.take i).foldl stepB (-1)))) ?_)
    · intro p hp
      refine (Cx.take_V (List.mem_append_left _ (List.mem_singleton.mpr rfl))).mpr ?_
      rcases cl2 p hp with q | q
      · rw [q]; exact List.mem_append_right _ (List.mem_append_left _ (List.mem_singleton.mpr rfl))
      · rw [q]; exact List.mem_append_left _ (List.mem_append_left _ (List.mem_cons_of_mem _ (List.mem_singleton.mpr rfl)))
    refine EV.callT "range" (by kernel_rfl) (by kernel_rfl) rfl ?_
    refine EA.cons (EV.callB "len" (by kernel_rfl) (by kernel_rfl) rfl ?_)
    refine EA.cons (EV.cellI 1 rfl (by rfl) rfl (by rfl) (EA.nil ?_) (by kernel_rfl))
    refine OF.lenL (by rw [List.length_map]; omega) ?_
    refine EA.nil (OF.range1 ?_)
    refine ⟨_, rfl, by simp; omega, ⟨rfl, by rfl, by rfl⟩, fun i a m' mc' G' hia hinv I hI => ?_, fun m' mc' G' hinv => ?_⟩
    · obtain ⟨rfl, hpc, hla⟩ := hinv
      have ilt : i < line.length := by
        rcases Nat.lt_or_ge i line.length with h | h
        · exact h
        · simp [h] at hia
      have ha : a = .int (i : Int) := by simp [ilt] at hia; exact hia.symm
      subst ha
      have hit : line[i]? = some line[i] := List.getElem?_eq_getElem ilt
      generalize line[i] = ln at hit
      have hstep : (line.zipIdx.take (i + 1)).foldl stepB (-1) = if ln.2 == sS then (i : Int) else (line.zipIdx.take i).foldl stepB (-1) := by
        rw [take_zip hit, List.foldl_append]; rfl
      have hit2 : (line.map lnAV)[(i : Int).toNat]? = some (lnAV ln) := by rw [Int.toNat_natCast, List.getElem?_map, hit]; rfl
      refine XS.cons (X1.iff (BT.cmp ?_))
      refine EV.sub (EV.sub ?_)
      refine EV.cell rfl (by rfl) hpc ?_ (by kernel_rfl)
      refine EV.localI 0 rfl (by rfl) rfl (by rfl) ?_ (by kernel_rfl)
      refine OS.lst (by omega) (by omega) hit2 ?_
      repeat leaf_len
      refine OC.eq ((cxC_ok hA hD).take.plus (fun h => hI (List.mem_append_right _ h))) rfl rfl ⟨_, rfl, fun h1 => ?_, fun h1 => ?_⟩
      · refine XS.cons (X1.setCell (b := L + 2) (EnvOk.plus (EnvOk.take (cxC_env cne rfl))) (by rfl) (by rfl) (List.mem_append_right _ (List.mem_singleton.mpr rfl)) hla ?_ rfl ?_)
        · intro y p e q hp
          have e : List.lookup y [(Str.ofString "last", L + 2), (Str.ofString "pieces", L + 1)] = some p := e
          have q : (y == Str.ofString "last") = false := q
          rw [List.lookup_cons, q] at e
          have e : List.lookup y [(Str.ofString "pieces", L + 1)] = some p := e
          have := mem_of_lookup e
          have := List.mem_singleton.mp this
          cases this
          exact Nat.ne_of_lt (Nat.lt_succ_self (L + 1)) hp
        refine EV.localI 0 rfl (by rfl) rfl (by rfl) ?_ (by kernel_rfl)
        repeat refine XS.nil ?_
        refine ⟨rfl, (lk_skip (by rfl)).trans hpc, ?_⟩
        rw [hstep, if_pos (show (ln.2 == sS) = true from h1)]
        exact lk_here (by rfl)
      · repeat refine XS.nil ?_
        refine ⟨rfl, hpc, ?_⟩
        rw [hstep, if_neg (by rw [show (ln.2 == sS) = false from h1]; decide)]
        exact hla
    · obtain ⟨rfl, hpc, hla⟩ := hinv
      rw [show ((List.range (line.map lnAV).length).map fun (i : Nat) => AV.int (i : Int)).length = line.zipIdx.length by simp, List.take_length] at hla
      replace hla : List.lookup (Str.ofString "last") mc' = some (.int (lastB line)) := hla
      refine XS.cons (X1.iff (BT.cmp ?_))
      refine EV.cell rfl (by rfl) hla ?_ (by kernel_rfl)
      refine EV.int ?_
      refine OC.lt ⟨_, rfl, fun h => ?_, fun h => ?_⟩
      · refine XS.cons (X1.ret (EV.str ⟨?_, rfl⟩))
        unfold bareP
        rw [if_pos h]
        rfl
      · repeat refine XS.nil ?_
        refine XS.cons (X1.ret ?_)
        refine EV.meth "str" "str.join" rfl rfl rfl PySem.F.plainAttrs_str PySem.F.slot_str_join PySem.F.type_str_join ?_
        refine EV.str ?_
        refine ⟨fun v s x hv => (by obtain ⟨tk, rfl⟩ := hv; exact ⟨typeIs_str _ _ _, fun p e => by cases e⟩), CW.of rfl ?_⟩
        refine EA.cons ?_
        refine EV.comp (cl := [(Str.ofString "pieces", L + 1), (Str.ofString "last", L + 2)]) (mci := [(Str.ofString "pieces", .lst (line.map lnAV)), (Str.ofString "last", .int (lastB line))]) ?ok hA.handled (fun i outs G2 => G2 = G' ∧ outs = ((line.zipIdx.take i).filterMap (pickB (lastB line))).map .str) ?_
        case ok =>
          refine ⟨by intro _; rfl, rfl, by decide, rfl, by decide +kernel, rfl, by intro _ _; rfl, ?_, ?_⟩
          · intro x a e
            simp only [List.lookup_cons, List.lookup_nil] at e
            cases q1 : x == Str.ofString "pieces" with
            | true => rw [q1] at e; cases e; rw [beq_iff_eq.mp q1]; exact ⟨hpc, rfl⟩
            | false =>
              rw [q1] at e
              cases q2 : x == Str.ofString "last" with
              | true => rw [q2] at e; cases e; rw [beq_iff_eq.mp q2]; exact ⟨hla, rfl⟩
              | false => rw [q2] at e; cases e
          · intro p hp
            refine (Cx.take_V (List.mem_append_left _ (List.mem_singleton.mpr rfl))).mpr ?_
            rcases cl2 p (by rcases List.mem_cons.mp hp with q | q
                             · rw [q]; exact List.mem_cons_of_mem _ (List.mem_singleton.mpr rfl)
                             · rw [List.mem_singleton.mp q]; exact List.mem_cons_self ..) with q | q
            · rw [q]; exact List.mem_append_right _ (List.mem_append_left _ (List.mem_singleton.mpr rfl))
            · rw [q]; exact List.mem_append_left _ (List.mem_append_left _ (List.mem_cons_of_mem _ (List.mem_singleton.mpr rfl)))
        refine EV.callT "range" (by kernel_rfl) (by kernel_rfl) rfl ?_
        refine EA.cons (EV.callB "len" (by kernel_rfl) (by kernel_rfl) rfl ?_)
        refine EA.cons (EV.cell rfl (by rfl) hpc (EA.nil ?_) (by kernel_rfl))
        refine OF.lenL (by rw [List.length_map]; omega) ?_
        refine EA.nil (OF.range1 ?_)
        refine ⟨_, rfl, by simp; unfold sizeLine; omega, ⟨rfl, rfl⟩, ?_, ?_⟩
        · intro C acc I i a outs G2 ml hia hinv okc
          obtain ⟨rfl, rfl⟩ := hinv
          have ilt : i < line.length := by
            rcases Nat.lt_or_ge i line.length with h | h
            · exact h
            · simp [h] at hia
          have ha : a = .int (i : Int) := by simp [ilt] at hia; exact hia.symm
          subst ha
          have hit : line[i]? = some line[i] := List.getElem?_eq_getElem ilt
          have hlen1 : line[i].1.length ≤ 1000 := hz _ (List.getElem_mem ilt)
          generalize line[i] = ln at hit hlen1
          have hstep : (line.zipIdx.take (i + 1)).filterMap (pickB (lastB line)) = (line.zipIdx.take i).filterMap (pickB (lastB line)) ++ (pickB (lastB line) (ln, i)).toList := by
            rw [take_zip hit, List.filterMap_append]
            congr 1
          have hit2 : (line.map lnAV)[(i : Int).toNat]? = some (lnAV ln) := by rw [Int.toNat_natCast, List.getElem?_map, hit]; rfl
          refine IFs.one (BT.or (BT.cmp ?_))
          refine EV.localI 0 rfl (by rfl) rfl (by kernel_rfl) ?_ (by kernel_rfl)
          refine EV.cellI 1 rfl (by rfl) rfl (by kernel_rfl) ?_ (by kernel_rfl)
          refine OC.le ⟨_, rfl, fun h1 => ?_, fun h1 => ?_⟩
          · refine BT.or (BT.cmp ?_)
            refine EV.sub (EV.sub ?_)
            refine EV.cellI 0 rfl (by rfl) rfl (by kernel_rfl) ?_ (by kernel_rfl)
            refine EV.localI 0 rfl (by rfl) rfl (by kernel_rfl) ?_ (by kernel_rfl)
            refine OS.lst (by omega) (by omega) hit2 ?_
            repeat leaf_len
            refine OC.eq (okc _ ((cxC_ok hA hD).take)) rfl rfl ⟨_, rfl, fun h2 => ?_, fun h2 => ?_⟩
            · have hp : pickB (lastB line) (ln, i) = none := by unfold pickB; rw [if_neg (by rw [h1, show (ln.2 == sQ) = false from h2]; decide)]
              exact BT.orNil ⟨fun h => (by cases h), fun _ => ⟨rfl, by rw [hstep, hp]; simp⟩⟩
            · have hp : pickB (lastB line) (ln, i) = some ln.1 := by unfold pickB; rw [if_pos (by rw [show (ln.2 == sQ) = true from h2]; simp)]
              refine ⟨fun _ => ?_, fun h => (by cases h)⟩
              refine EV.sub (EV.sub ?_)
              refine EV.cellI 0 rfl (by rfl) rfl (by kernel_rfl) ?_ (by kernel_rfl)
              refine EV.localI 0 rfl (by rfl) rfl (by kernel_rfl) ?_ (by kernel_rfl)
              refine OS.lst (by omega) (by omega) hit2 ?_
              repeat leaf_len
              exact ⟨rfl, by rw [hstep, hp]; simp⟩
          · have hp : pickB (lastB line) (ln, i) = some ln.1 := by unfold pickB; rw [if_pos (by rw [show decide ((i : Int) ≤ lastB line) = true from h1]; simp)]
            refine ⟨fun _ => ?_, fun h => (by cases h)⟩
            refine EV.sub (EV.sub ?_)
            refine EV.cellI 0 rfl (by rfl) rfl (by kernel_rfl) ?_ (by kernel_rfl)
            refine EV.localI 0 rfl (by rfl) rfl (by kernel_rfl) ?_ (by kernel_rfl)
            refine OS.lst (by omega) (by omega) hit2 ?_
            repeat leaf_len
            exact ⟨rfl, by rw [hstep, hp]; simp⟩
        · intro outs G2 hinv
          obtain ⟨rfl, rfl⟩ := hinv
          rw [show ((List.range (line.map lnAV).length).map fun (i : Nat) => AV.int (i : Int)).length = line.zipIdx.length by simp, List.take_length]
          refine EA.nil (OF.join hj ⟨?_, rfl⟩)
          unfold bareP
          rw [if_neg (by rw [h]; decide)]
          rfl
end Mine
end

-- part W62
section
open PySem PySem.W PyProof.Rows PySem.SeqAt
set_option Elab.async false
set_option linter.unusedVariables false
set_option maxRecDepth 100000
set_option pp.maxSteps 300
set_option pp.deepTerms false
namespace Mine
local macro_rules | `(tactic| got_up) => `(tactic| first
  | refine EV.localI 0 rfl (by rfl) rfl (by kernel_rfl) ?_ (by kernel_rfl)
  | refine EV.localI 1 rfl (by rfl) rfl (by kernel_rfl) ?_ (by kernel_rfl)
  | refine EV.localI 2 rfl (by rfl) rfl (by kernel_rfl) ?_ (by kernel_rfl)
  | refine EV.localI 3 rfl (by rfl) rfl (by kernel_rfl) ?_ (by kernel_rfl)
  | refine EV.localI 4 rfl (by rfl) rfl (by kernel_rfl) ?_ (by kernel_rfl)
  | refine EV.localI 5 rfl (by rfl) rfl (by kernel_rfl) ?_ (by kernel_rfl)
  | refine EV.localI 6 rfl (by rfl) rfl (by kernel_rfl) ?_ (by kernel_rfl))
local macro_rules | `(tactic| leaf_len) => `(tactic| first
  | refine EV.str ?_ | refine EV.int ?_ | refine EV.none ?_ | refine EV.bool ?_
  | refine EV.binop ?_ | refine EV.sub ?_ | refine EV.cmp ?_ | refine EV.ifexp ?_ | refine EV.tuple ?_ | refine EV.list ?_
  | refine EA.cons ?_ | refine EA.nil ?_
  | got_up
  | refine OS.tup (by decide) (by decide) rfl rfl ?_
  | refine OB.add_str ?_ ?_
  | refine OB.add ?_
  | refine OC.lt ?_ | refine OC.le ?_ | refine OC.gt ?_ | refine OC.ge ?_
  | refine XS.cons ?_ | refine X1.ret ?_ | refine X1.iff ?_ | refine XS.nil ?_
  | refine X1.assign (cxOf_env rfl rfl) (by kernel_rfl) rfl ?_
  | refine BT.cmp ?_)
noncomputable def fdO (w : World) : Option FuncData := match (Mine.hz.zo_448 w.params).data with | .func fd => some fd | _ => none
theorem fdO_some (w : World) : (fdO w).isSome = true := by rfl
noncomputable def lawFd (w : World) : FuncData := (fdO w).get (fdO_some w)
noncomputable def lawB (w : World) : List Stmt := match (lawFd w).body with | .stmts b => b | _ => []
theorem lawFd_data (w : World) : (Mine.hz.zo_448 w.params).data = .func (lawFd w) := by rfl
theorem lawFd_body (w : World) : (lawFd w).body = .stmts (lawB w) := by rfl
noncomputable abbrev LC (w : World) (A : Around) (L : Addr) (own outer D : List Addr) : Cx := ⟨PG, w, KH w, A, callEnvC (lawFd w) L 476, own, outer, D⟩
def KFL : FK := fun fa _ _ _ => match fa with | .ret a => a = .bool true | _ => False
theorem XS.monoK {c : Cx} {m mc : LM} {G : Heap → Prop} {ss : List Stmt} {KF KF' : FK} (h : XS c m mc G ss KF) (k : ∀ fa m mc G, KF fa m mc G → KF' fa m mc G) : XS c m mc G ss KF' := ⟨fun s x => wpAny_imp (h.run s x) fun f s' ⟨fa, m', mc', G', h1, h2, h3, h4⟩ => ⟨fa, m', mc', G', h1, h2, h3, k _ _ _ _ h4⟩⟩

def startP (p : DS) : Option Lk × DS := if (dv p).fmod 3 == 0 then (none, dn p) else (some (openL (dn p)), dn (dn (dn (dn p))))
def lnk : Option Lk → AV
  | some k => .link k.u k.p k.t
  | none => .none
def pcsP : Nat → DS → List Pc × DS
  | 0, p => ([], p)
  | i + 1, p => ((pcsP i p).1 ++ [(pieceP (pcsP i p).2).1], (pieceP (pcsP i p).2).2)
def rowOf (ps : List Pc) : Str := Txt.join (Str.ofString "") (ps.map Pc.text)
def nm (k : Nat) : Str := Str.ofString "n" ++ Str.ofString (toString (k : Int))
def nms (k : Nat) : List Str := (List.range k).map nm

theorem startP_ok {p : DS} (h : DSok p) : DSok (startP p).2 := by
  unfold startP
  split
  · exact dn_ok h
  · exact dn_ok (dn_ok (dn_ok (dn_ok h)))
theorem pieceP_okS {p : DS} (h : DSok p) : DSok (pieceP p).2 := by
  have h1 := dn_ok h
  have h2 := dn_ok h1
  have h3 := dn_ok h2
  have h4 := dn_ok h3
  unfold pieceP
  simp only
  repeat' split
  all_goals first | exact h1 | exact h2 | exact h3 | exact h4
theorem pcsP_ok {p : DS} (h : DSok p) : ∀ i, DSok (pcsP i p).2
  | 0 => h
  | i + 1 => pieceP_okS (pcsP_ok h i)
theorem pcsP_len (p : DS) : ∀ i, (pcsP i p).1.length = i
  | 0 => rfl
  | i + 1 => by unfold pcsP; simp [pcsP_len p i]

/-- the law's frame -/
structure LOk (w : World) (A : Around) (L : Addr) (own outer D : List Addr) (d l : Addr) : Prop where
  ok : CxOk (LC w A L own outer D) 200
  E : EnvOk (LC w A L own outer D)
  cV : ∀ p ∈ [(Str.ofString "wrapper", L + 2), (Str.ofString "draw", L + 1)], p.2 ∈ (LC w A L own outer D).V
  dl : d ≠ l
  hd : d ∈ D
  hl : l ∈ D

theorem nth_mem {xs : List Str} {i : Int} (h0 : 0 ≤ i) (h1 : i < xs.length) : nth xs i ∈ xs := by
  unfold nth
  have : i.toNat < xs.length := by omega
  rw [List.getElem?_eq_getElem this]
  exact List.getElem_mem this
theorem link_fits (p : DS) : (openL p).u.length + (openL p).p.length + (openL p).t.length ≤ 1000 := by
  have := nth_len (xs := URLS) (m := 100) (by decide +kernel) ((dv p).fmod 3)
  have := nth_len (xs := PARAMS) (m := 100) (by decide +kernel) ((dv (dn p)).fmod 4)
  have := nth_len (xs := ENDS) (m := 100) (by decide +kernel) ((dv (dn (dn p))).fmod 2)
  unfold openL
  simp only
  omega

local macro_rules | `(tactic| leaf_len) => `(tactic| refine X1.assign (by assumption) (by rfl) rfl ?_)

/-- statements 2 and 3: start, handed -/
theorem law_2 {w : World} {A : Around} {L : Addr} {own outer D F : List Addr} {R : Heap → Prop} {d l : Addr} (X : LOk w A L own outer D d l) (Y : DOk D F R d l) {p : DS} (hp : DSok p) {KF : FK}
    (h : XS (LC w A L own outer D) [(Str.ofString "handed", lnk (startP p).1), (Str.ofString "start", lkAV (startP p).1)] [(Str.ofString "draw", .raw (.ref d))] (GD d l (startP p).2 R) ((lawB w).drop 3) KF) :
    XS (LC w A L own outer D) [] [(Str.ofString "draw", .raw (.ref d))] (GD d l p R) ((lawB w).drop 1) KF := by
  have E := X.E
  have ok := X.ok
  refine XS.cons ?_
  leaf_len
  refine EV.ifexp (BT.cmp ?_)
  refine EV.callN 431 (by kernel_rfl) (by kernel_rfl) (by kernel_rfl) ?_
  refine EA.cons (EV.cellI 0 rfl (by rfl) rfl (by rfl) (EA.cons (EV.int (EA.nil ?_))) (by kernel_rfl))
  refine OF.ct ok ((take_c (n := 199) Y hp (by decide)).mono (Nat.le_refl _) ?_)
  rintro a G' ⟨rfl, rfl⟩
  refine EV.int (OC.eq ok rfl rfl ⟨_, rfl, fun h0 => ?_, fun h0 => ?_⟩)
  · have e : startP p = (none, dn p) := by unfold startP; rw [if_pos (show ((dv p).fmod 3 == 0) = true from h0)]
    rw [e] at h
    refine EV.none ?_
    refine XS.cons ?_
    leaf_len
    refine EV.ifexp (BT.cmp ?_)
    refine EV.localI 0 rfl (by rfl) rfl (by rfl) (EV.none ?_) (by kernel_rfl)
    refine OC.isNone rfl ⟨_, rfl, fun _ => ?_, fun h => (by cases h)⟩
    refine EV.none ?_
    exact h
  · have e : startP p = (some (openL (dn p)), dn (dn (dn (dn p)))) := by unfold startP; rw [if_neg (by rw [show ((dv p).fmod 3 == 0) = false from h0]; decide)]
    rw [e] at h
    refine EV.callN 438 (by kernel_rfl) (by kernel_rfl) (by kernel_rfl) ?_
    refine EA.cons (EV.cellI 0 rfl (by rfl) rfl (by rfl) (EA.nil ?_) (by kernel_rfl))
    refine OF.ct ok ((open_ct (n := 198) Y (dn_ok hp)).mono (Nat.le_refl _) ?_)
    rintro a G' ⟨rfl, rfl⟩
    refine XS.cons ?_
    leaf_len
    refine EV.ifexp (BT.cmp ?_)
    refine EV.localI 0 rfl (by rfl) rfl (by rfl) (EV.none ?_) (by kernel_rfl)
    refine OC.isNone rfl ⟨_, rfl, fun h => (by cases h), fun _ => ?_⟩
    refine EV.callK 204 (by kernel_rfl) (by rfl) (by rfl) ?_
    refine EV.top (.ref 204) (by kernel_rfl) (by kernel_rfl) ⟨rfl, ?_⟩
    refine EK.cons (EV.sub (EV.localI 0 rfl (by rfl) rfl (by rfl) (EV.int ?_) (by kernel_rfl)))
    refine OS.tup (by decide) (by decide) rfl rfl ?_
    refine EK.cons (EV.sub (EV.localI 0 rfl (by rfl) rfl (by rfl) (EV.int ?_) (by kernel_rfl)))
    refine OS.tup (by decide) (by decide) rfl rfl ?_
    refine EK.cons (EV.sub (EV.localI 0 rfl (by rfl) rfl (by rfl) (EV.int ?_) (by kernel_rfl)))
    refine OS.tup (by decide) (by decide) rfl rfl ?_
    refine EK.nil ?_
    intro vs s at0 hr
    obtain ⟨v1, vr1, rfl, ⟨t1, rfl⟩, v2, vr2, rfl, ⟨t2, rfl⟩, v3, vr3, rfl, ⟨t3, rfl⟩, rfl⟩ := hr
    refine wpAny_imp (wpAny_AX (new_ax w s at0.gd.k at0.gd.nl _ _ _ t1 t2 t3) (ok.a.mono (by omega))) ?_
    intro v s' hv
    obtain ⟨rv, st⟩ := linkNew_VR hv at0.gd.lt
    exact ⟨_, _, rv, at0.pure st, st.mono (by simp), h⟩
end Mine
end

-- part W63
section
open PySem PySem.W PyProof.Rows PySem.SeqAt
set_option Elab.async false
set_option linter.unusedVariables false
set_option maxRecDepth 100000
set_option pp.maxSteps 300
set_option pp.deepTerms false
namespace Mine
local macro_rules | `(tactic| got_up) => `(tactic| first
  | refine EV.localI 0 rfl (by rfl) rfl (by kernel_rfl) ?_ (by kernel_rfl)
  | refine EV.localI 1 rfl (by rfl) rfl (by kernel_rfl) ?_ (by kernel_rfl)
  | refine EV.localI 2 rfl (by rfl) rfl (by kernel_rfl) ?_ (by kernel_rfl)
  | refine EV.localI 3 rfl (by rfl) rfl (by kernel_rfl) ?_ (by kernel_rfl)
  | refine EV.localI 4 rfl (by rfl) rfl (by kernel_rfl) ?_ (by kernel_rfl)
  | refine EV.localI 5 rfl (by rfl) rfl (by kernel_rfl) ?_ (by kernel_rfl)
  | refine EV.localI 6 rfl (by rfl) rfl (by kernel_rfl) ?_ (by kernel_rfl))
local macro_rules | `(tactic| leaf_len) => `(tactic| first
  | refine EV.str ?_ | refine EV.int ?_ | refine EV.none ?_ | refine EV.bool ?_
  | refine EV.binop ?_ | refine EV.sub ?_ | refine EV.cmp ?_ | refine EV.ifexp ?_ | refine EV.tuple ?_ | refine EV.list ?_
  | refine EA.cons ?_ | refine EA.nil ?_
  | got_up
  | refine OS.tup (by decide) (by decide) rfl rfl ?_
  | refine OB.add_str ?_ ?_
  | refine OB.add ?_
  | refine OC.lt ?_ | refine OC.le ?_ | refine OC.gt ?_ | refine OC.ge ?_
  | refine XS.cons ?_ | refine X1.ret ?_ | refine X1.iff ?_ | refine XS.nil ?_
  | refine X1.assign (cxOf_env rfl rfl) (by kernel_rfl) rfl ?_
  | refine BT.cmp ?_)
local macro_rules | `(tactic| leaf_len) => `(tactic| refine X1.assign (by assumption) (by rfl) rfl ?_)
theorem fold_len (sep : Str) (h0 : sep.length = 0) : ∀ (l : List Str) (a : Nat), (∀ x ∈ l, x.length ≤ 1000) → l.foldl (fun n x => n + x.length + sep.length) a ≤ a + 1000 * l.length
  | [], a, _ => by simp
  | x :: l, a, h => by
    have h1 := h x (List.mem_cons_self ..)
    have := fold_len sep h0 l (a + x.length + sep.length) (fun y hy => h y (List.mem_cons_of_mem _ hy))
    simp only [List.foldl_cons, List.length_cons]
    omega
theorem join_ok {l : List Str} (hl : l.length ≤ 1000) (h : ∀ x ∈ l, x.length ≤ 1000) : JoinOk (Str.ofString "") l = true := by
  unfold JoinOk
  rw [Bool.not_eq_true']
  have := fold_len (Str.ofString "") (by decide) l 0 h
  have e : l.toArray.foldl (fun x1 x2 => x1 + x2.length + (Str.ofString "").length) 0 = l.foldl (fun n x => n + x.length + (Str.ofString "").length) 0 := by simp
  unfold Builtin.Str.tooLong
  rw [e]
  unfold sizeLine
  simp only [gt_iff_lt, decide_eq_false_iff_not, Nat.not_lt]
  omega

theorem oTxt_len (k : Lk) (h : k.u.length + k.p.length + k.t.length ≤ 500) : (oTxt k).length ≤ 1000 := by
  have e1 : (Str.ofString "\u001b]8;").length = 4 := by decide
  have e2 : (Str.ofString ";").length = 1 := by decide
  unfold oTxt
  simp only [Str.length_append, e1, e2]
  omega

/-- a piece as the law draws it -/
def Pc.ok : Pc → Prop
  | .opn k => k.u ∈ URLS ∧ k.p ∈ PARAMS ∧ k.t ∈ ENDS
  | .cls e => e ∈ ENDS
  | _ => True
theorem pieceP_ok (p : DS) : (pieceP p).1.ok := by
  have u : ∀ i : Int, 0 ≤ i → i < 3 → nth URLS i ∈ URLS := fun i h0 h1 => nth_mem h0 (by show i < 3; exact h1)
  have v : ∀ i : Int, 0 ≤ i → i < 4 → nth PARAMS i ∈ PARAMS := fun i h0 h1 => nth_mem h0 (by show i < 4; exact h1)
  have z : ∀ i : Int, 0 ≤ i → i < 2 → nth ENDS i ∈ ENDS := fun i h0 h1 => nth_mem h0 (by show i < 2; exact h1)
  unfold pieceP
  simp only
  split
  · trivial
  · split
    · trivial
    · split
      · exact ⟨u _ (modb (by decide)).1 (modb (by decide)).2, v _ (modb (by decide)).1 (modb (by decide)).2, z _ (modb (by decide)).1 (modb (by decide)).2⟩
      · split
        · exact z _ (modb (by decide)).1 (modb (by decide)).2
        · split
          · trivial
          · split <;> trivial
theorem pcsP_succ (i : Nat) (p : DS) : pcsP (i + 1) p = ((pcsP i p).1 ++ [(pieceP (pcsP i p).2).1], (pieceP (pcsP i p).2).2) := rfl
theorem pcsP_pok (p : DS) : ∀ i, ∀ x ∈ (pcsP i p).1, x.ok
  | 0, x, h => by cases h
  | i + 1, x, h => by
    unfold pcsP at h
    rcases List.mem_append.mp h with h | h
    · exact pcsP_pok p i x h
    · rw [List.mem_singleton.mp h]; exact pieceP_ok _
theorem tab_len {xs : List Str} {x : Str} (h : xs.all (fun x => decide (x.length ≤ 100)) = true) (hx : x ∈ xs) : x.length ≤ 100 := by simpa using List.all_eq_true.mp h x hx
theorem Pc.len {x : Pc} (h : x.ok) : x.text.length ≤ 1000 := by
  cases x with
  | ab => decide
  | sp => decide
  | opn k =>
    obtain ⟨h1, h2, h3⟩ := h
    have := tab_len (xs := URLS) (by decide +kernel) h1
    have := tab_len (xs := PARAMS) (by decide +kernel) h2
    have := tab_len (xs := ENDS) (by decide +kernel) h3
    exact oTxt_len k (by omega)
  | cls e =>
    have := tab_len (xs := ENDS) (by decide +kernel) h
    have e1 : (Str.ofString "\u001b]8;;").length = 5 := by decide
    show (Str.ofString "\u001b]8;;" ++ e).length ≤ 1000
    simp only [Str.length_append, e1]
    omega
  | bad => decide
  | sgr => decide
  | title => decide

def pn (p : DS) (m : Nat) : Nat := ((dv p).fmod (m : Int)).toNat
theorem pn_eq {p : DS} {m : Nat} (h : 0 < m) : ((pn p m : Nat) : Int) = (dv p).fmod (m : Int) := by
  unfold pn
  have := (modb (a := dv p) (m := (m : Int)) (by omega)).1
  omega
theorem pn_lt {p : DS} {m : Nat} (h : 0 < m) : pn p m < m := by
  unfold pn
  have h1 := modb (a := dv p) (m := (m : Int)) (by omega)
  omega

theorem nm_len (k : Nat) (h : k < 10) : (nm k).length ≤ 1000 := by
  have : ∀ k, k < 10 → (nm k).length ≤ 1000 := by decide
  exact this k h

/-- statements 4 to 6: pieces, row, names -/
theorem law_4 {w : World} {A : Around} {L : Addr} {own outer D F : List Addr} {R : Heap → Prop} {d l : Addr} (X : LOk w A L own outer D d l) (Y : DOk D F R d l) {p : DS} (hp : DSok p) {KF : FK} {st : Option Lk}
    (h : ∀ N M ps, N = 1 + pn p 9 → ps = (pcsP N (dn p)).1 → M = 1 + pn (pcsP N (dn p)).2 5 →
      XS (LC w A L own outer D) [(Str.ofString "names", .lst ((nms M).map .str)), (Str.ofString "row", .str (rowOf ps)), (Str.ofString "pieces", .lst (ps.map Pc.av)), (Str.ofString "handed", lnk st), (Str.ofString "start", lkAV st)]
        [(Str.ofString "draw", .raw (.ref d))] (GD d l (dn (pcsP N (dn p)).2) R) ((lawB w).drop 6) KF) :
    XS (LC w A L own outer D) [(Str.ofString "handed", lnk st), (Str.ofString "start", lkAV st)] [(Str.ofString "draw", .raw (.ref d))] (GD d l p R) ((lawB w).drop 3) KF := by
  have E := X.E
  have ok := X.ok
  have hN : 1 + pn p 9 ≤ 9 := by have := pn_lt (p := p) (m := 9) (by decide); omega
  refine XS.cons (X1.assignComp (cl := [(Str.ofString "draw", L + 1)]) (mci := [(Str.ofString "draw", .raw (.ref d))]) ?ok1 ok.a.handled E X.cV (by rfl) rfl (fun i outs G2 => outs = (pcsP i (dn p)).1.map Pc.av ∧ G2 = GD d l (pcsP i (dn p)).2 R) ?_)
  case ok1 =>
    refine ⟨by intro _; rfl, rfl, by decide, rfl, by decide +kernel, rfl, by intro _ _; rfl, ?_, ?_⟩
    · intro x a e
      refine ⟨e, ?_⟩
      have := mem_of_lookup e
      have := List.mem_singleton.mp this
      cases this
      rfl
    · intro q hq
      rw [List.mem_singleton.mp hq]
      exact X.cV (Str.ofString "draw", L + 1) (by simp)
  refine EV.callT "range" (by kernel_rfl) (by kernel_rfl) rfl ?_
  refine EA.cons (EV.binop (EV.int ?_))
  refine EV.callN 431 (by kernel_rfl) (by kernel_rfl) (by kernel_rfl) ?_
  refine EA.cons (EV.cellI 0 rfl (by rfl) rfl (by rfl) (EA.cons (EV.int (EA.nil ?_))) (by kernel_rfl))
  refine OF.ct ok ((take_c (n := 199) Y hp (by decide)).mono (Nat.le_refl _) ?_)
  rintro a G' ⟨rfl, rfl⟩
  refine OB.add (EA.nil ?_)
  rw [show (1 + (dv p).fmod 9 : Int) = ((1 + pn p 9 : Nat) : Int) by have := pn_eq (p := p) (m := 9) (by decide); push_cast; rw [this]; rfl]
  refine OF.range1 ⟨_, rfl, by simp; unfold sizeLine; omega, ⟨rfl, rfl⟩, ?_, ?_⟩
  · intro C acc I i a outs G2 ml hia hinv okc
    obtain ⟨rfl, rfl⟩ := hinv
    refine IFs.nil ⟨fun _ => ?_, fun h => (by cases h)⟩
    refine EV.callN 452 (by kernel_rfl) (by kernel_rfl) (by kernel_rfl) ?_
    refine EA.cons (EV.cellI 0 rfl (by rfl) rfl (by kernel_rfl) (EA.nil ?_) (by kernel_rfl))
    refine OF.ct (okc _ ok) ((piece_ct (n := 197) Y (pcsP_ok (dn_ok hp) i)).mono (Nat.le_refl _) ?_)
    rintro a G' ⟨rfl, rfl⟩
    exact ⟨by rw [pcsP_succ]; simp, rfl⟩
  intro outs G2 hinv
  obtain ⟨rfl, rfl⟩ := hinv
  rw [show ((List.range (1 + pn p 9)).map fun (i : Nat) => AV.int (i : Int)).length = 1 + pn p 9 by simp]
  generalize hNN : 1 + pn p 9 = N at *
  have hps := pcsP_ok (dn_ok hp) N
  have hpl := pcsP_len (dn p) N
  have hpo := pcsP_pok (dn p) N
  generalize hq : (pcsP N (dn p)).2 = q at *
  generalize hpp : (pcsP N (dn p)).1 = ps at *
  have hM : 1 + pn q 5 ≤ 5 := by have := pn_lt (p := q) (m := 5) (by decide); omega
  refine XS.cons ?_
  leaf_len
  refine EV.meth "str" "str.join" rfl rfl rfl PySem.F.plainAttrs_str PySem.F.slot_str_join PySem.F.type_str_join ?_
  refine EV.str ?_
  refine ⟨fun v s x hv => (by obtain ⟨tk, rfl⟩ := hv; exact ⟨typeIs_str _ _ _, fun p e => by cases e⟩), CW.of rfl ?_⟩
  refine EA.cons ?_
  refine EV.comp (cl := []) (mci := []) ⟨by intro _; rfl, rfl, by decide, rfl, by decide +kernel, rfl, by intro _ _; rfl, (by intro x a e; cases e), (by intro p hp; cases hp)⟩ ok.a.handled (fun i outs G2 => G2 = GD d l q R ∧ outs = (ps.take i).map fun x => .str x.text) ?_
  refine EV.localI 0 rfl (by rfl) rfl (by rfl) ?_ (by kernel_rfl)
  refine ⟨_, rfl, by simp; unfold sizeLine; omega, ⟨rfl, rfl⟩, ?_, ?_⟩
  · intro C acc I i a outs G2 ml hia hinv okc
    obtain ⟨rfl, rfl⟩ := hinv
    obtain ⟨x, hx, rfl⟩ : ∃ x, ps[i]? = some x ∧ x.av = a := by simpa [List.getElem?_map] using hia
    refine IFs.nil ⟨fun _ => ?_, fun h => (by cases h)⟩
    refine EV.sub (EV.localI 0 rfl (by rfl) rfl (by kernel_rfl) (EV.int ?_) (by kernel_rfl))
    refine OS.tup (by decide) (by decide) rfl rfl ⟨rfl, ?_⟩
    rw [List.take_add_one, hx]
    simp
  intro outs G2 hinv
  obtain ⟨rfl, rfl⟩ := hinv
  rw [List.length_map, List.take_length]
  refine EA.nil ?_
  rw [show (ps.map fun x => AV.str x.text) = (ps.map Pc.text).map .str by rw [List.map_map]; rfl]
  refine OF.join (join_ok (by rw [List.length_map]; omega) (by
    intro y hy
    obtain ⟨x, hx, rfl⟩ := List.mem_map.mp hy
    exact Pc.len (hpo x hx))) ?_
  refine XS.cons (X1.assignComp (cl := []) (mci := []) ⟨by intro _; rfl, rfl, by decide, rfl, by decide +kernel, rfl, by intro _ _; rfl, (by intro x a e; cases e), (by intro p hp; cases hp)⟩ ok.a.handled E X.cV (by rfl) rfl
    (fun i outs G2 => outs = (nms i).map .str ∧ G2 = GD d l (dn q) R) ?_)
  refine EV.callT "range" (by kernel_rfl) (by kernel_rfl) rfl ?_
  refine EA.cons (EV.binop (EV.int ?_))
  refine EV.callN 431 (by kernel_rfl) (by kernel_rfl) (by kernel_rfl) ?_
  refine EA.cons (EV.cellI 0 rfl (by rfl) rfl (by rfl) (EA.cons (EV.int (EA.nil ?_))) (by kernel_rfl))
  refine OF.ct ok ((take_c (n := 199) Y hps (by decide)).mono (Nat.le_refl _) ?_)
  rintro a G' ⟨rfl, rfl⟩
  refine OB.add (EA.nil ?_)
  rw [show (1 + (dv q).fmod 5 : Int) = ((1 + pn q 5 : Nat) : Int) by have := pn_eq (p := q) (m := 5) (by decide); push_cast; rw [this]; rfl]
  refine OF.range1 ⟨_, rfl, by simp; unfold sizeLine; omega, ⟨rfl, rfl⟩, ?_, ?_⟩
  · intro C acc I i a outs G2 ml hia hinv okc
    obtain ⟨rfl, rfl⟩ := hinv
    have ilt : i < 1 + pn q 5 := by
      rcases Nat.lt_or_ge i (1 + pn q 5) with h | h
      · exact h
      · simp [h] at hia
    have ha : a = .int (i : Int) := by simp [ilt] at hia; exact hia.symm
    subst ha
    refine IFs.nil ⟨fun _ => ?_, fun h => (by cases h)⟩
    refine EV.binop (EV.str ?_)
    refine EV.callT "str" (by kernel_rfl) (by kernel_rfl) rfl ?_
    refine EA.cons (EV.localI 0 rfl (by rfl) rfl (by kernel_rfl) (EA.nil ?_) (by kernel_rfl))
    refine OF.strInt (by omega) ?_
    refine OB.add_str ?_ ⟨?_, rfl⟩
    · have := nm_len i (by omega)
      show (nm i).length ≤ _
      unfold sizeLine; omega
    · unfold nms
      rw [List.range_succ, List.map_append, List.map_append]
      rfl
  intro outs G2 hinv
  obtain ⟨rfl, rfl⟩ := hinv
  rw [show ((List.range (1 + pn q 5)).map fun (i : Nat) => AV.int (i : Int)).length = 1 + pn q 5 by simp]
  have fin := h N (1 + pn q 5) ps rfl hpp.symm (by rw [hq])
  rw [hq] at fin
  exact fin
end Mine
end

-- part W64
section
open PySem PySem.W PyProof.Rows PySem.SeqAt
set_option Elab.async false
set_option linter.unusedVariables false
set_option maxRecDepth 100000
set_option pp.maxSteps 300
set_option pp.deepTerms false
namespace Mine
local macro_rules | `(tactic| got_up) => `(tactic| first
  | refine EV.localI 0 rfl (by rfl) rfl (by kernel_rfl) ?_ (by kernel_rfl)
  | refine EV.localI 1 rfl (by rfl) rfl (by kernel_rfl) ?_ (by kernel_rfl)
  | refine EV.localI 2 rfl (by rfl) rfl (by kernel_rfl) ?_ (by kernel_rfl)
  | refine EV.localI 3 rfl (by rfl) rfl (by kernel_rfl) ?_ (by kernel_rfl)
  | refine EV.localI 4 rfl (by rfl) rfl (by kernel_rfl) ?_ (by kernel_rfl)
  | refine EV.localI 5 rfl (by rfl) rfl (by kernel_rfl) ?_ (by kernel_rfl)
  | refine EV.localI 6 rfl (by rfl) rfl (by kernel_rfl) ?_ (by kernel_rfl))
local macro_rules | `(tactic| leaf_len) => `(tactic| first
  | refine EV.str ?_ | refine EV.int ?_ | refine EV.none ?_ | refine EV.bool ?_
  | refine EV.binop ?_ | refine EV.sub ?_ | refine EV.cmp ?_ | refine EV.ifexp ?_ | refine EV.tuple ?_ | refine EV.list ?_
  | refine EA.cons ?_ | refine EA.nil ?_
  | got_up
  | refine OS.tup (by decide) (by decide) rfl rfl ?_
  | refine OB.add_str ?_ ?_
  | refine OB.add ?_
  | refine OC.lt ?_ | refine OC.le ?_ | refine OC.gt ?_ | refine OC.ge ?_
  | refine XS.cons ?_ | refine X1.ret ?_ | refine X1.iff ?_ | refine XS.nil ?_
  | refine X1.assign (cxOf_env rfl rfl) (by kernel_rfl) rfl ?_
  | refine BT.cmp ?_)
local macro_rules | `(tactic| leaf_len) => `(tactic| refine X1.assign (by assumption) (by rfl) rfl ?_)

/-- what the frame knows from statement 8 on -/
structure LW (w : World) (A : Around) (L : Addr) (own outer D : List Addr) (d l wr dx lid : Addr) (od : Obj) : Prop extends LOk w A L own outer D d l where
  cD : ∀ p ∈ [(Str.ofString "wrapper", L + 2), (Str.ofString "draw", L + 1)], p.2 ∉ D
  wf : WFacts (KH w) od lid
  hw : wr ∈ D
  hx : dx ∈ D
  hi : lid ∈ D
  wl : wr ≠ lid
  xl : dx ≠ lid
  dW : d ∉ [wr, dx, lid]
  lW : l ∉ [wr, dx, lid]
theorem LW.dok {w A L own outer D d l wr dx lid od} (X : LW w A L own outer D d l wr dx lid od) (xs : List Str) : DOk D [wr, dx, lid] (WG wr dx lid od xs) d l where
  dl := X.dl
  hd := X.hd
  hl := X.hl
  hF := fun f hf => by
    rcases List.mem_cons.mp hf with rfl | hf
    · exact X.hw
    · rcases List.mem_cons.mp hf with rfl | hf
      · exact X.hx
      · rw [List.mem_singleton.mp hf]; exact X.hi
  dF := X.dW
  lF := X.lW
  hR := WG.loc ..

theorem law_7 {w : World} {A : Around} {L : Addr} {own outer D : List Addr} {d l : Addr} (X : LOk w A L own outer D d l) (Y : DOk D [L + 2] (UC [L + 2]) d l) (hb : L + 2 ∈ D) (h1D : L + 1 ∉ D) {p : DS} {m : LM} {M : Nat} (hM : 1 ≤ M ∧ M ≤ 5)
    (hm : m.lookup (Str.ofString "names") = some (.lst ((nms M).map .str)))
    (h : ∀ own D wr dx lid od, LW w A L own outer D d l wr dx lid od → XS (LC w A L own outer D) m [(Str.ofString "wrapper", .raw (.ref wr)), (Str.ofString "draw", .raw (.ref d))] (GD d l p (WG wr dx lid od (nms M))) ((lawB w).drop 7) KFL) :
    XS (LC w A L own outer D) m [(Str.ofString "draw", .raw (.ref d))] (GD d l p (UC [L + 2])) ((lawB w).drop 6) KFL := by
  have E := X.E
  have ok := X.ok
  have hbO : L + 2 ∉ (LC w A L own outer D).O := ok.d _ hb
  refine XS.cellInD (b := L + 2) E (by rfl) (by rfl) hb hbO rfl fun s x => ?_
  refine wpAny_imp (wrap_eval (n := 80) (xs := nms M) (w := w) rfl rfl rfl ok x (by kernel_rfl) (by kernel_rfl) (EV.local rfl (by rfl) hm ⟨rfl, rfl⟩ (by kernel_rfl)) (by unfold nms; simp; omega) (by unfold nms; simp; omega) (by kernel_rfl) (by rfl) (by rfl) (by rfl)) ?_
  rintro v s1 ⟨vs, hv, ⟨wr, dx, lid, od, n, rfl, e1, n1, e2, n2, e3, n3, f, d1, d2, d3, st⟩, x1⟩
  have gh := x1.g.here
  have fr : ∀ b, s.heap.get? b = none → b ∉ (LC w A L own outer D).V := fun b e hb => by obtain ⟨o, e'⟩ := x.gd.lt b hb; rw [e] at e'; cases e'
  have fD : ∀ b, s.heap.get? b = none → b ∉ D := fun b e hb => fr b e (List.mem_append_right _ hb)
  refine ⟨[wr, dx, lid], GD d l p (WG wr dx lid od (nms M)), ?_, st, gh.2 _ (by simp), fun h' k => ?_, ?_⟩
  · intro q hq
    rcases List.mem_cons.mp hq with rfl | hq
    · exact ⟨n1, _, e1⟩
    · rcases List.mem_cons.mp hq with rfl | hq
      · exact ⟨n2, _, e2⟩
      · rw [List.mem_singleton.mp hq]; exact ⟨n3, _, e3⟩
  · have kD : ∀ b, b ∈ D → b ≠ L + 2 → ∀ o, s1.heap.get? b = some o → h'.get? b = some o := fun b hb' hne o e => k b o (ok.d b hb') hne e
    have kN : ∀ b, s.heap.get? b = none → ∀ o, s1.heap.get? b = some o → h'.get? b = some o := fun b hn o e => k b o (fun hO => fr b hn (List.mem_append_left _ hO)) (fun q => fD b hn (q ▸ hb)) e
    refine ⟨(DR.loc d l _ _).loc s1.heap h' (fun b hb' => ?_) gh.1, kN wr n1 _ e1, kN dx n2 _ e2, vs, n, kN lid n3 _ e3, strs_any hv⟩
    rcases List.mem_cons.mp hb' with rfl | hb'
    · exact kD _ Y.hd (fun q => Y.dF (q ▸ List.mem_singleton.mpr rfl))
    · rw [List.mem_singleton.mp hb']
      exact kD _ Y.hl (fun q => Y.lF (q ▸ List.mem_singleton.mpr rfl))
  · have okM := CxOk.more (b := L + 2) (N := [wr, dx, lid]) ok hb (fun q hq => by
      rcases List.mem_cons.mp hq with rfl | hq
      · exact fr _ n1
      · rcases List.mem_cons.mp hq with rfl | hq
        · exact fr _ n2
        · rw [List.mem_singleton.mp hq]; exact fr _ n3)
    have ne : ∀ b ∈ D, b ∉ [wr, dx, lid] := fun b hb' hq => by
      rcases List.mem_cons.mp hq with rfl | hq
      · exact fD _ n1 hb'
      · rcases List.mem_cons.mp hq with rfl | hq
        · exact fD _ n2 hb'
        · rw [List.mem_singleton.mp hq] at hb'; exact fD _ n3 hb'
    have mV : ∀ q, q ∈ ((LC w A L own outer D).more (L + 2) [wr, dx, lid]).V ↔ q ∈ [wr, dx, lid] ∨ q ∈ (LC w A L own outer D).V := fun q => Cx.more_V hb
    refine (h (own ++ [L + 2]) ([wr, dx, lid] ++ D.filter (fun q => decide (q ≠ L + 2))) wr dx lid od ⟨⟨okM, EnvOk.more E, fun q hq => (mV _).mpr (.inr (X.cV q hq)), X.dl, ?_, ?_⟩, ?_, f, by simp, by simp, by simp, d2, d3, ne d Y.hd, ne l Y.hl⟩).monoK (fun fa m mc G k => k)
    · exact List.mem_append_right _ (List.mem_filter.mpr ⟨Y.hd, decide_eq_true (fun q => Y.dF (q ▸ List.mem_singleton.mpr rfl))⟩)
    · exact List.mem_append_right _ (List.mem_filter.mpr ⟨Y.hl, decide_eq_true (fun q => Y.lF (q ▸ List.mem_singleton.mpr rfl))⟩)
    · intro q hq hm'
      have aux : ∀ b, b ∈ (LC w A L own outer D).V → (b = L + 2 ∨ b ∉ D) → b ∉ [wr, dx, lid] ++ D.filter (fun q => decide (q ≠ L + 2)) := fun b hbV hb2 hm => by
        rcases List.mem_append.mp hm with h | h
        · rcases List.mem_cons.mp h with rfl | h
          · exact fr _ n1 hbV
          · rcases List.mem_cons.mp h with rfl | h
            · exact fr _ n2 hbV
            · rw [List.mem_singleton.mp h] at hbV; exact fr _ n3 hbV
        · have h := List.mem_filter.mp h
          rcases hb2 with q | q
          · have := h.2; simp [q] at this
          · exact q h.1
      refine aux q.2 (X.cV q hq) ?_ hm'
      rcases List.mem_cons.mp hq with rfl | hq
      · exact .inl rfl
      · rw [List.mem_singleton.mp hq]; exact .inr h1D
end Mine
end

-- part W65
section
open PySem PySem.W PyProof.Rows PySem.SeqAt
set_option Elab.async false
set_option linter.unusedVariables false
set_option maxRecDepth 100000
set_option pp.maxSteps 300
set_option pp.deepTerms false
namespace Mine
local macro_rules | `(tactic| got_up) => `(tactic| first
  | refine EV.localI 0 rfl (by rfl) rfl (by kernel_rfl) ?_ (by kernel_rfl)
  | refine EV.localI 1 rfl (by rfl) rfl (by kernel_rfl) ?_ (by kernel_rfl)
  | refine EV.localI 2 rfl (by rfl) rfl (by kernel_rfl) ?_ (by kernel_rfl)
  | refine EV.localI 3 rfl (by rfl) rfl (by kernel_rfl) ?_ (by kernel_rfl)
  | refine EV.localI 4 rfl (by rfl) rfl (by kernel_rfl) ?_ (by kernel_rfl)
  | refine EV.localI 5 rfl (by rfl) rfl (by kernel_rfl) ?_ (by kernel_rfl)
  | refine EV.localI 6 rfl (by rfl) rfl (by kernel_rfl) ?_ (by kernel_rfl))
local macro_rules | `(tactic| leaf_len) => `(tactic| first
  | refine EV.str ?_ | refine EV.int ?_ | refine EV.none ?_ | refine EV.bool ?_
  | refine EV.binop ?_ | refine EV.sub ?_ | refine EV.cmp ?_ | refine EV.ifexp ?_ | refine EV.tuple ?_ | refine EV.list ?_
  | refine EA.cons ?_ | refine EA.nil ?_
  | got_up
  | refine OS.tup (by decide) (by decide) rfl rfl ?_
  | refine OB.add_str ?_ ?_
  | refine OB.add ?_
  | refine OC.lt ?_ | refine OC.le ?_ | refine OC.gt ?_ | refine OC.ge ?_
  | refine XS.cons ?_ | refine X1.ret ?_ | refine X1.iff ?_ | refine XS.nil ?_
  | refine X1.assign (cxOf_env rfl rfl) (by kernel_rfl) rfl ?_
  | refine BT.cmp ?_)
local macro_rules | `(tactic| leaf_len) => `(tactic| refine X1.assign (by assumption) (by rfl) rfl ?_)
def stepO (st : Option Lk) (x : Pc) : Option Lk := match x with
  | .cls _ => none
  | .opn k => some k
  | _ => st
def afterO (st : Option Lk) (ps : List Pc) : Option Lk := ps.foldl stepO st
theorem afterO_av (ps : List Pc) : ∀ st, afterP (lkAV st) ps = lkAV (afterO st ps) := by
  unfold afterP afterO
  induction ps with
  | nil => intro st; rfl
  | cons x ps ih =>
    intro st
    rw [List.foldl_cons, List.foldl_cons, ← ih]
    congr 1
    cases x <;> rfl
theorem afterO_split (ps : List Pc) (k : Nat) (st : Option Lk) : afterO (afterO st (ps.take k)) (ps.drop k) = afterO st ps := by
  unfold afterO
  rw [← List.foldl_append, List.take_append_drop]
theorem lk_refl (o : Option Lk) : eqT (lkAV o) (lkAV o) = true := by
  cases o with
  | none => rfl
  | some k =>
    show eqs _ _ = true
    unfold eqs
    rw [Bool.and_eq_true]
    refine ⟨List.all_eq_true.mpr fun j hj => ?_, by simp⟩
    have hj := List.mem_range.mp hj
    have : j = 0 ∨ j = 1 ∨ j = 2 := by simp at hj; omega
    rcases this with rfl | rfl | rfl <;> exact beq_self_eq_true _
theorem lk_ok (o : Option Lk) : (lkAV o).ok = true := by cases o <;> rfl

/-- what tracking a text tells -/
structure TrackOk (x : Str) (g : Option Lk → Option Lk) : Prop where
  sz : x.cps.size ≤ 4000000
  its : ∃ (its : List (Str × Bool)) (f : Str → AV → AV), Sg x 0 0 (its.map itAV) ∧ (∀ it ∈ its, it.2 = true → Trk it.1 (f it.1) ∧ it.1.cps.size ≤ 4000000) ∧ ∀ st, trackP f (lnk st) its = lnk (g st)
theorem track_c {w : World} {n : Nat} {D : List Addr} {G : Heap → Prop} {sv : AV} {x : Str} {g : Option Lk → Option Lk} {st : Option Lk} (T : TrackOk x g) : CT PG w (KH w) (n + 130) D (.ref 373) [sv, .str x, lnk st] G (fun a G' => a = lnk (g st) ∧ G' = G) := by
  obtain ⟨its, f, h1, h2, h3⟩ := T.its
  exact (track_ct (n := n) T.sz h1 h2).mono (Nat.le_refl _) fun a G' ⟨e1, e2⟩ => ⟨e1.trans (h3 st), e2⟩
theorem fields_c {w : World} {n : Nat} {D : List Addr} {G : Heap → Prop} (o : Option Lk) : CT PG w (KH w) (n + 125) D (.ref 466) [lnk o] G (fun a G' => a = lkAV o ∧ G' = G) := by
  cases o with
  | none => exact (fields_none (n := n)).mono (by omega) fun _ _ h => h
  | some k => exact fields_link

theorem EV.wmeth {w : World} {A : Around} {L : Addr} {own outer D : List Addr} {d l wr dx lid : Addr} {od : Obj} (X : LW w A L own outer D d l wr dx lid od) {m mc : LM} {p : DS} {xs : List Str} {K : AK} {name : Str} {f : Addr} {apos pos pN : Pos} {args : List Expr} (pl : Sem Bool)
    (hmc : mc.lookup (Str.ofString "wrapper") = some (.raw (.ref wr))) (hf : findIn (KH w) (.ref 411) name = some (some (.ref f))) (ht : typeIn (KH w) (.ref f) = some (.type "function")) (hs : shadowIn (some od) name = some false)
    (he : eval (.Call (.Attribute (.Name (Str.ofString "wrapper") pN) name apos) args [] pos) (LC w A L own outer D).env = (do
      let ov ← eval (.Name (Str.ofString "wrapper") pN) (LC w A L own outer D).env
      standAt apos.atName
      let (f, first) ← holding [ov] (getMethod ov name pl)
      callWith pos f first (backTo pos (starEach args (LC w A L own outer D).env)) (backToKw pos (keywordEach [] (LC w A L own outer D).env))))
    (hk : kept (KH w) (.ref f) = true) (hp : (backTo pos (starEach args (LC w A L own outer D).env)).any (·.1) = false)
    (h : EA (LC w A L own outer D) m mc (GD d l p (WG wr dx lid od xs)) pos args fun as G2 => OF (LC w A L own outer D) m mc G2 (.ref f) (.raw (.ref wr) :: as) K) :
    EV (LC w A L own outer D) m mc (GD d l p (WG wr dx lid od xs)) (.Call (.Attribute (.Name (Str.ofString "wrapper") pN) name apos) args [] pos) K := by
  refine EV.methX (.ref f) true pl he hk hp ?_
  refine EV.cell rfl (by rfl) hmc ⟨fun v s Q x hv hq => ?_, h⟩ (by kernel_rfl)
  cases hv
  obtain ⟨_, g1, g2, _⟩ := x.g.here
  have I : InstAt s.heap wr (wrObj dx) 411 (some od) := ⟨g1, rfl, rfl, g2⟩
  exact method_fn x.gd.k I (ga411 w) (gt411 w) hf ht hs (hq s (.refl _ _))
theorem f_track (w : World) : findIn (KH w) (.ref 411) (Str.ofString "_track_hyperlink_state") = some (some (.ref 373)) := by kernel_rfl
theorem f_rstrip (w : World) : findIn (KH w) (.ref 411) (Str.ofString "_rstrip_visible") = some (some (.ref 408)) := by kernel_rfl
theorem f_next (w : World) : findIn (KH w) (.ref 411) (Str.ofString "_next_hyperlink_id") = some (some (.ref 338)) := by kernel_rfl
theorem t_track (w : World) : typeIn (KH w) (.ref 373) = some (.type "function") := by kernel_rfl
theorem t_rstrip (w : World) : typeIn (KH w) (.ref 408) = some (.type "function") := by kernel_rfl
theorem t_next (w : World) : typeIn (KH w) (.ref 338) = some (.type "function") := by kernel_rfl

/-- the locals from statement 8 on -/
def lm0 (M : Nat) (ps : List Pc) (st : Option Lk) : LM := [(Str.ofString "names", .lst ((nms M).map .str)), (Str.ofString "row", .str (rowOf ps)), (Str.ofString "pieces", .lst (ps.map Pc.av)), (Str.ofString "handed", lnk st), (Str.ofString "start", lkAV st)]
def lc0 (wr d : Addr) : LM := [(Str.ofString "wrapper", .raw (.ref wr)), (Str.ofString "draw", .raw (.ref d))]
def foldK (ps : List Pc) (p : DS) : Nat := pn p (ps.length + 1)

/-- statements 8 to 14 -/
theorem law_8 {w : World} {A : Around} {L : Addr} {own outer D : List Addr} {d l wr dx lid : Addr} {od : Obj} (X : LW w A L own outer D d l wr dx lid od) {p : DS} (hp : DSok p) {M : Nat} {ps : List Pc} {st : Option Lk} {xs : List Str}
    (hpo : ∀ x ∈ ps, x.ok) (hpl : ps.length ≤ 9) (T : ∀ qs : List Pc, (∀ x ∈ qs, x.ok) → qs.length ≤ 9 → TrackOk (rowOf qs) fun st => afterO st qs)
    (h : XS (LC w A L own outer D) (lm0 M ps st) (lc0 wr d) (GD d l (dn p) (WG wr dx lid od xs)) ((lawB w).drop 14) KFL) :
    XS (LC w A L own outer D) (lm0 M ps st) (lc0 wr d) (GD d l p (WG wr dx lid od xs)) ((lawB w).drop 7) KFL := by
  have E := X.E
  have ok := X.ok
  refine XS.cons ?_
  leaf_len
  refine EV.wmeth X _ (by rfl) (f_track w) (t_track w) X.wf.s1 rfl (by kernel_rfl) rfl ?_
  refine EA.cons (EV.localI 1 rfl (by rfl) rfl (by rfl) (EA.cons (EV.localI 3 rfl (by rfl) rfl (by rfl) (EA.nil ?_) (by kernel_rfl))) (by kernel_rfl))
  refine OF.ct ok ((track_c (n := 70) (T ps hpo hpl)).mono (Nat.le_refl _) ?_)
  rintro a G' ⟨rfl, rfl⟩
  refine XS.cons ?_
  leaf_len
  refine EV.callN 459 (by kernel_rfl) (by kernel_rfl) (by kernel_rfl) ?_
  refine EA.cons (EV.localI 5 rfl (by rfl) rfl (by rfl) (EA.cons (EV.localI 3 rfl (by rfl) rfl (by rfl) (EA.nil ?_) (by kernel_rfl))) (by kernel_rfl))
  refine OF.ct ok ((after_ct (n := 198) (by omega)).mono (Nat.le_refl _) ?_)
  rintro a G' ⟨rfl, rfl⟩
  rw [afterO_av]
  refine XS.cons (X1.iff (BT.cmp ?_))
  refine EV.callN 466 (by kernel_rfl) (by kernel_rfl) (by kernel_rfl) ?_
  refine EA.cons (EV.localI 1 rfl (by rfl) rfl (by rfl) (EA.nil ?_) (by kernel_rfl))
  refine OF.ct ok ((fields_c (n := 75) _).mono (Nat.le_refl _) ?_)
  rintro a G' ⟨rfl, rfl⟩
  refine EV.localI 0 rfl (by rfl) rfl (by rfl) ?_ (by kernel_rfl)
  refine OC.ne ok (lk_ok _) (lk_ok _) ⟨_, rfl, fun hb => ?_, fun _ => ?_⟩
  · rw [lk_refl] at hb; cases hb
  repeat refine XS.nil ?_
  refine XS.cons ?_
  leaf_len
  refine EV.callN 431 (by kernel_rfl) (by kernel_rfl) (by kernel_rfl) ?_
  refine EA.cons (EV.cellI 1 rfl (by rfl) rfl (by rfl) (EA.cons (EV.binop (EV.callB "len" (by kernel_rfl) (by kernel_rfl) rfl ?_))) (by kernel_rfl))
  refine EA.cons (EV.localI 4 rfl (by rfl) rfl (by rfl) (EA.nil ?_) (by kernel_rfl))
  refine OF.lenL (by rw [List.length_map]; omega) (EV.int (OB.add (EA.nil ?_)))
  rw [List.length_map]
  refine OF.ct ok ((take_c (n := 199) (X.dok xs) hp (by omega)).mono (Nat.le_refl _) ?_)
  rintro a G' ⟨rfl, rfl⟩
  rw [show ((dv p).fmod ((ps.length : Int) + 1)) = ((foldK ps p : Nat) : Int) from (pn_eq (p := p) (m := ps.length + 1) (by omega)).symm]
  generalize foldK ps p = k
  generalize dn p = p1 at *
  refine XS.cons ?_
  leaf_len
  have hk1 : (ps.take k).length ≤ 9 := by rw [List.length_take]; omega
  have hk2 : (ps.drop k).length ≤ 9 := by rw [List.length_drop]; omega
  refine EV.meth "str" "str.join" rfl rfl rfl PySem.F.plainAttrs_str PySem.F.slot_str_join PySem.F.type_str_join ?_
  refine EV.str ?_
  refine ⟨fun v s x hv => (by obtain ⟨tk, rfl⟩ := hv; exact ⟨typeIs_str _ _ _, fun p e => by cases e⟩), CW.of rfl ?_⟩
  refine EA.cons ?_
  refine EV.comp (cl := []) (mci := []) ⟨by intro _; rfl, rfl, by decide, rfl, by decide +kernel, rfl, by intro _ _; rfl, (by intro x a e; cases e), (by intro p hp; cases hp)⟩ ok.a.handled (fun i outs G2 => G2 = GD d l p1 (WG wr dx lid od xs) ∧ outs = ((ps.take k).take i).map fun x => .str x.text) ?_
  refine EV.sliceLN ?_
  refine EV.localI 5 rfl (by rfl) rfl (by rfl) ?_ (by kernel_rfl)
  refine EV.localI 0 rfl (by rfl) rfl (by rfl) ?_ (by kernel_rfl)
  refine ⟨_, _, rfl, rfl, by omega, by rw [List.length_map]; unfold sizeLine; omega, ?_⟩
  rw [Int.toNat_natCast, ← List.map_take]
  refine ⟨_, rfl, by simp; unfold sizeLine; omega, ⟨rfl, rfl⟩, ?_, ?_⟩
  · intro C acc I i a outs G2 ml hia hinv okc
    obtain ⟨rfl, rfl⟩ := hinv
    obtain ⟨x, hx, rfl⟩ : ∃ x, (ps.take k)[i]? = some x ∧ x.av = a := Option.map_eq_some_iff.mp (by rw [List.getElem?_map] at hia; exact hia)
    refine IFs.nil ⟨fun _ => ?_, fun h => (by cases h)⟩
    refine EV.sub (EV.localI 0 rfl (by rfl) rfl (by kernel_rfl) (EV.int ?_) (by kernel_rfl))
    refine OS.tup (by decide) (by decide) rfl rfl ⟨rfl, ?_⟩
    rw [List.take_add_one, hx]
    simp
  intro outs G2 hinv
  obtain ⟨rfl, rfl⟩ := hinv
  rw [List.length_map, List.take_length]
  refine EA.nil ?_
  rw [show ((ps.take k).map fun x => AV.str x.text) = ((ps.take k).map Pc.text).map .str by rw [List.map_map]; rfl]
  refine OF.join (join_ok (by rw [List.length_map]; omega) (by
    intro y hy
    obtain ⟨x, hx, rfl⟩ := List.mem_map.mp hy
    exact Pc.len (hpo x (by first | exact hx | exact List.mem_of_mem_take hx | exact List.mem_of_mem_drop hx)))) ?_
  refine XS.cons ?_
  leaf_len
  refine EV.meth "str" "str.join" rfl rfl rfl PySem.F.plainAttrs_str PySem.F.slot_str_join PySem.F.type_str_join ?_
  refine EV.str ?_
  refine ⟨fun v s x hv => (by obtain ⟨tk, rfl⟩ := hv; exact ⟨typeIs_str _ _ _, fun p e => by cases e⟩), CW.of rfl ?_⟩
  refine EA.cons ?_
  refine EV.comp (cl := []) (mci := []) ⟨by intro _; rfl, rfl, by decide, rfl, by decide +kernel, rfl, by intro _ _; rfl, (by intro x a e; cases e), (by intro p hp; cases hp)⟩ ok.a.handled (fun i outs G2 => G2 = GD d l p1 (WG wr dx lid od xs) ∧ outs = ((ps.drop k).take i).map fun x => .str x.text) ?_
  refine EV.sliceLS ?_
  refine EV.localI 6 rfl (by rfl) rfl (by rfl) ?_ (by kernel_rfl)
  refine EV.localI 1 rfl (by rfl) rfl (by rfl) ?_ (by kernel_rfl)
  refine ⟨_, _, rfl, rfl, by omega, by rw [List.length_map]; unfold sizeLine; omega, ?_⟩
  rw [Int.toNat_natCast, ← List.map_drop]
  refine ⟨_, rfl, by simp; unfold sizeLine; omega, ⟨rfl, rfl⟩, ?_, ?_⟩
  · intro C acc I i a outs G2 ml hia hinv okc
    obtain ⟨rfl, rfl⟩ := hinv
    obtain ⟨x, hx, rfl⟩ : ∃ x, (ps.drop k)[i]? = some x ∧ x.av = a := Option.map_eq_some_iff.mp (by rw [List.getElem?_map] at hia; exact hia)
    refine IFs.nil ⟨fun _ => ?_, fun h => (by cases h)⟩
    refine EV.sub (EV.localI 0 rfl (by rfl) rfl (by kernel_rfl) (EV.int ?_) (by kernel_rfl))
    refine OS.tup (by decide) (by decide) rfl rfl ⟨rfl, ?_⟩
    rw [List.take_add_one, hx]
    simp
  intro outs G2 hinv
  obtain ⟨rfl, rfl⟩ := hinv
  rw [List.length_map, List.take_length]
  refine EA.nil ?_
  rw [show ((ps.drop k).map fun x => AV.str x.text) = ((ps.drop k).map Pc.text).map .str by rw [List.map_map]; rfl]
  refine OF.join (join_ok (by rw [List.length_map]; omega) (by
    intro y hy
    obtain ⟨x, hx, rfl⟩ := List.mem_map.mp hy
    exact Pc.len (hpo x (by first | exact hx | exact List.mem_of_mem_take hx | exact List.mem_of_mem_drop hx)))) ?_
  refine XS.cons (X1.iff (BT.cmp ?_))
  refine EV.callN 466 (by kernel_rfl) (by kernel_rfl) (by kernel_rfl) ?_
  refine EA.cons ?_
  refine EV.wmeth X _ (by rfl) (f_track w) (t_track w) X.wf.s1 rfl (by kernel_rfl) rfl ?_
  refine EA.cons (EV.localI 0 rfl (by rfl) rfl (by rfl) (EA.cons ?_) (by kernel_rfl))
  refine EV.wmeth X _ (by rfl) (f_track w) (t_track w) X.wf.s1 rfl (by kernel_rfl) rfl ?_
  refine EA.cons (EV.localI 1 rfl (by rfl) rfl (by rfl) (EA.cons (EV.localI 8 rfl (by rfl) rfl (by rfl) (EA.nil ?_) (by kernel_rfl))) (by kernel_rfl))
  refine OF.ct ok ((track_c (n := 70) (T (ps.take k) (fun x hx => hpo x (List.mem_of_mem_take hx)) hk1)).mono (Nat.le_refl _) ?_)
  rintro a G' ⟨rfl, rfl⟩
  refine EA.nil ?_
  refine OF.ct ok ((track_c (n := 70) (T (ps.drop k) (fun x hx => hpo x (List.mem_of_mem_drop hx)) hk2)).mono (Nat.le_refl _) ?_)
  rintro a G' ⟨rfl, rfl⟩
  refine EA.nil ?_
  refine OF.ct ok ((fields_c (n := 75) _).mono (Nat.le_refl _) ?_)
  rintro a G' ⟨rfl, rfl⟩
  refine EV.localI 3 rfl (by rfl) rfl (by rfl) ?_ (by kernel_rfl)
  rw [afterO_split]
  refine OC.ne ok (lk_ok _) (lk_ok _) ⟨_, rfl, fun hb => ?_, fun _ => ?_⟩
  · rw [lk_refl] at hb; cases hb
  repeat refine XS.nil ?_
  refine XS.norm h (norm_of rfl fun q hq => ?_)
  simp only [lm0, List.mem_cons, List.not_mem_nil, or_false] at hq
  rcases hq with rfl | rfl | rfl | rfl | rfl <;> rfl
end Mine
end

-- part W66
section
open PySem PySem.W PyProof.Rows PySem.SeqAt
set_option Elab.async false
set_option linter.unusedVariables false
set_option maxRecDepth 100000
set_option pp.maxSteps 300
set_option pp.deepTerms false
namespace Mine
local macro_rules | `(tactic| got_up) => `(tactic| first
  | refine EV.localI 0 rfl (by rfl) rfl (by kernel_rfl) ?_ (by kernel_rfl)
  | refine EV.localI 1 rfl (by rfl) rfl (by kernel_rfl) ?_ (by kernel_rfl)
  | refine EV.localI 2 rfl (by rfl) rfl (by kernel_rfl) ?_ (by kernel_rfl)
  | refine EV.localI 3 rfl (by rfl) rfl (by kernel_rfl) ?_ (by kernel_rfl)
  | refine EV.localI 4 rfl (by rfl) rfl (by kernel_rfl) ?_ (by kernel_rfl)
  | refine EV.localI 5 rfl (by rfl) rfl (by kernel_rfl) ?_ (by kernel_rfl)
  | refine EV.localI 6 rfl (by rfl) rfl (by kernel_rfl) ?_ (by kernel_rfl))
local macro_rules | `(tactic| leaf_len) => `(tactic| first
  | refine EV.str ?_ | refine EV.int ?_ | refine EV.none ?_ | refine EV.bool ?_
  | refine EV.binop ?_ | refine EV.sub ?_ | refine EV.cmp ?_ | refine EV.ifexp ?_ | refine EV.tuple ?_ | refine EV.list ?_
  | refine EA.cons ?_ | refine EA.nil ?_
  | got_up
  | refine OS.tup (by decide) (by decide) rfl rfl ?_
  | refine OB.add_str ?_ ?_
  | refine OB.add ?_
  | refine OC.lt ?_ | refine OC.le ?_ | refine OC.gt ?_ | refine OC.ge ?_
  | refine XS.cons ?_ | refine X1.ret ?_ | refine X1.iff ?_ | refine XS.nil ?_
  | refine X1.assign (cxOf_env rfl rfl) (by kernel_rfl) rfl ?_
  | refine BT.cmp ?_)
local macro_rules | `(tactic| leaf_len) => `(tactic| refine X1.assign (EnvOk.plus (by assumption)) (by rfl) rfl ?_)
theorem empty_l (d : Str) : Str.empty ++ d = d := by
  have e : (Str.empty ++ d).cps = d.cps := by
    rw [Str.cps_append]
    simp [Str.empty]
  cases d; cases h : (Str.empty ++ _ : Str); simp_all
theorem failed_of {m : Sre.M} (h : isFailed m.outcome = true) : m.outcome = some .failed := by
  cases q : m.outcome with
  | none => rw [q] at h; cases h
  | some o => cases o <;> first | rfl | (rw [q] at h; cases h)
theorem no_of {x : Str} (h : x ∈ [Pc.text .ab, Pc.text .sp, Pc.text .sgr, Pc.text .title, oTxt ⟨Str.ofString "u", Str.ofString "", Str.ofString "\u0007"⟩ ++ Str.ofString "x"]) : (runFull x).outcome = some .failed :=
  failed_of (List.all_eq_true.mp no_rest x h)
theorem yes_pc {x : Pc} (h : x.ok) {k : Lk} (hc : x.cmd = some k) : FullYes x.text k.u k.p k.t 400 (runFull x.text) := by
  cases x with
  | opn k' =>
    cases hc
    obtain ⟨h1, h2, h3⟩ := h
    have := List.all_eq_true.mp (List.all_eq_true.mp (List.all_eq_true.mp yes_opens k.u h1) k.p h2) k.t h3
    exact yes_of this
  | cls e =>
    cases hc
    exact yes_of (List.all_eq_true.mp yes_closes e h)
  | bad => cases hc; exact yes_of yes_bad
  | ab => cases hc
  | sp => cases hc
  | sgr => cases hc
  | title => cases hc
theorem no_pc {x : Pc} (hc : x.cmd = none) : (runFull x.text).outcome = some .failed := by
  cases x with
  | ab => exact no_of (by simp)
  | sp => exact no_of (by simp)
  | sgr => exact no_of (by simp)
  | title => exact no_of (by simp)
  | _ => cases hc
theorem Pc.size {x : Pc} (h : x.ok) : x.text.cps.size ≤ 4000000 := Nat.le_trans (Pc.len h) (by decide)
theorem parse_pc {w : World} {n : Nat} {D : List Addr} {G : Heap → Prop} {x : Pc} (h : x.ok) : CT PG w (KH w) (n + 125) D (.ref 123) [.raw (.ref 204), .str x.text] G (fun a G' => a = lnk x.cmd ∧ G' = G) := by
  cases hc : x.cmd with
  | none => exact parse_no (Pc.size h) rfl (by decide) (no_pc hc)
  | some k => exact parse_yes (Pc.size h) (yes_pc h hc)
theorem mk_open {x : Pc} (h : x.ok) {k : Lk} (hc : x.cmd = some k) : cOpen k.u k.p k.t = x.text := by
  cases x with
  | opn k' =>
    cases hc
    show Str.empty ++ Str.ofString "\u001b]8;" ++ k.p ++ Str.ofString ";" ++ k.u ++ k.t = ((Str.ofString "\u001b]8;" ++ k.p) ++ Str.ofString ";") ++ k.u ++ k.t
    rw [empty_l]
  | cls e =>
    cases hc
    have : (ENDS.all fun e => cOpen (Str.ofString "") (Str.ofString "") e == Pc.text (.cls e)) = true := by decide +kernel
    exact beq_iff_eq.mp (List.all_eq_true.mp this e h)
  | bad => cases hc; decide +kernel
  | ab => cases hc
  | sp => cases hc
  | sgr => cases hc
  | title => cases hc
theorem cmd_len {x : Pc} (h : x.ok) {k : Lk} (hc : x.cmd = some k) : k.u.length + k.p.length + k.t.length ≤ 1000 := by
  have e : ∀ y : Str, y ∈ ENDS → y.length ≤ 100 := fun y hy => tab_len (by decide +kernel) hy
  cases x with
  | opn k' =>
    cases hc
    have := tab_len (xs := URLS) (by decide +kernel) h.1
    have := tab_len (xs := PARAMS) (by decide +kernel) h.2.1
    have := e _ h.2.2
    omega
  | cls y =>
    cases hc
    have := e _ h
    have e1 : (Str.ofString "").length = 0 := by decide
    simp only [e1]
    omega
  | bad => cases hc; decide
  | ab => cases hc
  | sp => cases hc
  | sgr => cases hc
  | title => cases hc
theorem str_refl (x : Str) : eqT (.str x) (.str x) = true := beq_self_eq_true _

/-- statements 15 and 16 -/
theorem law_15 {w : World} {A : Around} {L : Addr} {own outer D : List Addr} {d l wr dx lid : Addr} {od : Obj} (X : LW w A L own outer D d l wr dx lid od) {G : Heap → Prop} {M : Nat} {ps : List Pc} {st : Option Lk}
    (hpo : ∀ x ∈ ps, x.ok) (hpl : ps.length ≤ 9)
    (h : XS (LC w A L own outer D) (lm0 M ps st) (lc0 wr d) G ((lawB w).drop 16) KFL) :
    XS (LC w A L own outer D) (lm0 M ps st) (lc0 wr d) G ((lawB w).drop 14) KFL := by
  have E := X.E
  refine XS.cons (X1.forS E X.ok.a.handled (by rfl) X.cV (by intro _; rfl) (by intro _ _; rfl)
    (fun i m mc G2 => G2 = G ∧ mc = lc0 wr d ∧ ∀ q ∈ lm0 M ps st, m.lookup q.1 = some q.2) ?_)
  refine EV.localI 2 rfl (by rfl) rfl (by rfl) ?_ (by kernel_rfl)
  refine ⟨_, rfl, by simp; omega, ⟨rfl, rfl, ?_⟩, fun i a m' mc' G' hia hinv I hI => ?_, fun m' mc' G' hinv => ?_⟩
  · intro q hq
    simp only [lm0, List.mem_cons, List.not_mem_nil, or_false] at hq
    rcases hq with rfl | rfl | rfl | rfl | rfl <;> rfl
  · obtain ⟨rfl, rfl, hm⟩ := hinv
    obtain ⟨x, hx, rfl⟩ : ∃ x, ps[i]? = some x ∧ x.av = a := Option.map_eq_some_iff.mp (by rw [List.getElem?_map] at hia; exact hia)
    have hxo := hpo x (List.mem_of_getElem? hx)
    have ok := X.ok.plus (I := I) (fun h => hI (List.mem_append_right _ h))
    have keep : ∀ r : AV, ∀ q ∈ lm0 M ps st, ((Str.ofString "read", r) :: (Str.ofString "piece", x.av) :: m').lookup q.1 = some q.2 := fun r q hq => by
      have h0 := hm q hq
      simp only [lm0, List.mem_cons, List.not_mem_nil, or_false] at hq
      rcases hq with rfl | rfl | rfl | rfl | rfl <;> exact (lk_skip (by rfl)).trans ((lk_skip (by rfl)).trans h0)
    refine XS.cons ?_
    leaf_len
    refine EV.classMK 204 123 125 _ ok rfl (okParse w) rfl ?_
    refine EV.top (.ref 204) (by kernel_rfl) (by kernel_rfl) ⟨rfl, ?_⟩
    refine EA.cons (EV.sub (EV.localI 0 rfl (by rfl) rfl (by rfl) (EV.int ?_) (by kernel_rfl)))
    refine OS.tup (by decide) (by decide) rfl rfl (EA.nil ?_)
    refine (parse_pc (n := 75) hxo).mono (Nat.le_refl _) ?_
    rintro a G' ⟨rfl, rfl⟩
    refine XS.cons (X1.iff (BT.cmp ?_))
    refine EV.callN 466 (by kernel_rfl) (by kernel_rfl) (by kernel_rfl) ?_
    refine EA.cons (EV.localI 0 rfl (by rfl) rfl (by rfl) (EA.nil ?_) (by kernel_rfl))
    refine OF.ct ok ((fields_c (n := 75) _).mono (Nat.le_refl _) ?_)
    rintro a G' ⟨rfl, rfl⟩
    refine EV.sub (EV.localI 1 rfl (by rfl) rfl (by rfl) (EV.int ?_) (by kernel_rfl))
    refine OS.tup (by decide) (by decide) rfl rfl ?_
    refine OC.ne ok (lk_ok _) (lk_ok _) ⟨_, rfl, fun hb => ?_, fun _ => ?_⟩
    · rw [lk_refl] at hb; cases hb
    repeat refine XS.nil ?_
    refine XS.cons (X1.iff (BT.and (BT.cmp ?_)))
    refine EV.localI 0 rfl (by rfl) rfl (by rfl) (EV.none ?_) (by kernel_rfl)
    cases hc : x.cmd with
    | none =>
      refine OC.isNotNone rfl ⟨_, rfl, fun h => (by cases h), fun _ => ?_⟩
      refine ⟨fun h => (by cases h), fun _ => ?_⟩
      repeat refine XS.nil ?_
      exact ⟨rfl, rfl, keep _⟩
    | some k =>
      refine OC.isNotNone rfl ⟨_, rfl, fun _ => ?_, fun h => (by cases h)⟩
      refine BT.and (BT.or (BT.cmp ?_))
      refine EV.methX (.ref 133) true _ rfl (by kernel_rfl) rfl ?_
      refine EV.localI 0 rfl (by rfl) rfl (by rfl) ⟨fun v s Q y hv hq => link_meth (w := w) y.gd.k hv (find_mkopen w) (fn_mkopen w) (hq s (.refl _ _)), EA.nil ?_⟩ (by kernel_rfl)
      refine OF.ct ok ((mkopen_ct (n := 75) (cmd_len hxo hc)).mono (Nat.le_refl _) ?_)
      rintro a G' ⟨rfl, rfl⟩
      refine EV.sub (EV.localI 1 rfl (by rfl) rfl (by rfl) (EV.int ?_) (by kernel_rfl))
      refine OS.tup (by decide) (by decide) rfl rfl ?_
      rw [mk_open hxo hc]
      refine OC.ne ok rfl rfl ⟨_, rfl, fun _ => ?_, fun hb => ?_⟩
      · refine BT.or (BT.cmp ?_)
        refine EV.methX (.ref 140) true _ rfl (by kernel_rfl) rfl ?_
        refine EV.localI 0 rfl (by rfl) rfl (by rfl) ⟨fun v s Q y hv hq => link_meth (w := w) y.gd.k hv (find_mkclose w) (fn_mkclose w) (hq s (.refl _ _)), EA.nil ?_⟩ (by kernel_rfl)
        refine OF.ct ok ((mkclose_ct (n := 75) (cmd_len hxo hc)).mono (Nat.le_refl _) ?_)
        rintro a G' ⟨rfl, rfl⟩
        refine EV.binop (EV.str ?_)
        refine EV.sub (EV.sub (EV.localI 1 rfl (by rfl) rfl (by rfl) (EV.int ?_) (by kernel_rfl)))
        refine OS.tup (by decide) (by decide) rfl rfl ?_
        rw [hc]
        refine EV.int (OS.tup (by decide) (by decide) rfl rfl ?_)
        have e1 : (Str.ofString "\u001b]8;;").length = 5 := by decide
        have hlen := cmd_len hxo hc
        refine OB.add_str (by
          show (Str.ofString "\u001b]8;;" ++ k.t).length ≤ _
          simp only [Str.length_append, e1]; unfold sizeLine; omega) ?_
        rw [show cClose k.t = Str.ofString "\u001b]8;;" ++ k.t by unfold cClose; rw [empty_l]]
        refine OC.ne ok rfl rfl ⟨_, rfl, fun _ => ?_, fun hb => ?_⟩
        · refine BT.orNil ?_
          refine ⟨fun h => (by cases h), fun _ => ?_⟩
          refine ⟨fun h => (by cases h), fun _ => ?_⟩
          repeat refine XS.nil ?_
          exact ⟨rfl, rfl, keep _⟩
        · have hb : (!eqT (.str (Str.ofString "\u001b]8;;" ++ k.t)) (.str (Str.ofString "\u001b]8;;" ++ k.t))) = true := hb
          rw [str_refl] at hb; cases hb
      · rw [str_refl] at hb; cases hb
  · obtain ⟨rfl, rfl, hm⟩ := hinv
    refine XS.norm (m0 := lm0 M ps st) ?_ (norm_of rfl hm)
    have ok := X.ok
    refine XS.cons (X1.iff (BT.cmp ?_))
    refine EV.classMK 204 123 125 _ ok rfl (okParse w) rfl ?_
    refine EV.top (.ref 204) (by kernel_rfl) (by kernel_rfl) ⟨rfl, ?_⟩
    refine EA.cons (EV.binop ?_)
    refine EV.callN 445 (by kernel_rfl) (by kernel_rfl) (by kernel_rfl) ?_
    refine EA.cons (EV.tuple (EA.cons (EV.str (EA.cons (EV.str (EA.cons (EV.str (EA.nil ⟨by show 3 ≤ sizeLine; decide, EA.nil ?_⟩))))))))
    refine OF.ct ok ((opening_ct w 199 D _ _ _ _ (by decide)).mono (Nat.le_refl _) ?_)
    rintro a G3 ⟨rfl, rfl⟩
    refine EV.str (OB.add_str (by decide) (EA.nil ?_))
    refine (parse_no (n := 75) (by decide) rfl (by decide) (no_of (x := oTxt ⟨Str.ofString "u", Str.ofString "", Str.ofString "\u0007"⟩ ++ Str.ofString "x") (by simp))).mono (Nat.le_refl _) ?_
    rintro a G4 ⟨rfl, rfl⟩
    refine EV.none (OC.isNotNone rfl ⟨_, rfl, fun h => (by cases h), fun _ => ?_⟩)
    repeat refine XS.nil ?_
    exact h
end Mine
end

-- part W67
section
open PySem PySem.W PyProof.Rows PySem.SeqAt
set_option Elab.async false
set_option linter.unusedVariables false
set_option maxRecDepth 100000
set_option pp.maxSteps 300
set_option pp.deepTerms false
namespace Mine
local macro_rules | `(tactic| got_up) => `(tactic| first
  | refine EV.localI 0 rfl (by rfl) rfl (by kernel_rfl) ?_ (by kernel_rfl)
  | refine EV.localI 1 rfl (by rfl) rfl (by kernel_rfl) ?_ (by kernel_rfl)
  | refine EV.localI 2 rfl (by rfl) rfl (by kernel_rfl) ?_ (by kernel_rfl)
  | refine EV.localI 3 rfl (by rfl) rfl (by kernel_rfl) ?_ (by kernel_rfl)
  | refine EV.localI 4 rfl (by rfl) rfl (by kernel_rfl) ?_ (by kernel_rfl)
  | refine EV.localI 5 rfl (by rfl) rfl (by kernel_rfl) ?_ (by kernel_rfl)
  | refine EV.localI 6 rfl (by rfl) rfl (by kernel_rfl) ?_ (by kernel_rfl))
local macro_rules | `(tactic| leaf_len) => `(tactic| first
  | refine EV.str ?_ | refine EV.int ?_ | refine EV.none ?_ | refine EV.bool ?_
  | refine EV.binop ?_ | refine EV.sub ?_ | refine EV.cmp ?_ | refine EV.ifexp ?_ | refine EV.tuple ?_ | refine EV.list ?_
  | refine EA.cons ?_ | refine EA.nil ?_
  | got_up
  | refine OS.tup (by decide) (by decide) rfl rfl ?_
  | refine OB.add_str ?_ ?_
  | refine OB.add ?_
  | refine OC.lt ?_ | refine OC.le ?_ | refine OC.gt ?_ | refine OC.ge ?_
  | refine XS.cons ?_ | refine X1.ret ?_ | refine X1.iff ?_ | refine XS.nil ?_
  | refine X1.assign (cxOf_env rfl rfl) (by kernel_rfl) rfl ?_
  | refine BT.cmp ?_)
local macro_rules | `(tactic| leaf_len) => `(tactic| first | refine X1.assign (by assumption) (by rfl) rfl ?_ | refine X1.assign (EnvOk.plus (by assumption)) (by rfl) rfl ?_)
def Pc.isCls : Pc → Bool
  | .cls _ => true
  | _ => false
def fAV : Option (Nat × Nat) → AV
  | some (a, b) => .tup [.int (a : Int), .int (b : Int)]
  | none => .tup [.int (-1), .int (-1)]
abbrev FS := Nat × Option (Nat × Nat)
def stepF (place : Nat) (s : FS) (x : Pc) : FS := (s.1 + x.text.length, if x.isCls && decide (place ≤ s.1) && s.2.isNone then some (s.1, s.1 + x.text.length) else s.2)
def foundP (place : Nat) (ps : List Pc) : FS := ps.foldl (stepF place) (0, none)
theorem eff_cls (x : Pc) : eqT x.eff (.int 1) = x.isCls := by cases x <;> rfl
theorem fAV_ok (o : Option (Nat × Nat)) : (fAV o).ok = true := by
  cases o with
  | none => rfl
  | some p => rfl
theorem eqs2 (a b c d : Int) : eqT (.tup [.int a, .int b]) (.tup [.int c, .int d]) = (a == c && b == d) := by
  show eqs _ _ = _
  unfold eqs
  simp [List.range_succ, seq]
theorem fAV_none (o : Option (Nat × Nat)) : eqT (fAV o) (.tup [.int (-1), .int (-1)]) = o.isNone := by
  cases o with
  | none => rfl
  | some p =>
    obtain ⟨a, b⟩ := p
    show eqT (.tup [.int (a : Int), .int (b : Int)]) _ = false
    rw [eqs2]
    have : ((a : Int) == -1) = false := by simp
    rw [this, Bool.false_and]
theorem fAV_refl (o : Option (Nat × Nat)) : eqT (fAV o) (fAV o) = true := by
  cases o with
  | none => rfl
  | some p => obtain ⟨a, b⟩ := p; show eqT (.tup [.int (a : Int), .int (b : Int)]) _ = true; rw [fAV, eqs2]; simp

/-- statements 17 to 21 -/
theorem law_17 {w : World} {A : Around} {L : Addr} {own outer D : List Addr} {d l wr dx lid : Addr} {od : Obj} (X : LW w A L own outer D d l wr dx lid od) {p : DS} (hp : DSok p) {M : Nat} {ps : List Pc} {st : Option Lk} {xs : List Str}
    (hpo : ∀ x ∈ ps, x.ok) (hpl : ps.length ≤ 9) (hrow : (rowOf ps).length ≤ 100000) (FC : ∀ k, k ≤ (rowOf ps).length → closeAV (rowOf ps) k = fAV (foundP k ps).2)
    (h : XS (LC w A L own outer D) [(Str.ofString "names", .lst ((nms M).map .str))] (lc0 wr d) (GD d l (dn p) (WG wr dx lid od xs)) ((lawB w).drop 21) KFL) :
    XS (LC w A L own outer D) (lm0 M ps st) (lc0 wr d) (GD d l p (WG wr dx lid od xs)) ((lawB w).drop 16) KFL := by
  have E := X.E
  have ok := X.ok
  refine XS.cons ?_
  leaf_len
  refine EV.callN 431 (by kernel_rfl) (by kernel_rfl) (by kernel_rfl) ?_
  refine EA.cons (EV.cellI 1 rfl (by rfl) rfl (by rfl) (EA.cons (EV.binop (EV.callB "len" (by kernel_rfl) (by kernel_rfl) rfl ?_))) (by kernel_rfl))
  refine EA.cons (EV.localI 1 rfl (by rfl) rfl (by rfl) (EA.nil ?_) (by kernel_rfl))
  refine OF.lenS (by omega) (EV.int (OB.add (EA.nil ?_)))
  refine OF.ct ok ((take_c (n := 199) (X.dok xs) hp (by omega)).mono (Nat.le_refl _) ?_)
  rintro a G' ⟨rfl, rfl⟩
  have hk := pn_lt (p := p) (m := (rowOf ps).length + 1) (by omega)
  rw [show ((dv p).fmod (((rowOf ps).length : Int) + 1)) = ((pn p ((rowOf ps).length + 1) : Nat) : Int) from (pn_eq (p := p) (m := (rowOf ps).length + 1) (by omega)).symm]
  generalize pn p ((rowOf ps).length + 1) = k at hk
  generalize dn p = p1 at *
  refine XS.cons ?_
  leaf_len
  refine EV.int ?_
  refine XS.cons ?_
  leaf_len
  refine EV.tuple (EA.cons (EV.neg (EV.int ⟨_, rfl, EA.cons (EV.neg (EV.int ⟨_, rfl, EA.nil ⟨by show 2 ≤ sizeLine; decide, ?_⟩⟩))⟩)))
  refine XS.cons (X1.forS E ok.a.handled (by rfl) X.cV (by intro _; rfl) (by intro _ _; rfl)
    (fun i m mc G2 => G2 = GD d l p1 (WG wr dx lid od xs) ∧ mc = lc0 wr d ∧ (∀ q ∈ (Str.ofString "place", AV.int (k : Int)) :: lm0 M ps st, m.lookup q.1 = some q.2) ∧
      m.lookup (Str.ofString "found") = some (fAV ((ps.take i).foldl (stepF k) (0, none)).2) ∧ m.lookup (Str.ofString "at") = some (.int (((ps.take i).foldl (stepF k) (0, none)).1 : Int))) ?_)
  refine EV.localI 5 rfl (by rfl) rfl (by rfl) ?_ (by kernel_rfl)
  refine ⟨_, rfl, by simp; omega, ⟨rfl, rfl, ?_, by rfl, by rfl⟩, fun i a m' mc' G' hia hinv I hI => ?_, fun m' mc' G' hinv => ?_⟩
  · intro q hq
    simp only [lm0, List.mem_cons, List.not_mem_nil, or_false] at hq
    rcases hq with rfl | rfl | rfl | rfl | rfl | rfl <;> rfl
  · obtain ⟨rfl, rfl, hm, hf, ha⟩ := hinv
    obtain ⟨x, hx, rfl⟩ : ∃ x, ps[i]? = some x ∧ x.av = a := Option.map_eq_some_iff.mp (by rw [List.getElem?_map] at hia; exact hia)
    have hxo := hpo x (List.mem_of_getElem? hx)
    have hxl := Pc.len hxo
    have okp := ok.plus (I := I) (fun h => hI (List.mem_append_right _ h))
    have hstep : (ps.take (i + 1)).foldl (stepF k) (0, none) = stepF k ((ps.take i).foldl (stepF k) (0, none)) x := by
      rw [List.take_add_one, hx]; simp [List.foldl_append]
    generalize (ps.take i).foldl (stepF k) (0, none) = fs at *
    obtain ⟨at0, fo⟩ := fs
    have hpc := hm (Str.ofString "place", AV.int (k : Int)) (List.mem_cons_self ..)
    have no : (x.isCls && decide (k ≤ at0) && fo.isNone) = false → stepF k (at0, fo) x = (at0 + x.text.length, fo) := fun h => by unfold stepF; rw [h]; rfl
    refine XS.cons (X1.iff (BT.and (BT.cmp ?_)))
    refine EV.sub (EV.localI 0 rfl (by rfl) rfl (by rfl) (EV.int ?_) (by kernel_rfl))
    refine OS.tup (by decide) (by decide) rfl rfl (EV.int ?_)
    refine OC.eq okp x.eff_ok rfl ⟨_, rfl, fun h1 => ?_, fun h1 => ⟨fun h => (by cases h), fun _ => ?_⟩⟩
    · rw [eff_cls] at h1
      refine BT.and (BT.cmp ?_)
      refine EV.local rfl (by rfl) ((lk_skip (by rfl)).trans ha) ?_ (by kernel_rfl)
      refine EV.local rfl (by rfl) ((lk_skip (by rfl)).trans hpc) ?_ (by kernel_rfl)
      refine OC.ge ⟨_, rfl, fun h2 => ?_, fun h2 => ⟨fun h => (by cases h), fun _ => ?_⟩⟩
      · have h2' : decide (k ≤ at0) = true := by simp at h2 ⊢; omega
        refine BT.and (BT.cmp ?_)
        refine EV.local rfl (by rfl) ((lk_skip (by rfl)).trans hf) ?_ (by kernel_rfl)
        refine EV.tuple (EA.cons (EV.neg (EV.int ⟨_, rfl, EA.cons (EV.neg (EV.int ⟨_, rfl, EA.nil ⟨by show 2 ≤ sizeLine; decide, ?_⟩⟩))⟩)))
        refine OC.eq okp (fAV_ok _) rfl ⟨_, rfl, fun h3 => ?_, fun h3 => ⟨fun h => (by cases h), fun _ => ?_⟩⟩
        · have h3' : fo.isNone = true := (fAV_none fo).symm.trans h3
          have yes : stepF k (at0, fo) x = (at0 + x.text.length, some (at0, at0 + x.text.length)) := by unfold stepF; rw [if_pos (by rw [h1, h2', h3']; rfl)]
          refine BT.andNil ⟨fun _ => ?_, fun h => (by cases h)⟩
          refine XS.cons ?_
          leaf_len
          refine EV.tuple (EA.cons (EV.local rfl (by rfl) ((lk_skip (by rfl)).trans ha) (EA.cons (EV.binop ?_)) (by kernel_rfl)))
          refine EV.local rfl (by rfl) ((lk_skip (by rfl)).trans ha) ?_ (by kernel_rfl)
          refine EV.callB "len" (by kernel_rfl) (by kernel_rfl) rfl ?_
          refine EA.cons (EV.sub (EV.localI 0 rfl (by rfl) rfl (by rfl) (EV.int ?_) (by kernel_rfl)))
          refine OS.tup (by decide) (by decide) rfl rfl (EA.nil ?_)
          refine OF.lenS (by omega) (OB.add (EA.nil ⟨by show 2 ≤ sizeLine; decide, ?_⟩))
          repeat refine XS.nil ?_
          refine XS.cons ?_
          leaf_len
          refine EV.binop (EV.local rfl (by rfl) ((lk_skip (by rfl)).trans ((lk_skip (by rfl)).trans ha)) ?_ (by kernel_rfl))
          refine EV.callB "len" (by kernel_rfl) (by kernel_rfl) rfl ?_
          refine EA.cons (EV.sub (EV.localI 1 rfl (by rfl) rfl (by rfl) (EV.int ?_) (by kernel_rfl)))
          refine OS.tup (by decide) (by decide) rfl rfl (EA.nil ?_)
          refine OF.lenS (by omega) (OB.add ?_)
          repeat refine XS.nil ?_
          refine ⟨rfl, rfl, fun q hq => ?_, ?_, ?_⟩
          · have h0 := hm q hq
            simp only [lm0, List.mem_cons, List.not_mem_nil, or_false] at hq
            rcases hq with rfl | rfl | rfl | rfl | rfl | rfl <;> exact (lk_skip (by rfl)).trans ((lk_skip (by rfl)).trans ((lk_skip (by rfl)).trans h0))
          · rw [hstep, yes]
            exact (lk_skip (by rfl)).trans ((lk_here (by rfl)).trans (by push_cast; rfl))
          · rw [hstep, yes]
            exact (lk_here (by rfl)).trans (by push_cast; rfl)
        · have h3' : fo.isNone = false := (fAV_none fo).symm.trans h3
          have hst := no (by rw [h3']; simp)
          repeat refine XS.nil ?_
          refine XS.cons ?_
          leaf_len
          refine EV.binop (EV.local rfl (by rfl) ((lk_skip (by rfl)).trans ha) ?_ (by kernel_rfl))
          refine EV.callB "len" (by kernel_rfl) (by kernel_rfl) rfl ?_
          refine EA.cons (EV.sub (EV.localI 0 rfl (by rfl) rfl (by rfl) (EV.int ?_) (by kernel_rfl)))
          refine OS.tup (by decide) (by decide) rfl rfl (EA.nil ?_)
          refine OF.lenS (by omega) (OB.add ?_)
          repeat refine XS.nil ?_
          refine ⟨rfl, rfl, fun q hq => ?_, ?_, ?_⟩
          · have h0 := hm q hq
            simp only [lm0, List.mem_cons, List.not_mem_nil, or_false] at hq
            rcases hq with rfl | rfl | rfl | rfl | rfl | rfl <;> exact (lk_skip (by rfl)).trans ((lk_skip (by rfl)).trans h0)
          · rw [hstep, hst]
            exact (lk_skip (by rfl)).trans ((lk_skip (by rfl)).trans hf)
          · rw [hstep, hst]
            exact (lk_here (by rfl)).trans (by push_cast; rfl)
      · have h2' : decide (k ≤ at0) = false := by simp at h2 ⊢; omega
        have hst := no (by rw [h2']; simp)
        repeat refine XS.nil ?_
        refine XS.cons ?_
        leaf_len
        refine EV.binop (EV.local rfl (by rfl) ((lk_skip (by rfl)).trans ha) ?_ (by kernel_rfl))
        refine EV.callB "len" (by kernel_rfl) (by kernel_rfl) rfl ?_
        refine EA.cons (EV.sub (EV.localI 0 rfl (by rfl) rfl (by rfl) (EV.int ?_) (by kernel_rfl)))
        refine OS.tup (by decide) (by decide) rfl rfl (EA.nil ?_)
        refine OF.lenS (by omega) (OB.add ?_)
        repeat refine XS.nil ?_
        refine ⟨rfl, rfl, fun q hq => ?_, ?_, ?_⟩
        · have h0 := hm q hq
          simp only [lm0, List.mem_cons, List.not_mem_nil, or_false] at hq
          rcases hq with rfl | rfl | rfl | rfl | rfl | rfl <;> exact (lk_skip (by rfl)).trans ((lk_skip (by rfl)).trans h0)
        · rw [hstep, hst]
          exact (lk_skip (by rfl)).trans ((lk_skip (by rfl)).trans hf)
        · rw [hstep, hst]
          exact (lk_here (by rfl)).trans (by push_cast; rfl)
    · rw [eff_cls] at h1
      have hst := no (by rw [h1]; rfl)
      repeat refine XS.nil ?_
      refine XS.cons ?_
      leaf_len
      refine EV.binop (EV.local rfl (by rfl) ((lk_skip (by rfl)).trans ha) ?_ (by kernel_rfl))
      refine EV.callB "len" (by kernel_rfl) (by kernel_rfl) rfl ?_
      refine EA.cons (EV.sub (EV.localI 0 rfl (by rfl) rfl (by rfl) (EV.int ?_) (by kernel_rfl)))
      refine OS.tup (by decide) (by decide) rfl rfl (EA.nil ?_)
      refine OF.lenS (by omega) (OB.add ?_)
      repeat refine XS.nil ?_
      refine ⟨rfl, rfl, fun q hq => ?_, ?_, ?_⟩
      · have h0 := hm q hq
        simp only [lm0, List.mem_cons, List.not_mem_nil, or_false] at hq
        rcases hq with rfl | rfl | rfl | rfl | rfl | rfl <;> exact (lk_skip (by rfl)).trans ((lk_skip (by rfl)).trans h0)
      · rw [hstep, hst]
        exact (lk_skip (by rfl)).trans ((lk_skip (by rfl)).trans hf)
      · rw [hstep, hst]
        exact (lk_here (by rfl)).trans (by push_cast; rfl)
  · obtain ⟨rfl, rfl, hm, hf, ha⟩ := hinv
    rw [List.length_map, List.take_length] at hf
    refine XS.cons (X1.iff (BT.cmp ?_))
    refine EV.classMK 311 222 224 _ ok rfl (okFind w) rfl ?_
    refine EV.top (.ref 311) (by kernel_rfl) (by kernel_rfl) ⟨rfl, ?_⟩
    refine EA.cons (EV.local rfl (by rfl) (hm (Str.ofString "row", .str (rowOf ps)) (by simp [lm0])) ?_ (by kernel_rfl))
    refine EA.cons (EV.local rfl (by rfl) (hm (Str.ofString "place", .int (k : Int)) (List.mem_cons_self ..)) (EA.nil ?_) (by kernel_rfl))
    refine (findclose_ct (n := 197) (by omega) (by show (k : Int) ≤ ((rowOf ps).length : Int); omega) (by show (rowOf ps).length ≤ _; omega)).mono (Nat.le_refl _) ?_
    rintro a G3 ⟨rfl, rfl⟩
    rw [Int.toNat_natCast, FC k (by omega)]
    refine EV.local rfl (by rfl) hf ?_ (by kernel_rfl)
    refine OC.ne ok (fAV_ok _) (fAV_ok _) ⟨_, rfl, fun hb => ?_, fun _ => ?_⟩
    · have hb : (!eqT (fAV (foundP k ps).2) (fAV (foundP k ps).2)) = true := hb
      rw [fAV_refl] at hb; cases hb
    repeat refine XS.nil ?_
    exact XS.norm h (norm_of rfl fun q hq => by
      rw [List.mem_singleton.mp hq]
      exact hm _ (by simp [lm0]))
end Mine
end

-- part W68
section
open PySem PySem.W PyProof.Rows PySem.SeqAt
set_option Elab.async false
set_option linter.unusedVariables false
set_option maxRecDepth 100000
set_option pp.maxSteps 300
set_option pp.deepTerms false
namespace Mine
local macro_rules | `(tactic| got_up) => `(tactic| first
  | refine EV.localI 0 rfl (by rfl) rfl (by kernel_rfl) ?_ (by kernel_rfl)
  | refine EV.localI 1 rfl (by rfl) rfl (by kernel_rfl) ?_ (by kernel_rfl)
  | refine EV.localI 2 rfl (by rfl) rfl (by kernel_rfl) ?_ (by kernel_rfl)
  | refine EV.localI 3 rfl (by rfl) rfl (by kernel_rfl) ?_ (by kernel_rfl)
  | refine EV.localI 4 rfl (by rfl) rfl (by kernel_rfl) ?_ (by kernel_rfl)
  | refine EV.localI 5 rfl (by rfl) rfl (by kernel_rfl) ?_ (by kernel_rfl)
  | refine EV.localI 6 rfl (by rfl) rfl (by kernel_rfl) ?_ (by kernel_rfl))
local macro_rules | `(tactic| leaf_len) => `(tactic| first
  | refine EV.str ?_ | refine EV.int ?_ | refine EV.none ?_ | refine EV.bool ?_
  | refine EV.binop ?_ | refine EV.sub ?_ | refine EV.cmp ?_ | refine EV.ifexp ?_ | refine EV.tuple ?_ | refine EV.list ?_
  | refine EA.cons ?_ | refine EA.nil ?_
  | got_up
  | refine OS.tup (by decide) (by decide) rfl rfl ?_
  | refine OB.add_str ?_ ?_
  | refine OB.add ?_
  | refine OC.lt ?_ | refine OC.le ?_ | refine OC.gt ?_ | refine OC.ge ?_
  | refine XS.cons ?_ | refine X1.ret ?_ | refine X1.iff ?_ | refine XS.nil ?_
  | refine X1.assign (cxOf_env rfl rfl) (by kernel_rfl) rfl ?_
  | refine BT.cmp ?_)
local macro_rules | `(tactic| leaf_len) => `(tactic| first | refine X1.assign (by assumption) (by rfl) rfl ?_ | refine X1.assign (EnvOk.plus (by assumption)) (by rfl) rfl ?_)
def sB : Str := Str.ofString "b"
def stepL (i : Nat) (q : DS) : (Str × Str) × DS :=
  if (dv q).fmod 5 == 0 then ((if ((i : Int).fmod 2) != 0 then Str.ofString "a" else Str.ofString "中", sS), dn q)
  else if (dv q).fmod 5 == 1 then ((Str.ofString "\u001b[0m", sQ), dn q)
  else ((nth BLANKS ((dv (dn q)).fmod 3), sB), dn (dn q))
def lnP : Nat → DS → List (Str × Str) × DS
  | 0, p => ([], p)
  | i + 1, p => ((lnP i p).1 ++ [(stepL i (lnP i p).2).1], (stepL i (lnP i p).2).2)
theorem lnP_succ (i : Nat) (p : DS) : lnP (i + 1) p = ((lnP i p).1 ++ [(stepL i (lnP i p).2).1], (stepL i (lnP i p).2).2) := rfl
theorem stepL_ok {q : DS} (h : DSok q) (i : Nat) : DSok (stepL i q).2 := by
  unfold stepL
  split
  · exact dn_ok h
  · split
    · exact dn_ok h
    · exact dn_ok (dn_ok h)
theorem lnP_ok {p : DS} (h : DSok p) : ∀ i, DSok (lnP i p).2
  | 0 => h
  | i + 1 => stepL_ok (lnP_ok h i) i
theorem lnP_len (p : DS) : ∀ i, (lnP i p).1.length = i
  | 0 => rfl
  | i + 1 => by rw [lnP_succ]; simp [lnP_len p i]

abbrev G1d (d l : Addr) (q : DS) : Heap → Prop := GD d l q (fun _ => True)
theorem G1d.loc (d l : Addr) (q : DS) : Loc [d, l] (G1d d l q) := ⟨fun h h' k r => ⟨(DR.loc d l q.1 q.2).loc h h' k r.1, trivial⟩⟩
theorem dok0 {d l : Addr} (h : d ≠ l) : DOk [d, l] [] (fun _ => True) d l := ⟨h, by simp, by simp, (by intro f hf; cases hf), (by simp), (by simp), Loc.true⟩

/-- statements 22 and 23: the line -/
theorem law_22 {w : World} {A : Around} {L : Addr} {own outer D : List Addr} {d l wr dx lid : Addr} {od : Obj} (X : LW w A L own outer D d l wr dx lid od) {p : DS} (hp : DSok p) {M : Nat} {xs : List Str}
    (h : ∀ n q line, n ≤ 7 → line = (lnP n (dn p)).1 → DSok q → XS (LC w A L own outer D) [(Str.ofString "line", .lst (line.map lnAV)), (Str.ofString "names", .lst ((nms M).map .str))] (lc0 wr d) (GD d l q (WG wr dx lid od xs)) ((lawB w).drop 23) KFL) :
    XS (LC w A L own outer D) [(Str.ofString "names", .lst ((nms M).map .str))] (lc0 wr d) (GD d l p (WG wr dx lid od xs)) ((lawB w).drop 21) KFL := by
  have E := X.E
  have ok := X.ok
  have h0 : ∀ b ∈ [d, l], b ∈ D := fun b hb => by
    rcases List.mem_cons.mp hb with rfl | hb
    · exact X.hd
    · rw [List.mem_singleton.mp hb]; exact X.hl
  have nN : ∀ b ∈ [wr, dx, lid], b ∈ D ∧ b ∉ [d, l] := fun b hb => by
    refine ⟨?_, fun hm => ?_⟩
    · rcases List.mem_cons.mp hb with rfl | hb
      · exact X.hw
      · rcases List.mem_cons.mp hb with rfl | hb
        · exact X.hx
        · rw [List.mem_singleton.mp hb]; exact X.hi
    · rcases List.mem_cons.mp hm with rfl | hm
      · exact X.dW hb
      · rw [List.mem_singleton.mp hm] at hb; exact X.lW hb
  refine XS.fill ok E X.cD (by rfl) rfl [d, l] h0 (G1d d l p) (WG wr dx lid od xs) (fun h x => ⟨x.1, trivial⟩) (G1d.loc d l p) (fun h h2 g k h3 k3 => ?_) (fun r hr => ?_)
  · exact (WG.loc wr dx lid od xs).loc h h3 (fun b hb o e => k3 b o (ok.d b (nN b hb).1) (k b o (ok.d b (nN b hb).1) (nN b hb).2 e)) g.here.2
  have fV : ∀ b, b ∈ ((LC w A L own outer D).fr [d, l] r).V ↔ b = r ∨ b ∈ (LC w A L own outer D).V := fun b => Cx.fr_V h0
  have okf := CxOk.fr (D0 := [d, l]) (r := r) ok h0 hr
  have Ef : EnvOk ((LC w A L own outer D).fr [d, l] r) := EnvOk.fr E
  have hrd : r ∉ [d, l] := fun hm => hr (List.mem_append_right _ (h0 r hm))
  refine X1.forI Ef ok.a.handled (by rfl) (fun q hq => (fV _).mpr (.inr (X.cV q hq))) (by intro _; rfl) (by intro _ _; rfl)
    (fun I i m mc G2 => mc = lc0 wr d ∧ (∀ h, G2 h → G1d d l (lnP i (dn p)).2 h ∧ LsAt (((LC w A L own outer D).fr [d, l] r).plus I).V r ((lnP i (dn p)).1.map lnAV) h) ∧
      m.lookup (Str.ofString "line") = some (.raw (.ref r)) ∧ m.lookup (Str.ofString "names") = some (.lst ((nms M).map .str))) ?_
  refine EV.callT "range" (by kernel_rfl) (by kernel_rfl) rfl ?_
  refine EA.cons (EV.callN 431 (by kernel_rfl) (by kernel_rfl) (by kernel_rfl) ?_)
  refine EA.cons (EV.cellI 1 rfl (by rfl) rfl (by rfl) (EA.cons (EV.int (EA.nil ?_))) (by kernel_rfl))
  have hrO : r ∉ ((LC w A L own outer D).fr [d, l] r).O := okf.d r (List.mem_cons_self ..)
  refine OF.ctF okf [d, l] (fun b hb => List.mem_cons_of_mem _ hb) (G1d.loc d l p) (fun h h' k e => k r _ hrO hrd e) (take_c (n := 199) (dok0 X.dl) hp (by decide)) ?_
  rintro a G' ⟨rfl, rfl⟩
  have hn := pn_lt (p := p) (m := 8) (by decide)
  rw [show ((dv p).fmod 8 : Int) = ((pn p 8 : Nat) : Int) from (pn_eq (p := p) (m := 8) (by decide)).symm]
  generalize pn p 8 = n at hn
  refine EA.nil (OF.range1 ⟨_, rfl, by simp; omega, fun I hI => ⟨rfl, fun h x => ⟨x.1, [], 0, x.2, rfl⟩, by rfl, by rfl⟩, fun i a m' mc' G' I hia hinv hI => ?_, fun I m' mc' G' hI hinv => ?_⟩)
  · obtain ⟨rfl, hG, hln, hnm⟩ := hinv
    have ilt : i < n := by
      rcases Nat.lt_or_ge i n with h | h
      · exact h
      · simp [h] at hia
    have ha : a = .int (i : Int) := by simp [ilt] at hia; exact hia.symm
    subst ha
    have okb : CxOk (((LC w A L own outer D).fr [d, l] r).plus I) 200 := okf.plus (I := I) (fun h => hI (List.mem_append_right _ h))
    have hq := lnP_ok (dn_ok hp) i
    have hlen := lnP_len (dn p) i
    have hs := lnP_succ i (dn p)
    have z2 : 2 ≤ sizeLine := by decide
    generalize (lnP i (dn p)).2 = q at *
    generalize (lnP i (dn p)).1 = ln at *
    have hz : (ln.map lnAV).length ≤ sizeLine := by rw [List.length_map]; unfold sizeLine; omega
    refine XS.weak hG ?_
    have hrO2 : r ∉ (((LC w A L own outer D).fr [d, l] r).plus I).O := okb.d r (List.mem_cons_self ..)
    have hR : ∀ (its : List AV) (h h' : Heap), (∀ b o, b ∉ (((LC w A L own outer D).fr [d, l] r).plus I).O → b ∉ [d, l] → h.get? b = some o → h'.get? b = some o) → LsAt (((LC w A L own outer D).fr [d, l] r).plus I).V r its h → LsAt (((LC w A L own outer D).fr [d, l] r).plus I).V r its h' := by
      rintro its h h' k ⟨vs, nn, e, hv⟩
      refine ⟨vs, nn, k r _ hrO2 hrd e, VRs.keeps (fun b o hb e => ⟨k b o (fun hm => hb (List.mem_append_left _ hm)) (fun hm => hb (List.mem_append_right _ (List.mem_cons_of_mem _ hm))) e, hb⟩) _ _ hv⟩
    have fin : ∀ (pr : Str × Str) (q2 : DS), stepL i q = (pr, q2) → ∀ h, (G1d d l q2 h ∧ LsAt (((LC w A L own outer D).fr [d, l] r).plus I).V r (ln.map lnAV ++ [lnAV pr]) h) →
        G1d d l (lnP (i + 1) (dn p)).2 h ∧ LsAt (((LC w A L own outer D).fr [d, l] r).plus I).V r ((lnP (i + 1) (dn p)).1.map lnAV) h := fun pr q2 e h x => by
      rw [hs, e, List.map_append]
      exact x
    refine XS.cons ?_
    leaf_len
    refine EV.callN 431 (by kernel_rfl) (by kernel_rfl) (by kernel_rfl) ?_
    refine EA.cons (EV.cellI 1 rfl (by rfl) rfl (by rfl) (EA.cons (EV.int (EA.nil ?_))) (by kernel_rfl))
    refine OF.ctF okb [d, l] (fun b hb => List.mem_cons_of_mem _ hb) (G1d.loc d l q) (hR _) (take_c (n := 199) (dok0 X.dl) hq (by decide)) ?_
    rintro a G' ⟨rfl, rfl⟩
    refine XS.cons (X1.iff (BT.cmp ?_))
    refine EV.localI 0 rfl (by rfl) rfl (by rfl) (EV.int ?_) (by kernel_rfl)
    refine OC.eq okb rfl rfl ⟨_, rfl, fun h1 => ?_, fun h1 => ?_⟩
    · have h1' : ((dv q).fmod 5 == 0) = true := h1
      refine XS.cons (X1.expr rfl rfl ?_)
      refine EV.meth "list" "list.append" rfl rfl rfl PySem.F.plainAttrs_list PySem.F.slot_list_append PySem.F.type_list_append ?_
      refine EV.local rfl (by rfl) ((lk_skip (by rfl)).trans ((lk_skip (by rfl)).trans hln)) ?_ (by kernel_rfl)
      refine ⟨fun v s x hv => (by
        cases hv
        obtain ⟨_, vs, nn, e, _⟩ := x.g.here
        exact ⟨⟨_, e, rfl⟩, fun p e' => (by cases e'; exact ⟨_, e, rfl⟩)⟩), CW.of rfl ?_⟩
      refine EA.cons (EV.tuple (EA.cons (EV.ifexp (BT.plain (EV.binop ?_)))))
      refine EV.localI 1 rfl (by rfl) rfl (by rfl) (EV.int (OB.mod (by decide) ⟨_, rfl, (fun x e => by cases e), fun h2 => ?_, fun h2 => ?_⟩)) (by kernel_rfl)
      · refine EV.str (EA.cons (EV.str (EA.nil ⟨z2, EA.nil ?_⟩)))
        refine OF.appendL okb (List.mem_cons_self ..) (fun b => Iff.rfl) hz (G1d.loc d l _) (fun b hb => List.mem_cons_of_mem _ hb) hrd ?_
        repeat refine XS.nil ?_
        refine ⟨rfl, fin (Str.ofString "a", sS) (dn q) (by unfold stepL; rw [if_pos h1', if_pos h2]), (lk_skip (by rfl)).trans ((lk_skip (by rfl)).trans hln), (lk_skip (by rfl)).trans ((lk_skip (by rfl)).trans hnm)⟩
      · refine EV.str (EA.cons (EV.str (EA.nil ⟨z2, EA.nil ?_⟩)))
        refine OF.appendL okb (List.mem_cons_self ..) (fun b => Iff.rfl) hz (G1d.loc d l _) (fun b hb => List.mem_cons_of_mem _ hb) hrd ?_
        repeat refine XS.nil ?_
        refine ⟨rfl, fin (Str.ofString "中", sS) (dn q) (by unfold stepL; rw [if_pos h1', if_neg (by rw [h2]; decide)]), (lk_skip (by rfl)).trans ((lk_skip (by rfl)).trans hln), (lk_skip (by rfl)).trans ((lk_skip (by rfl)).trans hnm)⟩
    · have h1' : ((dv q).fmod 5 == 0) = false := h1
      refine XS.cons (X1.iff (BT.cmp ?_))
      refine EV.localI 0 rfl (by rfl) rfl (by rfl) (EV.int ?_) (by kernel_rfl)
      refine OC.eq okb rfl rfl ⟨_, rfl, fun h2 => ?_, fun h2 => ?_⟩
      · have h2' : ((dv q).fmod 5 == 1) = true := h2
        refine XS.cons (X1.expr rfl rfl ?_)
        refine EV.meth "list" "list.append" rfl rfl rfl PySem.F.plainAttrs_list PySem.F.slot_list_append PySem.F.type_list_append ?_
        refine EV.local rfl (by rfl) ((lk_skip (by rfl)).trans ((lk_skip (by rfl)).trans hln)) ?_ (by kernel_rfl)
        refine ⟨fun v s x hv => (by
          cases hv
          obtain ⟨_, vs, nn, e, _⟩ := x.g.here
          exact ⟨⟨_, e, rfl⟩, fun p e' => (by cases e'; exact ⟨_, e, rfl⟩)⟩), CW.of rfl ?_⟩
        refine EA.cons (EV.tuple (EA.cons (EV.str (EA.cons (EV.str (EA.nil ⟨z2, EA.nil ?_⟩))))))
        refine OF.appendL okb (List.mem_cons_self ..) (fun b => Iff.rfl) hz (G1d.loc d l _) (fun b hb => List.mem_cons_of_mem _ hb) hrd ?_
        repeat refine XS.nil ?_
        refine ⟨rfl, fin (Str.ofString "\u001b[0m", sQ) (dn q) (by unfold stepL; rw [if_neg (by rw [h1']; decide), if_pos h2']), (lk_skip (by rfl)).trans ((lk_skip (by rfl)).trans hln), (lk_skip (by rfl)).trans ((lk_skip (by rfl)).trans hnm)⟩
      · have h2' : ((dv q).fmod 5 == 1) = false := h2
        refine XS.cons (X1.expr rfl rfl ?_)
        refine EV.meth "list" "list.append" rfl rfl rfl PySem.F.plainAttrs_list PySem.F.slot_list_append PySem.F.type_list_append ?_
        refine EV.local rfl (by rfl) ((lk_skip (by rfl)).trans ((lk_skip (by rfl)).trans hln)) ?_ (by kernel_rfl)
        refine ⟨fun v s x hv => (by
          cases hv
          obtain ⟨_, vs, nn, e, _⟩ := x.g.here
          exact ⟨⟨_, e, rfl⟩, fun p e' => (by cases e'; exact ⟨_, e, rfl⟩)⟩), CW.of rfl ?_⟩
        refine EA.cons (EV.tuple (EA.cons (EV.sub ?_)))
        refine EV.strTup 419 BLANKS (by kernel_rfl) (by kernel_rfl) (by kernel_rfl) ?_
        refine EV.callN 431 (by kernel_rfl) (by kernel_rfl) (by kernel_rfl) ?_
        refine EA.cons (EV.cellI 1 rfl (by rfl) rfl (by rfl) (EA.cons (EV.int (EA.nil ?_))) (by kernel_rfl))
        refine OF.ctF okb [d, l] (fun b hb => List.mem_cons_of_mem _ hb) (G1d.loc d l _) (hR _) (take_c (n := 199) (dok0 X.dl) (dn_ok hq) (by decide)) ?_
        rintro a G' ⟨rfl, rfl⟩
        refine OS.strI (modb (by decide)).1 (modb (by decide)).2 (by decide) ?_
        refine EA.cons (EV.str (EA.nil ⟨z2, EA.nil ?_⟩))
        refine OF.appendL okb (List.mem_cons_self ..) (fun b => Iff.rfl) hz (G1d.loc d l _) (fun b hb => List.mem_cons_of_mem _ hb) hrd ?_
        repeat refine XS.nil ?_
        refine ⟨rfl, fin (nth BLANKS ((dv (dn q)).fmod 3), sB) (dn (dn q)) (by unfold stepL; rw [if_neg (by rw [h1']; decide), if_neg (by rw [h2']; decide)]), (lk_skip (by rfl)).trans ((lk_skip (by rfl)).trans hln), (lk_skip (by rfl)).trans ((lk_skip (by rfl)).trans hnm)⟩
  · obtain ⟨rfl, hG, hln, hnm⟩ := hinv
    rw [show ((List.range n).map fun (i : Nat) => AV.int (i : Int)).length = n by simp] at hG
    refine ⟨rfl, (lnP n (dn p)).1.map lnAV, [(Str.ofString "names", .lst ((nms M).map .str))], G1d d l (lnP n (dn p)).2, fun h x => ⟨(hG h x).1, ?_⟩, (norm_of rfl fun q hq => by rw [List.mem_singleton.mp hq]; exact hnm), hln, ?_⟩
    · obtain ⟨vs, k, e, hv⟩ := (hG h x).2
      exact ⟨vs, k, e, VRs.keeps (fun b o hb e => ⟨e, fun hm => hb (Cx.plus_V.mpr (.inr hm))⟩) _ _ hv⟩
    · exact XS.weak (fun h x => ⟨x.1.1, x.2⟩) (h n _ _ (by omega) rfl (lnP_ok (dn_ok hp) n))
end Mine
end

-- part W69
section
open PySem PySem.W PyProof.Rows PySem.SeqAt
set_option Elab.async false
set_option linter.unusedVariables false
set_option maxRecDepth 100000
set_option pp.maxSteps 300
set_option pp.deepTerms false
namespace Mine
local macro_rules | `(tactic| got_up) => `(tactic| first
  | refine EV.localI 0 rfl (by rfl) rfl (by kernel_rfl) ?_ (by kernel_rfl)
  | refine EV.localI 1 rfl (by rfl) rfl (by kernel_rfl) ?_ (by kernel_rfl)
  | refine EV.localI 2 rfl (by rfl) rfl (by kernel_rfl) ?_ (by kernel_rfl)
  | refine EV.localI 3 rfl (by rfl) rfl (by kernel_rfl) ?_ (by kernel_rfl)
  | refine EV.localI 4 rfl (by rfl) rfl (by kernel_rfl) ?_ (by kernel_rfl)
  | refine EV.localI 5 rfl (by rfl) rfl (by kernel_rfl) ?_ (by kernel_rfl)
  | refine EV.localI 6 rfl (by rfl) rfl (by kernel_rfl) ?_ (by kernel_rfl))
local macro_rules | `(tactic| leaf_len) => `(tactic| first
  | refine EV.str ?_ | refine EV.int ?_ | refine EV.none ?_ | refine EV.bool ?_
  | refine EV.binop ?_ | refine EV.sub ?_ | refine EV.cmp ?_ | refine EV.ifexp ?_ | refine EV.tuple ?_ | refine EV.list ?_
  | refine EA.cons ?_ | refine EA.nil ?_
  | got_up
  | refine OS.tup (by decide) (by decide) rfl rfl ?_
  | refine OB.add_str ?_ ?_
  | refine OB.add ?_
  | refine OC.lt ?_ | refine OC.le ?_ | refine OC.gt ?_ | refine OC.ge ?_
  | refine XS.cons ?_ | refine X1.ret ?_ | refine X1.iff ?_ | refine XS.nil ?_
  | refine X1.assign (cxOf_env rfl rfl) (by kernel_rfl) rfl ?_
  | refine BT.cmp ?_)
local macro_rules | `(tactic| leaf_len) => `(tactic| first | refine X1.assign (by assumption) (by rfl) rfl ?_ | refine X1.assign (EnvOk.plus (by assumption)) (by rfl) rfl ?_)
def lineText (line : List (Str × Str)) : Str := Txt.join (Str.ofString "") (line.map (·.1))
/-- what stripping the line tells -/
structure LineOk (line : List (Str × Str)) : Prop where
  sz : (lineText line).cps.size ≤ 4000000
  its : ∃ its : List (Str × Bool), Sg (lineText line) 0 0 (its.map itAV) ∧ its.length ≤ 1000000 ∧ (∀ it ∈ its, it.1.length ≤ 4000000) ∧ JoinOk (Str.ofString "") (resV (lastV its) its) = true ∧ rstripP its = bareP line
theorem stepL_len (i : Nat) (q : DS) : (stepL i q).1.1.length ≤ 1000 := by
  unfold stepL
  split
  · split
    · show (Str.ofString "a").length ≤ 1000; decide
    · show (Str.ofString "中").length ≤ 1000; decide
  · split
    · show (Str.ofString "\u001b[0m").length ≤ 1000; decide
    · exact Nat.le_trans (nth_len (xs := BLANKS) (m := 100) (by decide +kernel) _) (by decide)
theorem lnP_items (p : DS) : ∀ i, ∀ x ∈ (lnP i p).1, x.1.length ≤ 1000
  | 0, x, h => by cases h
  | i + 1, x, h => by
    rw [lnP_succ] at h
    rcases List.mem_append.mp h with h | h
    · exact lnP_items p i x h
    · rw [List.mem_singleton.mp h]; exact stepL_len _ _
theorem strs_refl (x y : Str) (h : x = y) : (!eqT (.str x) (.str y)) = false := by subst h; rw [str_refl]; rfl

/-- statements 24 to 26 -/
theorem law_24 {w : World} {A : Around} {L : Addr} {own outer D : List Addr} {d l wr dx lid : Addr} {od : Obj} (X : LW w A L own outer D d l wr dx lid od) {q : DS} {M : Nat} (hM : M ≤ 5) {line : List (Str × Str)} (hl : line.length ≤ 7) (hli : ∀ x ∈ line, x.1.length ≤ 1000) (T : LineOk line) :
    XS (LC w A L own outer D) [(Str.ofString "line", .lst (line.map lnAV)), (Str.ofString "names", .lst ((nms M).map .str))] (lc0 wr d) (GD d l q (WG wr dx lid od (nms M))) ((lawB w).drop 23) KFL := by
  have E := X.E
  have ok := X.ok
  obtain ⟨its, hsg, hn, hz, hj, hres⟩ := T.its
  refine XS.cons (X1.iff (BT.cmp ?_))
  refine EV.wmeth X _ (by rfl) (f_rstrip w) (t_rstrip w) X.wf.s2 rfl (by kernel_rfl) rfl ?_
  refine EA.cons ?_
  refine EV.meth "str" "str.join" rfl rfl rfl PySem.F.plainAttrs_str PySem.F.slot_str_join PySem.F.type_str_join ?_
  refine EV.str ?_
  refine ⟨fun v s x hv => (by obtain ⟨tk, rfl⟩ := hv; exact ⟨typeIs_str _ _ _, fun p e => by cases e⟩), CW.of rfl ?_⟩
  refine EA.cons ?_
  refine EV.comp (cl := []) (mci := []) ⟨by intro _; rfl, rfl, by decide, rfl, by decide +kernel, rfl, by intro _ _; rfl, (by intro x a e; cases e), (by intro p hp; cases hp)⟩ ok.a.handled (fun i outs G2 => G2 = GD d l q (WG wr dx lid od (nms M)) ∧ outs = (line.take i).map fun x => .str x.1) ?_
  refine EV.localI 0 rfl (by rfl) rfl (by rfl) ?_ (by kernel_rfl)
  refine ⟨_, rfl, by simp; unfold sizeLine; omega, ⟨rfl, rfl⟩, ?_, ?_⟩
  · intro C acc I i a outs G2 ml hia hinv okc
    obtain ⟨rfl, rfl⟩ := hinv
    obtain ⟨x, hx, rfl⟩ : ∃ x, line[i]? = some x ∧ lnAV x = a := Option.map_eq_some_iff.mp (by rw [List.getElem?_map] at hia; exact hia)
    refine IFs.nil ⟨fun _ => ?_, fun h => (by cases h)⟩
    refine EV.sub (EV.localI 0 rfl (by rfl) rfl (by kernel_rfl) (EV.int ?_) (by kernel_rfl))
    refine OS.tup (by decide) (by decide) rfl rfl ⟨rfl, ?_⟩
    rw [List.take_add_one, hx]
    simp
  intro outs G2 hinv
  obtain ⟨rfl, rfl⟩ := hinv
  rw [List.length_map, List.take_length]
  refine EA.nil ?_
  rw [show (line.map fun x => AV.str x.1) = (line.map (·.1)).map .str by rw [List.map_map]; rfl]
  refine OF.join (join_ok (by rw [List.length_map]; omega) (by
    intro y hy
    obtain ⟨x, hx, rfl⟩ := List.mem_map.mp hy
    exact hli x hx)) ?_
  refine EA.nil ?_
  refine OF.ct ok ((rstrip_ct (n := 170) T.sz hsg hn hz hj).mono (Nat.le_refl _) ?_)
  rintro a G' ⟨rfl, rfl⟩
  refine EV.callN 471 (by kernel_rfl) (by kernel_rfl) (by kernel_rfl) ?_
  refine EA.cons (EV.localI 0 rfl (by rfl) rfl (by rfl) (EA.nil ?_) (by kernel_rfl))
  have hLG : Loc ([d, l] ++ [wr, dx, lid]) (GD d l q (WG wr dx lid od (nms M))) := (DR.loc d l q.1 q.2).and (WG.loc wr dx lid od (nms M))
  have hFD : ∀ b ∈ [d, l] ++ [wr, dx, lid], b ∈ D := fun b hb => by
    rcases List.mem_append.mp hb with hb | hb
    · rcases List.mem_cons.mp hb with rfl | hb
      · exact X.hd
      · rw [List.mem_singleton.mp hb]; exact X.hl
    · exact (X.dok []).hF b hb
  refine OF.ct ok ((bare_ct (n := 180) hLG hFD (by omega) hli (join_ok (Nat.le_trans (List.length_filterMap_le _ _) (by rw [List.length_zipIdx]; omega)) (by
    intro y hy
    obtain ⟨⟨x, i⟩, hx, hp⟩ := List.mem_filterMap.mp hy
    unfold pickB at hp
    split at hp
    · cases hp
      have := List.mem_zipIdx hx
      exact hli x (by have h3 := this.2.2; rw [h3]; exact List.getElem_mem _)
    · cases hp))).mono (Nat.le_refl _) ?_)
  rintro a G' ⟨rfl, rfl⟩
  refine OC.ne ok rfl rfl ⟨_, rfl, fun hb => ?_, fun _ => ?_⟩
  · rw [strs_refl _ _ hres] at hb; cases hb
  repeat refine XS.nil ?_
  have hml : (nms M).length = M := by unfold nms; simp
  refine XS.weak (G2 := fun h => WG wr dx lid od (nms M) h ∧ DR d l q.1 q.2 h) (fun h x => ⟨x.2, x.1⟩) ?_
  refine XS.cons (X1.assignComp (cl := [(Str.ofString "wrapper", L + 2)]) (mci := [(Str.ofString "wrapper", .raw (.ref wr))]) ?ok1 ok.a.handled E X.cV (by rfl) rfl
    (fun i outs G2 => outs = ((nms M).take i).map .str ∧ G2 = fun h => WG wr dx lid od ((nms M).drop i) h ∧ DR d l q.1 q.2 h) ?_)
  case ok1 =>
    refine ⟨by intro _; rfl, rfl, by decide, rfl, by decide +kernel, rfl, by intro _ _; rfl, ?_, ?_⟩
    · intro x a e
      have := mem_of_lookup e
      have := List.mem_singleton.mp this
      cases this
      exact ⟨rfl, rfl⟩
    · intro p hp
      rw [List.mem_singleton.mp hp]
      exact X.cV (Str.ofString "wrapper", L + 2) (by simp)
  refine EV.localI 1 rfl (by rfl) rfl (by rfl) ?_ (by kernel_rfl)
  refine ⟨_, rfl, by rw [List.length_map, hml]; unfold sizeLine; omega, ⟨rfl, rfl⟩, ?_, ?_⟩
  · intro C acc I i a outs G2 ml hia hinv okc
    obtain ⟨rfl, rfl⟩ := hinv
    have ilt : i < (nms M).length := by
      rcases Nat.lt_or_ge i (nms M).length with h | h
      · exact h
      · simp [h] at hia
    refine IFs.nil ⟨fun _ => ?_, fun h => (by cases h)⟩
    rw [List.drop_eq_getElem_cons ilt]
    refine EV.methX (.ref 338) true _ rfl (by kernel_rfl) rfl ?_
    refine EV.cellI 0 rfl (by rfl) rfl (by kernel_rfl) ⟨fun v s Q x hv hq => ?_, EA.nil ?_⟩ (by kernel_rfl)
    · cases hv
      obtain ⟨⟨g1, g2, _⟩, _⟩ := x.g.here
      have I : InstAt s.heap wr (wrObj dx) 411 (some od) := ⟨g1, rfl, rfl, g2⟩
      exact method_fn x.gd.k I (ga411 w) (gt411 w) (f_next w) (t_next w) X.wf.s3 (hq s (.refl _ _))
    refine OF.ct (okc _ ok) ((nextid_ct (n := 190) (F := [d, l]) X.wf X.hw X.hx X.hi X.wl X.xl (fun b hb => ?_) (fun hm => ?_) (DR.loc d l q.1 q.2) (by rw [List.length_drop]; omega)).mono (Nat.le_refl _) ?_)
    · rcases List.mem_cons.mp hb with rfl | hb
      · exact X.hd
      · rw [List.mem_singleton.mp hb]; exact X.hl
    · rcases List.mem_cons.mp hm with q1 | hm
      · exact X.dW (q1 ▸ by simp)
      · exact X.lW (List.mem_singleton.mp hm ▸ by simp)
    rintro a G' ⟨rfl, rfl⟩
    refine ⟨?_, rfl⟩
    rw [List.take_add_one, List.getElem?_eq_getElem ilt, Option.toList_some, List.map_append]
    rfl
  intro outs G2 hinv
  obtain ⟨rfl, rfl⟩ := hinv
  rw [List.length_map, List.take_length]
  refine XS.cons (X1.ret (EV.and (EV.cmp ?_)))
  refine EV.localI 0 rfl (by rfl) rfl (by rfl) ?_ (by kernel_rfl)
  refine EV.comp (cl := []) (mci := []) ⟨by intro _; rfl, rfl, by decide, rfl, by decide +kernel, rfl, by intro _ _; rfl, (by intro x a e; cases e), (by intro p hp; cases hp)⟩ ok.a.handled (fun i outs G3 => outs = (nms i).map .str) ?_
  refine EV.callT "range" (by kernel_rfl) (by kernel_rfl) rfl ?_
  refine EA.cons (EV.callB "len" (by kernel_rfl) (by kernel_rfl) rfl ?_)
  refine EA.cons (EV.localI 2 rfl (by rfl) rfl (by rfl) (EA.nil ?_) (by kernel_rfl))
  refine OF.lenL (by rw [List.length_map, hml]; omega) (EA.nil ?_)
  rw [List.length_map, hml]
  refine OF.range1 ⟨_, rfl, by simp; unfold sizeLine; omega, rfl, ?_, ?_⟩
  · intro C acc I i a outs G3 ml hia hinv okc
    subst hinv
    have ilt : i < M := by
      rcases Nat.lt_or_ge i M with h | h
      · exact h
      · simp [h] at hia
    have ha : a = .int (i : Int) := by simp [ilt] at hia; exact hia.symm
    subst ha
    refine IFs.nil ⟨fun _ => ?_, fun h => (by cases h)⟩
    refine EV.binop (EV.str ?_)
    refine EV.callT "str" (by kernel_rfl) (by kernel_rfl) rfl ?_
    refine EA.cons (EV.localI 0 rfl (by rfl) rfl (by kernel_rfl) (EA.nil ?_) (by kernel_rfl))
    refine OF.strInt (by omega) ?_
    refine OB.add_str ?_ ?_
    · have := nm_len i (by omega)
      show (nm i).length ≤ _
      unfold sizeLine; omega
    · show _ = List.map AV.str (List.map nm (List.range (i + 1)))
      rw [List.range_succ, List.map_append, List.map_append]
      rfl
  intro outs G3 hinv
  subst hinv
  rw [show ((List.range M).map fun (i : Nat) => AV.int (i : Int)).length = M by simp]
  refine OC.eqStrs ok ⟨_, rfl, fun _ => ?_, fun hb => ?_⟩
  · refine EV.andOne (EV.cmp ?_)
    refine EV.callB "len" (by kernel_rfl) (by kernel_rfl) rfl ?_
    refine EA.cons (EV.localI 2 rfl (by rfl) rfl (by rfl) (EA.nil ?_) (by kernel_rfl))
    refine OF.lenL (by rw [List.length_map, hml]; omega) ?_
    refine EV.callB "len" (by kernel_rfl) (by kernel_rfl) rfl ?_
    refine EA.cons (EV.localI 0 rfl (by rfl) rfl (by rfl) (EA.nil ?_) (by kernel_rfl))
    refine OF.lenL (by rw [List.length_map, hml]; omega) ?_
    refine OC.eq ok rfl rfl ?_
    show AV.bool _ = AV.bool true
    congr 1
    exact beq_self_eq_true _
  · simp at hb
end Mine
end

-- part W70
section
open PySem PySem.W PyProof.Rows PySem.SeqAt
set_option Elab.async false
set_option linter.unusedVariables false
set_option maxRecDepth 100000
set_option pp.maxSteps 300
set_option pp.deepTerms false
namespace Mine
local macro_rules | `(tactic| got_up) => `(tactic| first
  | refine EV.localI 0 rfl (by rfl) rfl (by kernel_rfl) ?_ (by kernel_rfl)
  | refine EV.localI 1 rfl (by rfl) rfl (by kernel_rfl) ?_ (by kernel_rfl)
  | refine EV.localI 2 rfl (by rfl) rfl (by kernel_rfl) ?_ (by kernel_rfl)
  | refine EV.localI 3 rfl (by rfl) rfl (by kernel_rfl) ?_ (by kernel_rfl)
  | refine EV.localI 4 rfl (by rfl) rfl (by kernel_rfl) ?_ (by kernel_rfl)
  | refine EV.localI 5 rfl (by rfl) rfl (by kernel_rfl) ?_ (by kernel_rfl)
  | refine EV.localI 6 rfl (by rfl) rfl (by kernel_rfl) ?_ (by kernel_rfl))
local macro_rules | `(tactic| leaf_len) => `(tactic| first
  | refine EV.str ?_ | refine EV.int ?_ | refine EV.none ?_ | refine EV.bool ?_
  | refine EV.binop ?_ | refine EV.sub ?_ | refine EV.cmp ?_ | refine EV.ifexp ?_ | refine EV.tuple ?_ | refine EV.list ?_
  | refine EA.cons ?_ | refine EA.nil ?_
  | got_up
  | refine OS.tup (by decide) (by decide) rfl rfl ?_
  | refine OB.add_str ?_ ?_
  | refine OB.add ?_
  | refine OC.lt ?_ | refine OC.le ?_ | refine OC.gt ?_ | refine OC.ge ?_
  | refine XS.cons ?_ | refine X1.ret ?_ | refine X1.iff ?_ | refine XS.nil ?_
  | refine X1.assign (cxOf_env rfl rfl) (by kernel_rfl) rfl ?_
  | refine BT.cmp ?_)

theorem call_ctl {c : Cx} {m mc : LM} {G : Heap → Prop} {n : Nat} {id : Str} {p pos : Pos} {e1 : Expr} {args : List Expr} {KK : Addr → AK} {s : Shared} (f : Addr) (ok : CxOk c n) (x : At c m mc G s) (hf : peek c.K ⟨c.prog, c.w.params⟩ (loadName c.env id) = some (.ref f)) (hk : fnIn c.K f = true)
    (hd : (id == ("__debug__" : Str)) = false) (h : EA c m mc G pos (e1 :: args) fun as G1 => CTL c.prog c.w c.K n c.D (.ref f) as G1 KK)
    (he : starEach (e1 :: args) c.env = (false, eval e1 c.env) :: starEach args c.env := by rfl) :
    wpAny c.M c.A (eval (.Call (.Name id p) (e1 :: args) [] pos) c.env) (fun v s' => ∃ s1 a G', Stp c.D s s1 ∧ KK s1.heap.objs.size a G' ∧ VR c.V s'.heap a v ∧ At c m mc G' s' ∧ Stp c.D s1 s') NoE s := by
  rw [arm_eval_Call_Name']
  refine wpAny_bind (wpAny_Name ((Looks.of_peek (M := c.M) x.gd.k hf).here ?_) hd)
  unfold fnIn at hk
  split at hk
  · rename_i oc od fd osl ho
    refine Calls.callWith_function (o := ⟨oc, od, .func fd, osl⟩) (fd := fd) ?_
    have h' := h.run s x
    rw [he] at h' ⊢
    refine Calls.evalArgs_plain (wpAny_imp h' ?_)
    rintro vs s2 ⟨as, G2, rs, x2, y2, h2⟩
    refine ⟨⟨x2.gd.k _ _ ho, rfl⟩, ?_⟩
    refine wpAny_call (codeAny_mono (h2 c.A ok.a c.O vs s2 x2.gd ok.d x2.g rs) fun r' s' ⟨v, a, G', h1, h2, h3, h4, h5⟩ => ?_)
    subst h1
    exact ⟨s2, a, G', y2, h5, h2, x2.step h4 h3, h4⟩
  · cases hk

theorem law_cells (w : World) (a : AV) : CellsAs (lawFd w) [a] [Str.ofString "script"] [(Str.ofString "script", a)] [] (fun _ => []) (fun L => [L + 1, L + 2]) := by
  refine ⟨?_, ?_, ?_, ?_⟩
  · intro L f vs V h hr
    obtain ⟨v, vr, rfl, r1, rfl⟩ := hr
    refine ⟨fun x b e => ?_, (fun x b e => by cases e), fun b hb => ?_⟩
    · rw [List.lookup_cons] at e
      cases q : x == Str.ofString "script" with
      | false => rw [q] at e; cases e
      | true =>
        rw [q] at e; cases e
        rw [beq_iff_eq.mp q]
        exact ⟨v, rfl, r1⟩
    · rcases List.mem_cons.mp hb with rfl | hb
      · exact ⟨Str.ofString "draw", rfl, rfl⟩
      · rw [List.mem_singleton.mp hb]
        exact ⟨Str.ofString "wrapper", rfl, rfl⟩
  · intro L vs hl x hx
    obtain ⟨v, rfl⟩ : ∃ v, vs = [v] := by
      match vs, hl with
      | [v], _ => exact ⟨v, rfl⟩
    rw [List.mem_singleton.mp hx]
    exact .inl rfl
  · intro L b hb
    cases hb
  · intro L b hb
    rcases List.mem_cons.mp hb with rfl | hb
    · exact ⟨Nat.lt_succ_self L, Str.ofString "draw", rfl⟩
    · rw [List.mem_singleton.mp hb]; exact ⟨Nat.lt_succ_of_lt (Nat.lt_succ_self L), Str.ofString "wrapper", rfl⟩

/-- the plain laws that the law leans on -/
structure PF : Prop where
  trk : ∀ qs : List Pc, (∀ x ∈ qs, x.ok) → qs.length ≤ 9 → TrackOk (rowOf qs) fun st => afterO st qs
  len : ∀ qs : List Pc, (∀ x ∈ qs, x.ok) → qs.length ≤ 9 → (rowOf qs).length ≤ 100000
  find : ∀ qs : List Pc, (∀ x ∈ qs, x.ok) → qs.length ≤ 9 → ∀ k, k ≤ (rowOf qs).length → closeAV (rowOf qs) k = fAV (foundP k qs).2
  line : ∀ n p, n ≤ 7 → LineOk (lnP n p).1

theorem law_ct (w : World) (P : PF) {n : Nat} {ns : List Int} (hn : ns.length ≤ 100) : CT PG w (KH w) (n + 201) [] (.ref 476) [.lst (ns.map .int)] (fun _ => True) (fun a _ => a = .bool true) := by
  refine CT.defC (o := Mine.hz.zo_448 w.params) (names := [Str.ofString "script"]) (by kernel_rfl) (lawFd_data w) (lawFd_body w) (by kernel_rfl) (hbind := ?_) (law_cells w _) rfl rfl rfl rfl ?_
  · intro vs s V hr
    obtain ⟨v, vr, rfl, r1, rfl⟩ := hr
    rfl
  · intro A L O hA hD hL hnD
    have ok : CxOk (LC w A L [L] O [L + 1, L + 2]) 200 := ⟨hA.mono (by omega), fun d hd => hD d (by simpa using hd)⟩
    have cne : ∀ p ∈ [(Str.ofString "wrapper", L + 2), (Str.ofString "draw", L + 1)], p.2 ≠ L := fun p hp => by
      rcases List.mem_cons.mp hp with rfl | hp
      · exact Nat.ne_of_gt (Nat.lt_succ_of_lt (Nat.lt_succ_self L))
      · rw [List.mem_singleton.mp hp]; exact Nat.ne_of_gt (Nat.lt_succ_self L)
    have E : EnvOk (LC w A L [L] O [L + 1, L + 2]) := ⟨List.mem_singleton.mpr rfl, cne, rfl⟩
    have b1 : L + 1 ∈ [L + 1, L + 2] := by simp
    have b2 : L + 2 ∈ [L + 1, L + 2] := by simp
    show XS (LC w A L [L] O [L + 1, L + 2]) [(Str.ofString "script", .lst (ns.map .int))] [] (fun h => UC [L + 1, L + 2] h ∧ True) (lawB w) _
    refine XS.monoK (KF := KFL) ?_ (fun fa m mc G k => by
      cases fa with
      | ret a => exact k
      | next => exact k.elim
      | brk => exact k.elim
      | cont => exact k.elim)
    refine XS.cellInD (b := L + 1) E (by rfl) (by rfl) b1 (ok.d _ b1) rfl fun s x => ?_
    refine wpAny_imp (call_ctl (n := 200) 424 ok x (by kernel_rfl) (by kernel_rfl) (by kernel_rfl) (EA.cons (EV.localI 0 rfl (by rfl) rfl (by rfl) (EA.nil (drawN_ct (n := 180) hn)) (by kernel_rfl)))) ?_
    rintro v s3 ⟨s1, a, G', y1, ⟨dd, ll, rfl, hdl, hdd, hll, rfl⟩, rv, x3, y3⟩
    cases rv
    have fr : ∀ q, s1.heap.objs.size < q → s.heap.get? q = none := fun q hq => by
      cases e : s.heap.get? q with
      | none => rfl
      | some o =>
        obtain ⟨o', e'⟩ := y1.there q o e
        exact absurd (Heap.lt_size e') (Nat.not_lt.mpr (Nat.le_of_lt hq))
    have frV : ∀ q, s1.heap.objs.size < q → q ∉ (LC w A L [L] O [L + 1, L + 2]).V := fun q hq hm => by
      obtain ⟨o, e⟩ := x.gd.lt q hm
      rw [fr q hq] at e; cases e
    have gh := x3.g.here
    have v1 : L + 1 ∈ (LC w A L [L] O [L + 1, L + 2]).V := List.mem_append_right _ b1
    have v2 : L + 2 ∈ (LC w A L [L] O [L + 1, L + 2]).V := List.mem_append_right _ b2
    have dV1 : ∀ q, s1.heap.objs.size < q → q ≠ L + 1 ∧ q ≠ L + 2 := fun q hq => ⟨fun e => frV q hq (by rw [e]; exact v1), fun e => frV q hq (by rw [e]; exact v2)⟩
    refine ⟨[dd, ll], GD dd ll (drawP ns) (UC [L + 2]), ?_, y1.trans y3, gh.2.1 _ b1, fun h' k => ⟨?_, ?_⟩, ?_⟩
    · intro q hq
      obtain ⟨⟨t, o, e, _⟩, vs, k, e2, _⟩ := gh.1
      rcases List.mem_cons.mp hq with rfl | hq
      · exact ⟨fr _ hdd, o, e⟩
      · rw [List.mem_singleton.mp hq]; exact ⟨fr _ hll, _, e2⟩
    · refine (DR.loc dd ll _ _).loc s3.heap h' (fun q hq o e => k q o (fun hO => ?_) ?_ e) gh.1
      · rcases List.mem_cons.mp hq with rfl | hq
        · exact frV _ hdd (List.mem_append_left _ hO)
        · rw [List.mem_singleton.mp hq] at hO; exact frV _ hll (List.mem_append_left _ hO)
      · rcases List.mem_cons.mp hq with rfl | hq
        · exact (dV1 _ hdd).1
        · rw [List.mem_singleton.mp hq]; exact (dV1 _ hll).1
    · refine (UC.loc [L + 2]).loc s3.heap h' (fun q hq o e => ?_) (fun q hq => gh.2.1 q (by rw [List.mem_singleton.mp hq]; exact b2))
      rw [List.mem_singleton.mp hq] at e ⊢
      exact k _ o (ok.d _ b2) (Nat.ne_of_gt (Nat.lt_succ_self (L + 1))) e
    · have okM := CxOk.more (b := L + 1) (N := [dd, ll]) ok b1 (fun q hq => by
        rcases List.mem_cons.mp hq with rfl | hq
        · exact frV _ hdd
        · rw [List.mem_singleton.mp hq]; exact frV _ hll)
      have hbD : L + 2 ∈ [dd, ll] ++ [L + 1, L + 2].filter (fun q => decide (q ≠ L + 1)) := List.mem_append_right _ (List.mem_filter.mpr ⟨b2, decide_eq_true (Nat.ne_of_gt (Nat.lt_succ_self (L + 1)))⟩)
      have h1D : L + 1 ∉ [dd, ll] ++ [L + 1, L + 2].filter (fun q => decide (q ≠ L + 1)) := fun hm => by
        rcases List.mem_append.mp hm with hm | hm
        · rcases List.mem_cons.mp hm with q | hm
          · exact (dV1 _ hdd).1 q.symm
          · exact (dV1 _ hll).1 (List.mem_singleton.mp hm).symm
        · have := (List.mem_filter.mp hm).2
          simp at this
      have X : LOk w A L ([L] ++ [L + 1]) O ([dd, ll] ++ [L + 1, L + 2].filter (fun q => decide (q ≠ L + 1))) dd ll := by
        refine ⟨okM, EnvOk.more E, fun q hq => ?_, hdl, by simp, by simp⟩
        show q.2 ∈ ((LC w A L [L] O [L + 1, L + 2]).more (L + 1) [dd, ll]).V
        refine (Cx.more_V b1).mpr (.inr ?_)
        rcases List.mem_cons.mp hq with rfl | hq
        · exact v2
        · rw [List.mem_singleton.mp hq]; exact v1
      have Y : DOk ([dd, ll] ++ [L + 1, L + 2].filter (fun q => decide (q ≠ L + 1))) [L + 2] (UC [L + 2]) dd ll := ⟨hdl, by simp, by simp, fun f hf => (by rw [List.mem_singleton.mp hf]; exact hbD), fun hm => (dV1 _ hdd).2 (List.mem_singleton.mp hm), fun hm => (dV1 _ hll).2 (List.mem_singleton.mp hm), UC.loc _⟩
      have h0 := drawP_ok ns
      have h1 := startP_ok h0
      refine XS.norm (m0 := []) ?_ (by intro n a e; cases e)
      refine XS.monoK (KF := KFL) (law_2 X Y h0 ?_) (fun _ _ _ _ k => k)
      refine law_4 X Y h1 fun N M ps hN hps hM => ?_
      have hM5 : 1 ≤ M ∧ M ≤ 5 := by have := pn_lt (p := (pcsP N (dn (startP (drawP ns)).2)).2) (m := 5) (by decide); omega
      have hN9 : N ≤ 9 := by have := pn_lt (p := (startP (drawP ns)).2) (m := 9) (by decide); omega
      have hpl : ps.length ≤ 9 := by rw [hps, pcsP_len]; exact hN9
      have hpo : ∀ x ∈ ps, x.ok := by rw [hps]; exact pcsP_pok _ N
      have h2 := dn_ok (pcsP_ok (dn_ok h1) N)
      refine law_7 X Y hbD h1D hM5 (by rfl) fun own D wr dx lid od X2 => ?_
      refine law_8 (M := M) (ps := ps) (st := (startP (drawP ns)).1) X2 h2 hpo hpl P.trk ?_
      refine law_15 X2 hpo hpl ?_
      refine law_17 X2 (dn_ok h2) hpo hpl (P.len ps hpo hpl) (P.find ps hpo hpl) ?_
      refine law_22 X2 (dn_ok (dn_ok h2)) fun n q line hn hl hq => ?_
      subst hl
      exact law_24 X2 hM5.2 (by rw [lnP_len]; exact hn) (lnP_items _ n) (P.line n _ hn)
end Mine
end

-- part W71
section
open PySem PySem.W PySem.W.X PyProof.Rows PySem.SeqAt
set_option Elab.async false
set_option linter.unusedVariables false
set_option maxRecDepth 100000
set_option maxHeartbeats 0


namespace Mine
theorem ints_of {V : List Addr} {h : Heap} : ∀ {vs : List Value} {ns : List Int}, IntsAre vs ns → VRs V h (ns.map .int) vs
  | _, _, .nil => rfl
  | _, _, .cons n t r => ⟨.int n t, _, rfl, ⟨t, rfl⟩, ints_of r⟩
theorem law_end {w : World} {c : ClaimW} {cl : Str → Option Addr} {mean : ExcName → Option Value} {args : List WData} {s1 : Shared} {ns : List Int} {vs : List Value} {l : Addr} (P : PF) (X : (KH w).In s1.heap) (NL : s1.heap.NoLimit) (hg : s1.gens = #[])
    (hl : s1.heap.get? l = some { cls := .type "list", data := .seq vs.toArray }) (hI : IntsAre vs ns) (hn : ns.length ≤ 63) (hr : ∀ cls, c.raises args cls = false) (hp : c.post args (.bool true) args = true) {E : Value → Shared → Prop} :
    wpAny (model PG w) callerA (call (.ref 476) [.ref l]) (fun v s' => GoodWG c cl mean args s1 (.ok (.ret v)) s') E s1 := by
  have hA : AOk callerA 201 := ⟨rfl, by decide, by decide⟩
  have gd : Gd (KH w) ([] ++ []) s1 := ⟨X, NL, (fun v hv => by cases hv), (fun v hv => by cases hv)⟩
  refine wpAny_call (codeAny_mono (law_ct w P (n := 0) (ns := ns) (by omega) callerA hA [] [.ref l] s1 gd (fun d hd => by cases hd) (fun _ _ => trivial) ⟨.ref l, [], rfl, ⟨l, vs, 0, rfl, by simp, hl, ints_of hI⟩, rfl⟩) ?_)
  rintro r s' ⟨v, a, G', rfl, rv, _, st, rfl⟩
  cases rv
  refine ⟨.inl ⟨_, _, [], rfl, hr, ReadsW.bool true, hp, fun _ => ⟨List.nodup_nil, fun _ hm => (nomatch hm)⟩⟩, .of_keep (fun b o e => st.keep b o (by simp) e), st.os, st.gens.2 (.of_eq hg)⟩

theorem law_holds (P : PF) : PySem.Challenge.rw_ax6040_01.Holds := Mine.hz (by
 intro w s0 s1 mg mb G y fa o pm cd doc dV kV ho hd hcd hD hmg hg args vals as L hpre hlay hrd hwl hlo
 obtain ⟨ZA,ZI,ZN,ZK⟩ := z_facts (K := Mine.hz.heap_448) (fun P => by kernel_rfl) y
 have KX : (Mine.hz.heap_448 w.params).In s1.heap := InK.keeps w _ _ ZI (Laid.keeps L)
 refine Ground.open G ?_
 intro T B D TE TW
 wrow_args hpre hlay hrd hwl hlo
 obtain ⟨hat, hsz⟩ := script_at L
 rw [ZN] at hat hsz
 subst hat
 x_fa T KX hmg
 exact law_end P KX T.nolimit hg (script_obj L ‹s1.heap.IsList 477 _›) ‹IntsAre _ _› (by omega) (fun _ => rfl) (by first | rfl | wrow_post))
end Mine
end

-- part W72
section
open PySem PySem.W PyProof.Rows
set_option Elab.async false
set_option linter.unusedVariables false
set_option maxRecDepth 100000
namespace Mine

inductive Tok' where
  | pl (c : Nat) | sq (t : List Nat)
def Tok'.cps : Tok' → List Nat
  | .pl c => [c]
  | .sq t => t
def flat (ts : List Tok') : List Nat := ts.flatMap Tok'.cps
def segs : List Nat → List Tok' → List (List Nat × Bool)
  | [], [] => []
  | c :: b, [] => [(c :: b, false)]
  | b, .pl c :: r => segs (b ++ [c]) r
  | [], .sq t :: r => (t, true) :: segs [] r
  | c :: b, .sq t :: r => (c :: b, false) :: (t, true) :: segs [] r
def toIt (p : List Nat × Bool) : Str × Bool := (⟨p.1.toArray⟩, p.2)

/-- a sequence that the pattern matches whole, wherever it stands -/
structure SeqOk (t : List Nat) : Prop where
  len : 2 ≤ t.length
  head : t.getD 0 0 = 27
  run : ∀ (text : Array Nat) (i : Nat), text.size ≤ 4294967295 → (∀ j, j < t.length → text.getD (i + j) 0 = t.getD j 0) → i + t.length ≤ text.size → Re.To (Re.zcfg text text.size) 60 (Re.q0 9 i #[]) (Re.Yes i (i + t.length) #[] (-1) (-1))
def TokOk : Tok' → Prop
  | .pl c => c ≠ 27
  | .sq t => SeqOk t

theorem getD_of {x : Str} {pre t suf : List Nat} (h : x.cps.toList = pre ++ (t ++ suf)) {j : Nat} (hj : j < t.length) : x.cps.getD (pre.length + j) 0 = t.getD j 0 := by
  have : x.cps.getD (pre.length + j) 0 = x.cps.toList.getD (pre.length + j) 0 := by simp [Array.getD_eq_getD_getElem?, List.getD_eq_getElem?_getD]
  rw [this, h]
  simp only [List.getD_eq_getElem?_getD]
  rw [List.getElem?_append_right (by omega), Nat.add_sub_cancel_left, List.getElem?_append_left hj]
theorem size_of {x : Str} {l : List Nat} (h : x.cps.toList = l) : x.cps.size = l.length := by rw [← h]; simp
theorem item_of {x : Str} {pre suf : List Nat} {c : Nat} (h : x.cps.toList = pre ++ (c :: suf)) : Txt.item x (pre.length : Int) = ⟨#[c]⟩ := by
  unfold Txt.item Txt.charAt
  have hs : x.length = pre.length + (suf.length + 1) := by
    show x.cps.size = _
    rw [size_of h]; simp
  have : seqIndex? (pre.length : Int) x.length = some pre.length := by
    have hn : ¬ ((pre.length : Int) < 0) := by omega
    unfold seqIndex?
    simp only [hn, if_false]
    rw [if_pos (by simp; omega)]
    simp
  rw [this]
  have e : x.cps[pre.length]? = some c := by
    rw [← Array.getElem?_toList, h]
    simp
  rw [Option.bind_some, e]
  rfl
theorem extract_of {x : Str} {pre t suf : List Nat} (h : x.cps.toList = pre ++ (t ++ suf)) : x.cps.extract pre.length (pre.length + t.length) = t.toArray := by
  apply Array.toList_inj.mp
  rw [Array.toList_extract, h]
  simp
theorem slice_of {x : Str} {pre t suf : List Nat} (h : x.cps.toList = pre ++ (t ++ suf)) : Txt.slice x (some (pre.length : Int)) (some ((pre.length + t.length : Nat) : Int)) = ⟨t.toArray⟩ := by
  have hs := size_of h
  simp only [List.length_append] at hs
  have := slice_closes (x := x) (i := (pre.length : Int)) (j := ((pre.length + t.length : Nat) : Int)) ⟨by omega, by omega, by rw [h]; simp only [List.length_append]; omega⟩
  rw [beq_iff_eq.mp this, h]
  congr 2
  rw [show (((pre.length + t.length : Nat) : Int) - (pre.length : Int)).toNat = t.length by omega, Int.toNat_natCast]
  simp
theorem rest_of {x : Str} {pre t : List Nat} (h : x.cps.toList = pre ++ t) : Txt.slice x (some (pre.length : Int)) none = ⟨t.toArray⟩ := by
  have hs := size_of h
  simp only [List.length_append] at hs
  have := slice_from_eq (x := x) (i := (pre.length : Int)) (b := (x.length : Int)) (by omega) (by show (pre.length : Int) ≤ ((x.cps.size : Nat) : Int); omega) rfl
  rw [this, h]
  congr 2
  rw [show ((x.length : Int) - (pre.length : Int)).toNat = t.length by show (((x.cps.size : Nat) : Int) - _).toNat = _; omega, Int.toNat_natCast]
  simp

theorem sg_of {x : Str} (hx : x.cps.size ≤ 4000000) : ∀ (ts : List Tok') (pre buf : List Nat), x.cps.toList = pre ++ (buf ++ flat ts) → (∀ t ∈ ts, TokOk t) → Sg x (pre.length + buf.length) pre.length ((segs buf ts).map fun p => itAV (toIt p))
  | [], pre, [], h, _ => by
    have hs := size_of h
    simp [flat] at hs
    exact Sg.fin (by simp; omega) (by omega)
  | [], pre, c :: b, h, _ => by
    have hs := size_of h
    simp [flat] at hs
    have h' : x.cps.toList = pre ++ (c :: b) := by rw [h]; simp [flat]
    have := Sg.last (x := x) (i := pre.length + (c :: b).length) (s := pre.length) (by simp; omega) (by omega)
    have e : restS x pre.length = itAV (toIt (c :: b, false)) := by
      unfold restS itAV toIt
      rw [rest_of h']
    rw [e] at this
    exact this
  | .pl c :: r, pre, b, h, hk => by
    have hs := size_of h
    simp only [flat, List.flatMap_cons, Tok'.cps, List.length_append, List.length_cons, List.length_nil] at hs
    have h1 : x.cps.toList = (pre ++ b) ++ (c :: flat r) := by rw [h]; simp [flat, Tok'.cps]
    have h2 : x.cps.toList = pre ++ ((b ++ [c]) ++ flat r) := by rw [h]; simp [flat, Tok'.cps]
    have ih := sg_of hx r pre (b ++ [c]) h2 (fun t ht => hk t (List.mem_cons_of_mem _ ht))
    have hit := item_of h1
    rw [List.length_append] at hit
    refine Sg.step (by omega) ?_ ?_
    · rw [hit]
      have : c ≠ 27 := hk _ (List.mem_cons_self ..)
      cases q : ((⟨#[c]⟩ : Str) == ESC) with
      | false => rfl
      | true =>
        have := beq_iff_eq.mp q
        have e : ESC = (⟨#[27]⟩ : Str) := by decide
        rw [e] at this
        simp at this
        contradiction
    · have e : segs b (.pl c :: r) = segs (b ++ [c]) r := by cases b <;> rfl
      rw [e]
      rw [List.length_append] at ih
      exact ih
  | .sq t :: r, pre, b, h, hk => by
    have hs := size_of h
    have ok : SeqOk t := hk _ (List.mem_cons_self ..)
    simp only [flat, List.flatMap_cons, Tok'.cps, List.length_append] at hs
    have h1 : x.cps.toList = (pre ++ b) ++ (t ++ flat r) := by rw [h]; simp [flat, Tok'.cps]
    have h2 : x.cps.toList = (pre ++ b ++ t) ++ ([] ++ flat r) := by rw [h]; simp [flat, Tok'.cps]
    have ih := sg_of hx r (pre ++ b ++ t) [] h2 (fun t ht => hk t (List.mem_cons_of_mem _ ht))
    have hlen := ok.len
    obtain ⟨c0, t', rfl⟩ : ∃ c0 t', t = c0 :: t' := by cases t with | nil => simp at hlen | cons a l => exact ⟨a, l, rfl⟩
    have hc0 : c0 = 27 := ok.head
    have hit := item_of (suf := t' ++ flat r) (c := c0) (pre := pre ++ b) (by rw [h1]; simp)
    rw [List.length_append] at hit
    have hesc : (Txt.item x ((pre.length + b.length : Nat) : Int) == ESC) = true := by rw [hit, hc0]; decide
    have hrun := ok.run x.cps (pre.length + b.length) (by omega) (fun j hj => by
      have := getD_of (pre := pre ++ b) h1 hj
      rwa [List.length_append] at this) (by omega)
    have hseq : seqS x (pre.length + b.length) (pre.length + b.length + (c0 :: t').length) = itAV (toIt (c0 :: t', true)) := by
      have := extract_of (pre := pre ++ b) h1
      rw [List.length_append] at this
      unfold seqS itAV toIt
      rw [this]
    simp only [List.length_append, List.length_nil, Nat.add_zero] at ih
    cases b with
    | nil =>
      have := Sg.seq0 (s := pre.length) (by omega) hesc (by simp) hrun ih
      rw [hseq] at this
      exact this
    | cons d b =>
      have := Sg.seq1 (s := pre.length) (by omega) hesc (by simp) hrun ih
      have hpl : plainS x pre.length (pre.length + (d :: b).length) = itAV (toIt (d :: b, false)) := by
        unfold plainS itAV toIt
        rw [slice_of (suf := (c0 :: t') ++ flat r) (by rw [h]; simp [flat, Tok'.cps])]
      rw [hseq, hpl] at this
      exact this
end Mine
end

-- part W73
section
open PySem PySem.W PyProof.Rows
set_option Elab.async false
set_option linter.unusedVariables false
set_option maxRecDepth 100000
namespace Mine

theorem cps_cat (a b : Str) : (a ++ b).cps.toList = a.cps.toList ++ b.cps.toList := by rw [Str.cps_append]; simp
theorem join_flat : ∀ l : List Str, (Txt.join (Str.ofString "") l).cps.toList = l.flatMap (·.cps.toList) := by
  intro l
  show (Builtin.Str.glued (Str.ofString "") l).cps.toList = _
  rw [StrLaws.glued_eq_join]
  induction l with
  | nil => rfl
  | cons x r ih =>
    cases r with
    | nil => simp [Str.join]
    | cons y r =>
      show (x ++ Str.ofString "" ++ Str.join (Str.ofString "") (y :: r)).cps.toList = _
      rw [cps_cat, cps_cat, ih, show (Str.ofString "").cps.toList = [] from rfl, List.append_nil]
      rfl

def mid (t : List Nat) (n : Nat) (f : Nat → Bool) : Bool := (List.range n).all fun j => f (t.getD (2 + j) 0)
def csiChk (t : List Nat) : Bool := decide (3 ≤ t.length) && t.getD 0 0 == 27 && t.getD 1 0 == 91 && mid t (t.length - 3) (fun c => decide (48 ≤ c) && decide (c ≤ 63)) && decide (64 ≤ t.getD (t.length - 1) 0) && decide (t.getD (t.length - 1) 0 ≤ 126)
def oscBChk (t : List Nat) : Bool := decide (3 ≤ t.length) && t.getD 0 0 == 27 && t.getD 1 0 == 93 && mid t (t.length - 3) (fun c => !(c == 7) && !(c == 27)) && t.getD (t.length - 1) 0 == 7
def oscSChk (t : List Nat) : Bool := decide (4 ≤ t.length) && t.getD 0 0 == 27 && t.getD 1 0 == 93 && mid t (t.length - 4) (fun c => !(c == 7) && !(c == 27)) && t.getD (t.length - 2) 0 == 27 && t.getD (t.length - 1) 0 == 92
def seqChk (t : List Nat) : Bool := csiChk t || oscBChk t || oscSChk t
theorem mid_at {t : List Nat} {n : Nat} {f : Nat → Bool} (h : mid t n f = true) {j : Nat} (hj : j < n) : f (t.getD (2 + j) 0) = true := List.all_eq_true.mp h j (List.mem_range.mpr hj)

theorem seq_ok {t : List Nat} (h : seqChk t = true) : SeqOk t := by
  unfold seqChk at h
  rw [Bool.or_eq_true, Bool.or_eq_true] at h
  rcases h with (h | h) | h
  · unfold csiChk at h
    simp only [Bool.and_eq_true, decide_eq_true_eq, beq_iff_eq] at h
    obtain ⟨⟨⟨⟨⟨h1, h2⟩, h3⟩, h4⟩, h5⟩, h6⟩ := h
    refine ⟨by omega, h2, fun text i hs hg hl => ?_⟩
    have e : ∀ j, j < t.length → text.getD (i + j) 0 = t.getD j 0 := hg
    have := Re.zw_csi (text := text) (lim := text.size) (i := i) (n := t.length - 3) hs (by have := e 0 (by omega); rw [Nat.add_zero] at this; rw [this, h2]) (by rw [e 1 (by omega), h3]) (fun j hj => by
      have := mid_at h4 hj
      simp only [Bool.and_eq_true, decide_eq_true_eq] at this
      rw [Nat.add_assoc, e (2 + j) (by omega)]; exact this) (by
      rw [Nat.add_assoc, e (2 + (t.length - 3)) (by omega), show 2 + (t.length - 3) = t.length - 1 by omega]; exact ⟨h5, h6⟩) (by omega)
    rw [show i + 2 + (t.length - 3) + 1 = i + t.length by omega] at this
    exact this
  · unfold oscBChk at h
    simp only [Bool.and_eq_true, decide_eq_true_eq, beq_iff_eq] at h
    obtain ⟨⟨⟨⟨h1, h2⟩, h3⟩, h4⟩, h5⟩ := h
    refine ⟨by omega, h2, fun text i hs hg hl => ?_⟩
    have e : ∀ j, j < t.length → text.getD (i + j) 0 = t.getD j 0 := hg
    have := Re.zw_oscB (text := text) (lim := text.size) (i := i) (n := t.length - 3) hs (by have := e 0 (by omega); rw [Nat.add_zero] at this; rw [this, h2]) (by rw [e 1 (by omega), h3]) (fun j hj => by
      have := mid_at h4 hj
      simp only [Bool.and_eq_true, Bool.not_eq_true', beq_eq_false_iff_ne] at this
      rw [Nat.add_assoc, e (2 + j) (by omega)]; exact this) (by
      rw [Nat.add_assoc, e (2 + (t.length - 3)) (by omega), show 2 + (t.length - 3) = t.length - 1 by omega]; exact h5) (by omega)
    rw [show i + 2 + (t.length - 3) + 1 = i + t.length by omega] at this
    exact this
  · unfold oscSChk at h
    simp only [Bool.and_eq_true, decide_eq_true_eq, beq_iff_eq] at h
    obtain ⟨⟨⟨⟨⟨h1, h2⟩, h3⟩, h4⟩, h5⟩, h6⟩ := h
    refine ⟨by omega, h2, fun text i hs hg hl => ?_⟩
    have e : ∀ j, j < t.length → text.getD (i + j) 0 = t.getD j 0 := hg
    have := Re.zw_oscS (text := text) (lim := text.size) (i := i) (n := t.length - 4) hs (by have := e 0 (by omega); rw [Nat.add_zero] at this; rw [this, h2]) (by rw [e 1 (by omega), h3]) (fun j hj => by
      have := mid_at h4 hj
      simp only [Bool.and_eq_true, Bool.not_eq_true', beq_eq_false_iff_ne] at this
      rw [Nat.add_assoc, e (2 + j) (by omega)]; exact this) (by
      rw [Nat.add_assoc, e (2 + (t.length - 4)) (by omega), show 2 + (t.length - 4) = t.length - 2 by omega]; exact h5) (by
      rw [Nat.add_assoc, Nat.add_assoc, e (2 + (t.length - 4 + 1)) (by omega), show 2 + (t.length - 4 + 1) = t.length - 1 by omega]; exact h6) (by omega)
    rw [show i + 2 + (t.length - 4) + 2 = i + t.length by omega] at this
    exact this

/-- a piece as tokens -/
def Pc.toks : Pc → List Tok'
  | .ab => [.pl 97, .pl 98]
  | .sp => [.pl 32]
  | x => [.sq x.text.cps.toList]
theorem chk_opens : (URLS.all fun u => PARAMS.all fun p => ENDS.all fun t => seqChk (oTxt ⟨u, p, t⟩).cps.toList) = true := by decide +kernel
theorem chk_closes : (ENDS.all fun t => seqChk (Pc.text (.cls t)).cps.toList) = true := by decide +kernel
theorem chk_rest : (seqChk (Pc.text .bad).cps.toList && seqChk (Pc.text .sgr).cps.toList && seqChk (Pc.text .title).cps.toList) = true := by decide +kernel
theorem toks_ok {x : Pc} (h : x.ok) : ∀ t ∈ x.toks, TokOk t := by
  have hr := chk_rest
  simp only [Bool.and_eq_true] at hr
  intro t ht
  cases x with
  | ab =>
    rcases List.mem_cons.mp ht with rfl | ht
    · show 97 ≠ 27; decide
    · rw [List.mem_singleton.mp ht]; show 98 ≠ 27; decide
  | sp => rw [List.mem_singleton.mp ht]; show 32 ≠ 27; decide
  | opn k =>
    rw [List.mem_singleton.mp ht]
    exact seq_ok (List.all_eq_true.mp (List.all_eq_true.mp (List.all_eq_true.mp chk_opens k.u h.1) k.p h.2.1) k.t h.2.2)
  | cls e =>
    rw [List.mem_singleton.mp ht]
    exact seq_ok (List.all_eq_true.mp chk_closes e h)
  | bad => rw [List.mem_singleton.mp ht]; exact seq_ok hr.1.1
  | sgr => rw [List.mem_singleton.mp ht]; exact seq_ok hr.1.2
  | title => rw [List.mem_singleton.mp ht]; exact seq_ok hr.2
theorem toks_flat (x : Pc) : flat x.toks = x.text.cps.toList := by
  cases x <;> first | rfl | (show flat [Tok'.sq _] = _; simp [flat, Tok'.cps])
theorem row_flat (ps : List Pc) : (rowOf ps).cps.toList = flat (ps.flatMap Pc.toks) := by
  unfold rowOf
  rw [join_flat]
  induction ps with
  | nil => rfl
  | cons x ps ih =>
    rw [List.map_cons, List.flatMap_cons, List.flatMap_cons, ih, ← toks_flat x]
    unfold flat
    rw [List.flatMap_append]
theorem flat_len {ps : List Pc} (h : ∀ x ∈ ps, x.ok) : (flat (ps.flatMap Pc.toks)).length ≤ 1000 * ps.length := by
  induction ps with
  | nil => exact Nat.le_refl _
  | cons x ps ih =>
    have h1 := Pc.len (h x (List.mem_cons_self ..))
    have h2 := ih (fun y hy => h y (List.mem_cons_of_mem _ hy))
    have e : (flat x.toks).length = x.text.length := by rw [toks_flat]; simp [Str.length]
    unfold flat at *
    rw [List.flatMap_cons, List.flatMap_append, List.length_append, e]
    simp only [List.length_cons]
    omega
theorem row_len {ps : List Pc} (h : ∀ x ∈ ps, x.ok) (hl : ps.length ≤ 9) : (rowOf ps).length ≤ 9000 := by
  have := flat_len h
  rw [← row_flat] at this
  have e : (rowOf ps).length = (rowOf ps).cps.toList.length := by simp [Str.length]
  rw [e]; omega
end Mine
end

-- part W74
section
open PySem PySem.W PyProof.Rows
set_option Elab.async false
set_option linter.unusedVariables false
set_option maxRecDepth 100000
namespace Mine

theorem getD_drop (text : Array Nat) (s i : Nat) : text.getD (s + i) 0 = (text.toList.drop s).getD i 0 := by
  simp [Array.getD_eq_getD_getElem?, List.getD_eq_getElem?_getD, List.getElem?_drop]
theorem len_drop (text : Array Nat) (s : Nat) : (text.toList.drop s).length = text.size - s := by simp
theorem close_list (text : Array Nat) (s : Nat) (r : List Nat) (h : text.toList.drop s = r) : Re.closeLen text text.size s =
    if 5 < r.length ∧ r.getD 0 0 = 27 ∧ r.getD 1 0 = 93 ∧ r.getD 2 0 = 56 ∧ r.getD 3 0 = 59 ∧ r.getD 4 0 = 59 then
      if r.getD 5 0 = 7 then some 6 else if r.getD 5 0 = 27 ∧ 6 < r.length ∧ r.getD 6 0 = 92 then some 7 else none
    else none := by
  have hl := len_drop text s
  rw [h] at hl
  have g := getD_drop text s
  rw [h] at g
  have g0 := g 0
  rw [Nat.add_zero] at g0
  unfold Re.closeLen
  rw [g0, g 1, g 2, g 3, g 4, g 5, g 6]
  have e1 : s + 5 < text.size ↔ 5 < r.length := by omega
  have e2 : s + 6 < text.size ↔ 6 < r.length := by omega
  simp only [e1, e2]

def locNone : List Nat → Bool
  | a :: r => !(a == 27) || (match r with
    | b :: r => !(b == 93) || (match r with
      | c :: r => !(c == 56) || (match r with
        | d :: r => !(d == 59) || (match r with
          | e :: r => !(e == 59) || (match r with
            | g :: r => !(g == 7) && !(g == 27)
            | [] => false)
          | [] => false)
        | [] => false)
      | [] => false)
    | [] => false)
  | [] => false
theorem none_of {text : Array Nat} {s : Nat} {r rest : List Nat} (h : text.toList.drop s = r ++ rest) (hn : locNone r = true) : Re.closeLen text text.size s = none := by
  rw [close_list text s _ h]
  unfold locNone at hn
  repeat' split at hn
  all_goals first | (cases hn; done) | skip
  all_goals
    simp only [Bool.or_eq_true, Bool.not_eq_true', beq_eq_false_iff_ne, Bool.and_eq_true, Bool.or_false] at hn
    simp only [List.cons_append, List.getD_cons_zero, List.getD_cons_succ]
    split
    · rename_i hc
      obtain ⟨_, h0, h1, h2, h3, h4⟩ := hc
      first
      | omega
      | (split
         · omega
         · split
           · omega
           · rfl)
    · rfl
def isClose (t : List Nat) : Bool := t == [27, 93, 56, 59, 59, 7] || t == [27, 93, 56, 59, 59, 27, 92]
theorem some_of {text : Array Nat} {s : Nat} {r rest : List Nat} (h : text.toList.drop s = r ++ rest) (hn : isClose r = true) : Re.closeLen text text.size s = some r.length := by
  rw [close_list text s _ h]
  unfold isClose at hn
  rw [Bool.or_eq_true, beq_iff_eq, beq_iff_eq] at hn
  rcases hn with rfl | rfl
  · simp
  · simp

theorem fc_end {text : Array Nat} {s : Nat} (h : text.size ≤ s) : ∀ f, Re.firstClose text text.size f s = none := by
  intro f
  cases q : Re.firstClose text text.size f s with
  | none => rfl
  | some p => obtain ⟨p, n⟩ := p; have := firstClose_bound _ _ _ _ q; omega
def allNone (t : List Nat) : Prop := ∀ j, j < t.length → locNone (t.drop j) = true
theorem fc_skip {text : Array Nat} {rest : List Nat} : ∀ (r : List Nat) (s f : Nat), text.toList.drop s = r ++ rest → allNone r → f + s = text.size + 1 →
    Re.firstClose text text.size f s = Re.firstClose text text.size (f - r.length) (s + r.length)
  | [], s, f, _, _, _ => rfl
  | a :: r, s, f, h, hn, hf => by
    have hl := len_drop text s
    rw [h] at hl
    simp only [List.length_append, List.length_cons] at hl
    obtain ⟨f, rfl⟩ : ∃ g, f = g + 1 := ⟨f - 1, by omega⟩
    have e : Re.closeLen text text.size s = none := none_of h (hn 0 (by simp))
    show (match Re.closeLen text text.size s with | some n => some (s, n) | none => Re.firstClose text text.size f (s + 1)) = _
    rw [e]
    show Re.firstClose text text.size f (s + 1) = _
    have h2 : text.toList.drop (s + 1) = r ++ rest := by
      rw [← List.drop_drop, h]; rfl
    rw [fc_skip r (s + 1) f h2 (fun j hj => by have := hn (j + 1) (by simp; omega); simpa using this) (by omega)]
    simp only [List.length_cons]
    rw [show f + 1 - (r.length + 1) = f - r.length by omega, show s + 1 + r.length = s + (r.length + 1) by omega]

def chkNone (t : List Nat) : Bool := (List.range t.length).all fun j => locNone (t.drop j)
def chkTail (t : List Nat) : Bool := (List.range t.length).all fun j => j == 0 || locNone (t.drop j)
theorem none_opens : (URLS.all fun u => PARAMS.all fun p => ENDS.all fun t => chkNone (oTxt ⟨u, p, t⟩).cps.toList) = true := by decide +kernel
theorem tail_closes : (ENDS.all fun t => isClose (Pc.text (.cls t)).cps.toList && chkTail (Pc.text (.cls t)).cps.toList) = true := by decide +kernel
theorem none_others : ([Pc.ab, .sp, .bad, .sgr, .title].all fun x => chkNone x.text.cps.toList) = true := by decide +kernel
theorem chk_none {t : List Nat} (h : chkNone t = true) : allNone t := fun j hj => List.all_eq_true.mp h j (List.mem_range.mpr hj)
theorem none_pc {x : Pc} (h : x.ok) (hc : x.isCls = false) : allNone x.text.cps.toList := by
  have ho : ∀ y ∈ [Pc.ab, .sp, .bad, .sgr, .title], allNone y.text.cps.toList := fun y hy => chk_none (List.all_eq_true.mp none_others y hy)
  cases x with
  | ab => exact ho _ (by simp)
  | sp => exact ho _ (by simp)
  | opn k => exact chk_none (List.all_eq_true.mp (List.all_eq_true.mp (List.all_eq_true.mp none_opens k.u h.1) k.p h.2.1) k.t h.2.2)
  | cls e => cases hc
  | bad => exact ho _ (by simp)
  | sgr => exact ho _ (by simp)
  | title => exact ho _ (by simp)
theorem tail_pc {x : Pc} (h : x.ok) {j : Nat} (hj : 0 < j ∨ x.isCls = false) : allNone (x.text.cps.toList.drop j) := by
  intro i hi
  rw [List.length_drop] at hi
  rw [List.drop_drop]
  cases hc : x.isCls with
  | false => exact none_pc h hc (j + i) (by omega)
  | true =>
    have hj : 0 < j := by rcases hj with h | h; exact h; rw [h] at hc; cases hc
    cases x <;> first | (cases hc; done) | skip
    rename_i e
    have := List.all_eq_true.mp tail_closes e h
    rw [Bool.and_eq_true] at this
    have := List.all_eq_true.mp this.2 (j + i) (List.mem_range.mpr (by omega))
    rw [Bool.or_eq_true, beq_iff_eq] at this
    rcases this with h | h
    · omega
    · exact h
theorem cls_pc {x : Pc} (h : x.ok) (hc : x.isCls = true) : isClose x.text.cps.toList = true := by
  cases x <;> first | (cases hc; done) | skip
  rename_i e
  have := List.all_eq_true.mp tail_closes e h
  rw [Bool.and_eq_true] at this
  exact this.1

theorem found_keep (k : Nat) (v : Nat × Nat) : ∀ (ps : List Pc) (o : Nat), (ps.foldl (stepF k) (o, some v)).2 = some v
  | [], o => rfl
  | x :: ps, o => by
    rw [List.foldl_cons]
    have : stepF k (o, some v) x = (o + x.text.length, some v) := by
      unfold stepF
      simp
    rw [this]
    exact found_keep k v ps _

def endOf : Option (Nat × Nat) → Option (Nat × Nat)
  | some (p, n) => some (p, p + n)
  | none => none
theorem find_gen {text : Array Nat} {k : Nat} : ∀ (ps : List Pc) (o : Nat), (∀ x ∈ ps, x.ok) → text.toList.drop o = flat (ps.flatMap Pc.toks) →
    (ps.foldl (stepF k) (o, none)).2 = endOf (Re.firstClose text text.size (text.size + 1 - max o k) (max o k))
  | [], o, _, h => by
    have hl := len_drop text o
    rw [h] at hl
    have : text.size ≤ o := by
      have : (flat (([] : List Pc).flatMap Pc.toks)).length = 0 := rfl
      omega
    rw [fc_end (by omega)]
    rfl
  | x :: ps, o, hok, h => by
    have hx := hok x (List.mem_cons_self ..)
    have hlen : x.text.length = x.text.cps.toList.length := by simp [Str.length]
    have h1 : text.toList.drop o = x.text.cps.toList ++ flat (ps.flatMap Pc.toks) := by
      rw [h, List.flatMap_cons]
      unfold flat
      rw [List.flatMap_append]
      congr 1
      exact toks_flat x
    have hl := len_drop text o
    rw [h1, List.length_append, ← hlen] at hl
    have h2 : text.toList.drop (o + x.text.length) = flat (ps.flatMap Pc.toks) := by
      rw [← List.drop_drop, h1, hlen, List.drop_left]
    have ih := find_gen (k := k) ps (o + x.text.length) (fun y hy => hok y (List.mem_cons_of_mem _ hy)) h2
    rw [List.foldl_cons]
    by_cases hc : x.isCls = true ∧ k ≤ o
    · have e : stepF k (o, none) x = (o + x.text.length, some (o, o + x.text.length)) := by
        unfold stepF
        simp [hc.1, hc.2]
      rw [e, found_keep]
      rw [show max o k = o by omega]
      have hs := some_of h1 (cls_pc hx hc.1)
      have hbd := closeLen_some hs
      obtain ⟨f, hf⟩ : ∃ g, text.size + 1 - o = g + 1 := ⟨text.size - o, by omega⟩
      rw [hf]
      unfold Re.firstClose
      rw [hs, ← hlen]
      rfl
    · have e : stepF k (o, none) x = (o + x.text.length, none) := by
        unfold stepF
        rw [if_neg]
        intro hh
        simp only [Bool.and_eq_true, decide_eq_true_eq] at hh
        exact hc ⟨hh.1.1, hh.1.2⟩
      rw [e, ih]
      congr 1
      by_cases hk : o + x.text.length ≤ k
      · rw [show max (o + x.text.length) k = k by omega, show max o k = k by omega]
      · have hm : max o k < o + x.text.length := by
          by_cases hz : 0 < x.text.length
          · omega
          · exfalso
            have : x.text.length = 0 := by omega
            cases x <;> first | (revert this; decide) | skip
            · rename_i q
              have := List.all_eq_true.mp (List.all_eq_true.mp (List.all_eq_true.mp chk_opens q.u hx.1) q.p hx.2.1) q.t hx.2.2
              have : 2 ≤ (Pc.opn q).text.cps.toList.length := (seq_ok this).len
              omega
            · rename_i q
              have := List.all_eq_true.mp chk_closes q hx
              have : 2 ≤ (Pc.cls q).text.cps.toList.length := (seq_ok this).len
              omega
        have hj : 0 < max o k - o ∨ x.isCls = false := by
          cases hcl : x.isCls with
          | false => exact .inr rfl
          | true =>
            have : ¬ k ≤ o := fun hk => hc ⟨hcl, hk⟩
            exact .inl (by omega)
        have hmo : o ≤ max o k := by omega
        rw [show max (o + x.text.length) k = o + x.text.length by omega]
        generalize max o k = m at *
        have h3 : text.toList.drop m = x.text.cps.toList.drop (m - o) ++ flat (ps.flatMap Pc.toks) := by
          rw [show m = o + (m - o) by omega, ← List.drop_drop, h1, List.drop_append_of_le_length (by omega)]
          congr 2
          omega
        have := fc_skip _ m (text.size + 1 - m) h3 (tail_pc hx hj) (by omega)
        rw [this, List.length_drop, ← hlen]
        congr 1 <;> omega
theorem pf_find (ps : List Pc) (hok : ∀ x ∈ ps, x.ok) (k : Nat) : closeAV (rowOf ps) k = fAV (foundP k ps).2 := by
  have h := find_gen (text := (rowOf ps).cps) (k := k) ps 0 hok (by rw [List.drop_zero]; exact row_flat ps)
  unfold foundP
  rw [h, show max 0 k = k by omega]
  unfold closeAV
  cases Re.firstClose (rowOf ps).cps (rowOf ps).cps.size ((rowOf ps).cps.size + 1 - k) k with
  | none => rfl
  | some q => rfl
end Mine
end

-- part W75
section
open PySem PySem.W PyProof.Rows
set_option Elab.async false
set_option linter.unusedVariables false
set_option maxRecDepth 100000
namespace Mine

noncomputable def effT (t : Str) (st : AV) : AV := if isMatched (runFull t).outcome then
    (match spansOf 3 (runFull t) with
    | [.ofNat b1, .ofNat e1, .ofNat b2, .ofNat e2, .ofNat b3, .ofNat e3] =>
      if (((⟨t.cps.extract b2 e2⟩ : Str).length : Int) != 0) then .link ⟨t.cps.extract b2 e2⟩ ⟨t.cps.extract b1 e1⟩ ⟨t.cps.extract b3 e3⟩ else if stC t then .none else st
    | _ => st) else st
theorem effT_yes {t u p tm : Str} (F : FullYes t u p tm 400 (runFull t)) : effT t = fun st => if ((u.length : Int) != 0) then .link u p tm else if stC t then .none else st := by
  funext st
  obtain ⟨b1, e1, b2, e2, b3, e3, hg, rfl, rfl, rfl⟩ := F.g
  unfold effT
  rw [F.out, hg]
  rfl
theorem effT_no {t : Str} (h : (runFull t).outcome = some .failed) : effT t = id := by
  funext st
  unfold effT
  rw [h]
  rfl
theorem str_eta (x : Str) : (⟨x.cps.toList.toArray⟩ : Str) = x := by cases x; simp
theorem stC_tab : (ENDS.all fun e => stC (Pc.text (.cls e))) = true ∧ stC (Pc.text .bad) = false ∧ stC (Pc.text .sgr) = false ∧ stC (Pc.text .title) = false := by decide +kernel
theorem urls_ne : (URLS.all fun u => ((u.length : Int) != 0)) = true := by decide +kernel

theorem trk_pc {x : Pc} (h : x.ok) (hn : x ≠ .ab ∧ x ≠ .sp) : Trk x.text (effT x.text) := by
  obtain ⟨s1, s2, s3, s4⟩ := stC_tab
  cases x with
  | ab => exact absurd rfl hn.1
  | sp => exact absurd rfl hn.2
  | opn k =>
    have F := yes_pc (x := .opn k) h rfl
    have hu := List.all_eq_true.mp urls_ne k.u h.1
    rw [effT_yes F]
    simp only [hu, if_true]
    exact .link F hu
  | cls e =>
    have F := yes_pc (x := .cls e) h rfl
    have hs := List.all_eq_true.mp s1 e h
    rw [effT_yes F]
    simp only [hs, if_true]
    exact .close F rfl hs
  | bad =>
    have F := yes_pc (x := .bad) h rfl
    rw [effT_yes F]
    simp only [s2]
    exact .skip F rfl s2
  | sgr => rw [effT_no (no_pc (x := .sgr) rfl)]; exact .no rfl (by decide) (no_pc (x := .sgr) rfl) s3
  | title => rw [effT_no (no_pc (x := .title) rfl)]; exact .no rfl (by decide) (no_pc (x := .title) rfl) s4
def stepT (f : Str → AV → AV) (s : AV) : Tok' → AV
  | .sq t => f ⟨t.toArray⟩ s
  | .pl _ => s
theorem track_segs (f : Str → AV → AV) : ∀ (ts : List Tok') (buf : List Nat) (st : AV), trackP f st ((segs buf ts).map toIt) = ts.foldl (stepT f) st
  | [], [], st => rfl
  | [], c :: b, st => rfl
  | .pl c :: r, b, st => by
    have e : segs b (.pl c :: r) = segs (b ++ [c]) r := by cases b <;> rfl
    rw [e, track_segs f r]
    rfl
  | .sq t :: r, [], st => by
    show trackP f (f ⟨t.toArray⟩ st) ((segs [] r).map toIt) = _
    rw [track_segs f r]
    rfl
  | .sq t :: r, c :: b, st => by
    show trackP f (f ⟨t.toArray⟩ st) ((segs [] r).map toIt) = _
    rw [track_segs f r]
    rfl
theorem step_pc {x : Pc} (h : x.ok) (st : Option Lk) : x.toks.foldl (stepT effT) (lnk st) = lnk (stepO st x) := by
  obtain ⟨s1, s2, s3, s4⟩ := stC_tab
  cases x with
  | ab => rfl
  | sp => rfl
  | opn k =>
    have F := yes_pc (x := .opn k) h rfl
    have hu := List.all_eq_true.mp urls_ne k.u h.1
    show effT ⟨(Pc.opn k).text.cps.toList.toArray⟩ (lnk st) = _
    rw [str_eta, effT_yes F]
    simp only [hu, if_true]
    rfl
  | cls e =>
    have F := yes_pc (x := .cls e) h rfl
    have hs := List.all_eq_true.mp s1 e h
    show effT ⟨(Pc.cls e).text.cps.toList.toArray⟩ (lnk st) = _
    rw [str_eta, effT_yes F]
    simp only [hs, if_true]
    rfl
  | bad =>
    have F := yes_pc (x := .bad) h rfl
    show effT ⟨Pc.bad.text.cps.toList.toArray⟩ (lnk st) = _
    rw [str_eta, effT_yes F]
    simp only [s2]
    rfl
  | sgr =>
    show effT ⟨Pc.sgr.text.cps.toList.toArray⟩ (lnk st) = _
    rw [str_eta, effT_no (no_pc (x := .sgr) rfl)]
    rfl
  | title =>
    show effT ⟨Pc.title.text.cps.toList.toArray⟩ (lnk st) = _
    rw [str_eta, effT_no (no_pc (x := .title) rfl)]
    rfl
theorem seg_mem : ∀ (ts : List Tok') (buf l : List Nat), (l, true) ∈ segs buf ts → Tok'.sq l ∈ ts
  | [], [], l, h => by cases h
  | [], c :: b, l, h => by cases List.mem_singleton.mp h
  | .pl c :: r, b, l, h => by
    have e : segs b (.pl c :: r) = segs (b ++ [c]) r := by cases b <;> rfl
    rw [e] at h
    exact List.mem_cons_of_mem _ (seg_mem r _ l h)
  | .sq t :: r, [], l, h => by
    rcases List.mem_cons.mp h with h | h
    · cases h; exact List.mem_cons_self ..
    · exact List.mem_cons_of_mem _ (seg_mem r _ l h)
  | .sq t :: r, c :: b, l, h => by
    rcases List.mem_cons.mp h with h | h
    · cases h
    · rcases List.mem_cons.mp h with h | h
      · cases h; exact List.mem_cons_self ..
      · exact List.mem_cons_of_mem _ (seg_mem r _ l h)
theorem sq_pc {x : Pc} {l : List Nat} (h : Tok'.sq l ∈ x.toks) : l = x.text.cps.toList ∧ x ≠ .ab ∧ x ≠ .sp := by
  cases x with
  | ab => rcases List.mem_cons.mp h with h | h <;> first | (cases h; done) | cases List.mem_singleton.mp h
  | sp => cases List.mem_singleton.mp h
  | _ => cases List.mem_singleton.mp h; exact ⟨rfl, by simp, by simp⟩
theorem pf_trk (ps : List Pc) (hok : ∀ x ∈ ps, x.ok) (hl : ps.length ≤ 9) : TrackOk (rowOf ps) fun st => afterO st ps := by
  have hsz : (rowOf ps).cps.size ≤ 4000000 := Nat.le_trans (row_len hok hl) (by decide)
  refine ⟨hsz, (segs [] (ps.flatMap Pc.toks)).map toIt, effT, ?_, ?_, ?_⟩
  · have := sg_of hsz (ps.flatMap Pc.toks) [] [] (row_flat ps) (fun t ht => by
      obtain ⟨x, hx, ht⟩ := List.mem_flatMap.mp ht
      exact toks_ok (hok x hx) t ht)
    rw [List.map_map]
    exact this
  · intro it hit hb
    obtain ⟨⟨l, b⟩, hm, rfl⟩ := List.mem_map.mp hit
    cases (show b = true from hb)
    obtain ⟨x, hx, ht⟩ := List.mem_flatMap.mp (seg_mem _ _ _ hm)
    obtain ⟨rfl, hn⟩ := sq_pc ht
    show Trk ⟨x.text.cps.toList.toArray⟩ (effT ⟨x.text.cps.toList.toArray⟩) ∧ (⟨x.text.cps.toList.toArray⟩ : Str).cps.size ≤ _
    rw [str_eta]
    exact ⟨trk_pc (hok x hx) hn, Pc.size (hok x hx)⟩
  · intro st
    rw [track_segs]
    show _ = lnk (ps.foldl stepO st)
    have : ∀ (qs : List Pc), (∀ x ∈ qs, x.ok) → ∀ st, (qs.flatMap Pc.toks).foldl (stepT effT) (lnk st) = lnk (qs.foldl stepO st) := by
      intro qs
      induction qs with
      | nil => intro _ st; rfl
      | cons x qs ih =>
        intro h st
        rw [List.flatMap_cons, List.foldl_append, step_pc (h x (List.mem_cons_self ..)), ih (fun y hy => h y (List.mem_cons_of_mem _ hy)), List.foldl_cons]
    exact this ps hok st
end Mine
end

-- part W76
section
open PySem PySem.W PyProof.Rows
set_option Elab.async false
set_option linter.unusedVariables false
set_option maxRecDepth 100000
namespace Mine

/-- the last place where P holds, counted from k -/
def lastF {α : Type} (P : α → Bool) (l : List α) (k : Nat) (a : Int) : Int := (l.zipIdx k).foldl (fun a q => if P q.1 then (q.2 : Int) else a) a
theorem lastF_cons {α : Type} (P : α → Bool) (x : α) (l : List α) (k : Nat) (a : Int) : lastF P (x :: l) k a = lastF P l (k + 1) (if P x then (k : Int) else a) := rfl
theorem lastF_spec {α : Type} (P : α → Bool) : ∀ (l : List α) (k : Nat) (a : Int), (l.any P = true → (k : Int) ≤ lastF P l k a) ∧ (l.any P = false → lastF P l k a = a)
  | [], k, a => ⟨(by intro h; cases h), fun _ => rfl⟩
  | x :: l, k, a => by
    obtain ⟨h1, h2⟩ := lastF_spec P l (k + 1) (if P x then (k : Int) else a)
    rw [lastF_cons, List.any_cons]
    cases hl : l.any P with
    | true =>
      refine ⟨fun _ => ?_, fun h => ?_⟩
      · have := h1 hl; omega
      · rw [Bool.or_true] at h; cases h
    | false =>
      rw [h2 hl, Bool.or_false]
      refine ⟨fun h => ?_, fun h => ?_⟩
      · rw [if_pos h]; exact Int.le_refl _
      · rw [h]; rfl

def resR : List (Str × Bool) → List Str
  | [] => []
  | p :: r => if r.any visAt then p.1 :: resR r else if visAt p then Txt.rstrip p.1 :: resR r else if p.2 then p.1 :: resR r else resR r
theorem resR_cons (p : Str × Bool) (r : List (Str × Bool)) : resR (p :: r) = if r.any visAt then p.1 :: resR r else if visAt p then Txt.rstrip p.1 :: resR r else if p.2 then p.1 :: resR r else resR r := rfl
theorem resR_eq : ∀ (l : List (Str × Bool)) (k : Nat) (a : Int), a < k → (l.zipIdx k).filterMap (pick (lastF visAt l k a)) = resR l
  | [], k, a, _ => rfl
  | p :: r, k, a, h => by
    rw [lastF_cons, List.zipIdx_cons, List.filterMap_cons, resR_eq r (k + 1) (if visAt p then (k : Int) else a) (by split <;> omega)]
    obtain ⟨h1, h2⟩ := lastF_spec visAt r (k + 1) (if visAt p then (k : Int) else a)
    rw [resR_cons]
    unfold pick
    cases hr : r.any visAt with
    | true =>
      have := h1 hr
      rw [if_pos (decide_eq_true (by show (k : Int) < _; omega))]
      rfl
    | false =>
      rw [h2 hr]
      cases hp : visAt p with
      | true => simp
      | false =>
        have e1 : ¬ (k : Int) < a := by omega
        have e2 : ¬ (k : Int) = a := by omega
        simp [e1, e2]
        split <;> simp_all
theorem rstripP_eq (its : List (Str × Bool)) : rstripP its = if its.any visAt then Txt.join (Str.ofString "") (resR its) else Str.ofString "" := by
  obtain ⟨h1, h2⟩ := lastF_spec visAt its 0 (-1)
  have e : lastV its = lastF visAt its 0 (-1) := rfl
  have er : resV (lastV its) its = resR its := resR_eq its 0 (-1) (by decide)
  unfold rstripP
  rw [er]
  cases hr : its.any visAt with
  | true =>
    have := h1 hr
    rw [← e] at this
    rw [if_neg (by rw [beq_iff_eq]; omega), if_pos rfl]
  | false =>
    have := h2 hr
    rw [← e] at this
    rw [this]
    rfl

def isS (x : Str × Str) : Bool := x.2 == sS
def resB : List (Str × Str) → List Str
  | [] => []
  | x :: r => if (isS x || r.any isS) || x.2 == sQ then x.1 :: resB r else resB r
theorem resB_cons (x : Str × Str) (r : List (Str × Str)) : resB (x :: r) = if (isS x || r.any isS) || x.2 == sQ then x.1 :: resB r else resB r := rfl
theorem resB_eq : ∀ (l : List (Str × Str)) (k : Nat) (a : Int), a < k → (l.zipIdx k).filterMap (pickB (lastF isS l k a)) = resB l
  | [], k, a, _ => rfl
  | p :: r, k, a, h => by
    rw [lastF_cons, List.zipIdx_cons, List.filterMap_cons, resB_eq r (k + 1) (if isS p then (k : Int) else a) (by split <;> omega)]
    obtain ⟨h1, h2⟩ := lastF_spec isS r (k + 1) (if isS p then (k : Int) else a)
    rw [resB_cons]
    unfold pickB
    cases hr : r.any isS with
    | true =>
      have := h1 hr
      rw [show decide ((k : Int) ≤ lastF isS r (k + 1) (if isS p then (k : Int) else a)) = true from decide_eq_true (by omega)]
      simp
    | false =>
      rw [h2 hr]
      cases hp : isS p with
      | true => simp
      | false =>
        have e1 : ¬ (k : Int) ≤ a := by omega
        simp [e1]
        split <;> simp_all
theorem bareP_eq (line : List (Str × Str)) : bareP line = if line.any isS then Txt.join (Str.ofString "") (resB line) else Str.ofString "" := by
  obtain ⟨h1, h2⟩ := lastF_spec isS line 0 (-1)
  have e : lastB line = lastF isS line 0 (-1) := rfl
  have er : line.zipIdx.filterMap (pickB (lastB line)) = resB line := resB_eq line 0 (-1) (by decide)
  unfold bareP
  rw [er]
  cases hr : line.any isS with
  | true =>
    have := h1 hr
    rw [← e] at this
    rw [if_neg (by rw [decide_eq_true_eq]; omega), if_pos rfl]
  | false =>
    have := h2 hr
    rw [← e] at this
    rw [this]
    rfl

/-- trailing blanks cut away -/
def cutL (l : List Nat) : List Nat := (l.reverse.dropWhile Unicode.isSpace).reverse
theorem rstrip_cut (l : List Nat) : (Txt.rstrip ⟨l.toArray⟩).cps.toList = cutL l := by
  have key : l.take (l.length - (l.reverse.takeWhile Unicode.isSpace).length) = cutL l := by
    have h := List.takeWhile_append_dropWhile (p := Unicode.isSpace) (l := l.reverse)
    have h2 : l = (l.reverse.dropWhile Unicode.isSpace).reverse ++ (l.reverse.takeWhile Unicode.isSpace).reverse := by
      rw [← List.reverse_append, h, List.reverse_reverse]
    unfold cutL
    have hlen : l.length - (l.reverse.takeWhile Unicode.isSpace).length = ((l.reverse.dropWhile Unicode.isSpace).reverse).length := by
      have := congrArg List.length h2
      simp only [List.length_append, List.length_reverse] at this ⊢
      omega
    rw [hlen]
    conv => lhs; rw [h2]
    rw [List.reverse_append, List.reverse_reverse, List.reverse_reverse, h]
    exact List.take_left
  have e : Txt.rstrip ⟨l.toArray⟩ = Builtin.Str.strSub ⟨l.toArray⟩ 0 (l.length - (l.reverse.takeWhile Unicode.isSpace).length) := by
    have hh : stripHi Unicode.isSpace true ⟨l.toArray⟩ 0 = l.length - (l.reverse.takeWhile Unicode.isSpace).length := by
      show (⟨l.toArray⟩ : Str).length - ((l.toArray.toList.drop 0).reverse.takeWhile Unicode.isSpace).length = _
      simp [Str.length]
    unfold Txt.rstrip Txt.stripBy
    split
    · rename_i h
      simp only [stripSame, Bool.and_eq_true, beq_iff_eq] at h
      have h2 := h.2
      rw [h.1, hh] at h2
      rw [h2]
      show _ = (⟨l.toArray.extract 0 l.toArray.size⟩ : Str)
      simp
    · show Builtin.Str.strSub ⟨l.toArray⟩ 0 (stripHi Unicode.isSpace true ⟨l.toArray⟩ 0) = _
      rw [hh]
  rw [e]
  show (l.toArray.extract 0 _).toList = _
  rw [Array.toList_extract]
  simpa using key
theorem cut_snoc_space (l : List Nat) (c : Nat) (h : Unicode.isSpace c = true) : cutL (l ++ [c]) = cutL l := by
  unfold cutL
  rw [List.reverse_append, List.reverse_singleton, List.singleton_append, List.dropWhile_cons_of_pos h]
theorem cut_snoc_vis (l : List Nat) (c : Nat) (h : Unicode.isSpace c = false) : cutL (l ++ [c]) = l ++ [c] := by
  unfold cutL
  rw [List.reverse_append, List.reverse_singleton, List.singleton_append, List.dropWhile_cons_of_neg (by rw [h]; decide)]
  simp
def visC (c : Nat) : Bool := !Unicode.isSpace c
def vis : Tok' → Bool
  | .pl c => visC c
  | .sq _ => false
theorem cut_any (l : List Nat) : (((cutL l).length : Int) != 0) = l.any visC := by
  suffices h : ∀ r : List Nat, (((r.dropWhile Unicode.isSpace).length : Int) != 0) = r.any visC by
    have := h l.reverse
    unfold cutL
    rw [List.length_reverse, this, List.any_reverse]
  intro r
  induction r with
  | nil => rfl
  | cons c r ih =>
    rw [List.any_cons]
    cases hc : Unicode.isSpace c with
    | true => rw [List.dropWhile_cons_of_pos hc, ih]; simp [visC, hc]
    | false =>
      rw [List.dropWhile_cons_of_neg (by rw [hc]; decide)]
      simp [visC, hc]
      omega
theorem vis_seg (l : List Nat) (b : Bool) : visAt (toIt (l, b)) = (!b && l.any visC) := by
  unfold visAt toIt
  rw [← cut_any, ← rstrip_cut]
  have : ((Txt.rstrip ⟨l.toArray⟩).cps.toList).length = (Txt.rstrip ⟨l.toArray⟩).length := by simp [Str.length]
  rw [this]
theorem any_segs : ∀ (ts : List Tok') (buf : List Nat), ((segs buf ts).map toIt).any visAt = (buf.any visC || ts.any vis)
  | [], [] => rfl
  | [], c :: b => by
    show (visAt (toIt (c :: b, false)) || false) = _
    rw [vis_seg]; simp
  | .pl c :: r, b => by
    have e : segs b (.pl c :: r) = segs (b ++ [c]) r := by cases b <;> rfl
    rw [e, any_segs r]
    simp [vis, Bool.or_assoc]
  | .sq t :: r, [] => by
    show (visAt (toIt (t, true)) || ((segs [] r).map toIt).any visAt) = _
    rw [vis_seg, any_segs r]; simp [vis]
  | .sq t :: r, c :: b => by
    show (visAt (toIt (c :: b, false)) || (visAt (toIt (t, true)) || ((segs [] r).map toIt).any visAt)) = _
    rw [vis_seg, vis_seg, any_segs r]; simp [vis]
def bs : List Tok' → List Nat
  | [] => []
  | .sq t :: r => t ++ bs r
  | .pl c :: r => if visC c || r.any vis then c :: bs r else bs r
theorem cut_nil {l : List Nat} (h : l.any visC = false) : cutL l = [] := by
  have := cut_any l
  rw [h] at this
  cases q : cutL l with
  | nil => rfl
  | cons a r => rw [q] at this; simp at this; omega
theorem res_segs : ∀ (ts : List Tok') (buf : List Nat), (resR ((segs buf ts).map toIt)).flatMap (·.cps.toList) = (if ts.any vis then buf else cutL buf) ++ bs ts
  | [], [] => rfl
  | [], c :: b => by
    show (resR [toIt (c :: b, false)]).flatMap _ = _
    rw [resR_cons, vis_seg]
    cases h : (c :: b).any visC with
    | true => simp [resR, bs, toIt, rstrip_cut]
    | false => rw [cut_nil h]; simp [resR, bs, toIt]
  | .pl c :: r, b => by
    have e : segs b (.pl c :: r) = segs (b ++ [c]) r := by cases b <;> rfl
    rw [e, res_segs r, List.any_cons, show bs (.pl c :: r) = if visC c || r.any vis then c :: bs r else bs r from rfl]
    cases hr : r.any vis with
    | true => simp [vis]
    | false =>
      cases hc : Unicode.isSpace c with
      | true => rw [cut_snoc_space _ _ hc]; simp [vis, visC, hc]
      | false => rw [cut_snoc_vis _ _ hc]; simp [vis, visC, hc]
  | .sq t :: r, [] => by
    show (resR (toIt (t, true) :: (segs [] r).map toIt)).flatMap _ = _ ++ (t ++ bs r)
    rw [resR_cons, vis_seg]
    have e : (toIt (t, true)).1.cps.toList = t := by simp [toIt]
    have ih := res_segs r []
    have c0 : cutL [] = [] := rfl
    rw [c0] at ih ⊢
    simp only [ite_self, List.nil_append] at ih ⊢
    simp only [Bool.not_true, Bool.false_and, Bool.false_eq_true, if_false]
    have : (toIt (t, true)).2 = true := rfl
    rw [this, if_pos rfl, ite_self, List.flatMap_cons, ih, e]
  | .sq t :: r, c :: b => by
    show (resR (toIt (c :: b, false) :: toIt (t, true) :: (segs [] r).map toIt)).flatMap _ = _
    have ih := res_segs r []
    have c0 : cutL [] = [] := rfl
    rw [c0] at ih
    simp only [ite_self, List.nil_append] at ih
    have e : (toIt (t, true)).1.cps.toList = t := by simp [toIt]
    have e2 : (toIt (c :: b, false)).1.cps.toList = c :: b := by simp [toIt]
    have h1 : (resR (toIt (t, true) :: (segs [] r).map toIt)).flatMap (·.cps.toList) = t ++ bs r := by
      rw [resR_cons, vis_seg]
      simp only [Bool.not_true, Bool.false_and, Bool.false_eq_true, if_false]
      have : (toIt (t, true)).2 = true := rfl
      rw [this, if_pos rfl, ite_self, List.flatMap_cons, ih, e]
    have h2 : (toIt (t, true) :: (segs [] r).map toIt).any visAt = r.any vis := by
      rw [List.any_cons, vis_seg, any_segs]; simp
    rw [resR_cons, h2, vis_seg]
    have h3 : (Tok'.sq t :: r).any vis = r.any vis := by simp [vis]
    rw [h3]
    show _ = _ ++ (t ++ bs r)
    cases hr : r.any vis with
    | true => rw [if_pos rfl, if_pos rfl, List.flatMap_cons, h1, e2]
    | false =>
      cases hb : (c :: b).any visC with
      | true =>
        simp only [Bool.false_eq_true, if_false, Bool.not_false, Bool.and_self, if_true]
        rw [List.flatMap_cons, h1]
        congr 1
        exact rstrip_cut _
      | false =>
        rw [cut_nil hb]
        simp only [Bool.false_eq_true, if_false, Bool.not_false, Bool.and_false]
        rw [show (toIt (c :: b, false)).2 = false from rfl]
        simp only [Bool.false_eq_true, if_false]
        rw [h1]; rfl

/-- the parts that the law's line is made of -/
def LITEMS : List (Str × Str) := [(Str.ofString "a", sS), (Str.ofString "中", sS), (Str.ofString "\u001b[0m", sQ)] ++ BLANKS.map fun b => (b, sB)
theorem stepL_item (i : Nat) (q : DS) : (stepL i q).1 ∈ LITEMS := by
  unfold stepL
  split
  · split
    · exact List.mem_append_left _ (by simp)
    · exact List.mem_append_left _ (by simp)
  · split
    · exact List.mem_append_left _ (by simp)
    · refine List.mem_append_right _ (List.mem_map.mpr ⟨_, nth_mem (modb (by decide)).1 ?_, rfl⟩)
      have := (modb (a := dv (dn q)) (m := 3) (by decide)).2
      exact this
theorem lnP_mem (p : DS) : ∀ i, ∀ x ∈ (lnP i p).1, x ∈ LITEMS
  | 0, x, h => by cases h
  | i + 1, x, h => by
    rw [lnP_succ] at h
    rcases List.mem_append.mp h with h | h
    · exact lnP_mem p i x h
    · rw [List.mem_singleton.mp h]; exact stepL_item _ _
def tokL (x : Str × Str) : Tok' := if x.2 == sQ then .sq x.1.cps.toList else .pl (x.1.cps.toList.getD 0 0)
def okT : Tok' → Bool
  | .pl c => !(c == 27)
  | .sq t => seqChk t
theorem ok_T {t : Tok'} (h : okT t = true) : TokOk t := by
  cases t with
  | pl c => show c ≠ 27; simpa [okT] using h
  | sq t => exact seq_ok h
theorem items_chk : (LITEMS.all fun x => (tokL x).cps == x.1.cps.toList && vis (tokL x) == isS x && okT (tokL x) && decide (x.1.length ≤ 4) && decide (2 ≤ x.1.length ∨ (x.2 == sQ) = false)) = true := by decide +kernel
structure ItemOk (x : Str × Str) : Prop where
  cps : (tokL x).cps = x.1.cps.toList
  vis : vis (tokL x) = isS x
  ok : TokOk (tokL x)
  len : x.1.length ≤ 4
theorem item_ok {x : Str × Str} (h : x ∈ LITEMS) : ItemOk x := by
  have := List.all_eq_true.mp items_chk x h
  simp only [Bool.and_eq_true, beq_iff_eq, decide_eq_true_eq] at this
  obtain ⟨⟨⟨⟨h1, h2⟩, h3⟩, h4⟩, _⟩ := this
  exact ⟨h1, h2, ok_T h3, h4⟩
theorem any_line : ∀ (line : List (Str × Str)), (∀ x ∈ line, ItemOk x) → (line.map tokL).any vis = line.any isS
  | [], _ => rfl
  | x :: r, h => by
    rw [List.map_cons, List.any_cons, List.any_cons, (h x (List.mem_cons_self ..)).vis, any_line r fun y hy => h y (List.mem_cons_of_mem _ hy)]
theorem flat_line : ∀ (line : List (Str × Str)), (∀ x ∈ line, ItemOk x) → flat (line.map tokL) = (line.map (·.1)).flatMap (·.cps.toList)
  | [], _ => rfl
  | x :: r, h => by
    have ih := flat_line r fun y hy => h y (List.mem_cons_of_mem _ hy)
    unfold flat at *
    rw [List.map_cons, List.flatMap_cons, List.map_cons, List.flatMap_cons, ih, (h x (List.mem_cons_self ..)).cps]
theorem bs_line : ∀ (line : List (Str × Str)), (∀ x ∈ line, ItemOk x) → (resB line).flatMap (·.cps.toList) = bs (line.map tokL)
  | [], _ => rfl
  | x :: r, h => by
    have ih := bs_line r fun y hy => h y (List.mem_cons_of_mem _ hy)
    have ha := any_line r fun y hy => h y (List.mem_cons_of_mem _ hy)
    have hx := h x (List.mem_cons_self ..)
    have hc := hx.cps
    have hv := hx.vis
    rw [resB_cons, List.map_cons]
    cases hq : x.2 == sQ with
    | true =>
      have e : tokL x = .sq x.1.cps.toList := by unfold tokL; rw [hq]; rfl
      rw [e, Bool.or_true, if_pos rfl, List.flatMap_cons, ih]
      rfl
    | false =>
      have e : tokL x = .pl (x.1.cps.toList.getD 0 0) := by unfold tokL; rw [hq]; rfl
      rw [e] at hc hv ⊢
      rw [Bool.or_false]
      show _ = if visC _ || (r.map tokL).any vis then _ :: bs (r.map tokL) else bs (r.map tokL)
      rw [ha, show visC _ = isS x from hv]
      cases isS x || r.any isS with
      | true =>
        rw [if_pos rfl, if_pos rfl, List.flatMap_cons, ih, ← hc]
        rfl
      | false => exact ih
theorem seg_count : ∀ (ts : List Tok') (buf : List Nat), (segs buf ts).length ≤ 2 * ts.length + 1
  | [], [] => Nat.zero_le _
  | [], c :: b => Nat.le_refl _
  | .pl c :: r, b => by
    have e : segs b (.pl c :: r) = segs (b ++ [c]) r := by cases b <;> rfl
    have := seg_count r (b ++ [c])
    rw [e]; simp only [List.length_cons]; omega
  | .sq t :: r, [] => by
    have := seg_count r []
    show ((t, true) :: segs [] r).length ≤ _
    simp only [List.length_cons]; omega
  | .sq t :: r, c :: b => by
    have := seg_count r []
    show ((c :: b, false) :: (t, true) :: segs [] r).length ≤ _
    simp only [List.length_cons]; omega
theorem seg_len : ∀ (ts : List Tok') (buf : List Nat) (p : List Nat × Bool), p ∈ segs buf ts → p.1.length ≤ buf.length + (flat ts).length
  | [], [], p, h => by cases h
  | [], c :: b, p, h => by rw [List.mem_singleton.mp h]; exact Nat.le_add_right _ _
  | .pl c :: r, b, p, h => by
    have e : segs b (.pl c :: r) = segs (b ++ [c]) r := by cases b <;> rfl
    rw [e] at h
    have := seg_len r (b ++ [c]) p h
    have e2 : (flat (.pl c :: r)).length = 1 + (flat r).length := by simp [flat, Tok'.cps]; omega
    simp only [List.length_append, List.length_cons, List.length_nil] at this
    omega
  | .sq t :: r, [], p, h => by
    have e2 : (flat (.sq t :: r)).length = t.length + (flat r).length := by simp [flat, Tok'.cps]
    rcases List.mem_cons.mp h with rfl | h
    · show t.length ≤ _; omega
    · have := seg_len r [] p h
      simp only [List.length_nil] at this ⊢
      omega
  | .sq t :: r, c :: b, p, h => by
    have e2 : (flat (.sq t :: r)).length = t.length + (flat r).length := by simp [flat, Tok'.cps]
    rcases List.mem_cons.mp h with rfl | h
    · show (c :: b).length ≤ _; omega
    · rcases List.mem_cons.mp h with rfl | h
      · show t.length ≤ _; omega
      · have := seg_len r [] p h
        simp only [List.length_nil] at this ⊢
        omega
theorem str_ext {x y : Str} (h : x.cps.toList = y.cps.toList) : x = y := by
  cases x; cases y
  congr 1
  exact Array.toList_inj.mp h
theorem res_mem {l : Int} {its : List (Str × Bool)} {x : Str} (h : x ∈ resV l its) : ∃ it ∈ its, x.length ≤ it.1.length := by
  unfold resV at h
  obtain ⟨⟨it, k⟩, hm, hp⟩ := List.mem_filterMap.mp h
  have hi : it ∈ its := (List.mem_zipIdx' hm).2 ▸ List.getElem_mem _
  refine ⟨it, hi, ?_⟩
  unfold pick at hp
  split at hp
  · cases hp; exact Nat.le_refl _
  · split at hp
    · cases hp; exact rstrip_le _
    · split at hp
      · cases hp; exact Nat.le_refl _
      · cases hp
theorem pf_line (n : Nat) (p : DS) (hn : n ≤ 7) : LineOk (lnP n p).1 := by
  have hi : ∀ x ∈ (lnP n p).1, ItemOk x := fun x hx => item_ok (lnP_mem p n x hx)
  have hl := lnP_len p n
  generalize (lnP n p).1 = line at hi hl
  have hcps : (lineText line).cps.toList = flat (line.map tokL) := by
    unfold lineText
    rw [join_flat, flat_line line hi]
  have hfl : ∀ ln : List (Str × Str), (∀ x ∈ ln, ItemOk x) → (flat (ln.map tokL)).length ≤ 4 * ln.length := by
    intro ln
    induction ln with
    | nil => intro _; exact Nat.le_refl _
    | cons x r ih =>
      intro h
      have := ih fun y hy => h y (List.mem_cons_of_mem _ hy)
      have hx := h x (List.mem_cons_self ..)
      have e : (tokL x).cps.length = x.1.length := by rw [hx.cps]; simp [Str.length]
      have := hx.len
      have e2 : (flat ((x :: r).map tokL)).length = (tokL x).cps.length + (flat (r.map tokL)).length := by simp [flat]
      simp only [List.length_cons]
      omega
  have hf := hfl line hi
  have hsz : (lineText line).cps.size ≤ 28 := by
    rw [size_of hcps]; omega
  have hseg : ∀ it ∈ (segs [] (line.map tokL)).map toIt, it.1.length ≤ 28 := by
    intro it h
    obtain ⟨q, hq, rfl⟩ := List.mem_map.mp h
    have := seg_len _ _ q hq
    have e : (toIt q).1.length = q.1.length := by simp [toIt, Str.length]
    rw [e]
    simp only [List.length_nil] at this
    omega
  have hcnt : ((segs [] (line.map tokL)).map toIt).length ≤ 15 := by
    have := seg_count (line.map tokL) []
    rw [List.length_map] at *
    omega
  refine ⟨by omega, (segs [] (line.map tokL)).map toIt, ?_, by omega, fun it h => by have := hseg it h; omega, ?_, ?_⟩
  · have := sg_of (x := lineText line) (by omega) (line.map tokL) [] [] hcps (fun t ht => by
      obtain ⟨x, hx, rfl⟩ := List.mem_map.mp ht
      exact (hi x hx).ok)
    rw [List.map_map]
    exact this
  · refine join_ok ?_ fun x hx => ?_
    · refine Nat.le_trans (List.length_filterMap_le _ _) ?_
      rw [List.length_zipIdx]; omega
    · obtain ⟨it, h1, h2⟩ := res_mem hx
      have := hseg it h1
      omega
  · rw [rstripP_eq, bareP_eq, any_segs, any_line line hi]
    simp only [List.any_nil, Bool.false_or]
    cases line.any isS with
    | false => rfl
    | true =>
      rw [if_pos rfl, if_pos rfl]
      apply str_ext
      rw [join_flat, join_flat, res_segs, bs_line line hi]
      have : cutL [] = [] := rfl
      rw [this]
      simp
end Mine
end

-- part W77
section
open PySem PySem.W PyProof.Rows
set_option Elab.async false
set_option linter.unusedVariables false
set_option maxRecDepth 100000
namespace Mine
theorem pf : PF := ⟨pf_trk, fun qs h hl => Nat.le_trans (row_len h hl) (by decide), fun qs h _ k _ => pf_find qs h k, fun n p hn => pf_line n p hn⟩
theorem law_all : PySem.Challenge.rw_ax6040_01.Holds := law_holds pf
end Mine
end

set_option maxRecDepth 100000 in
theorem PySem.Challenge.cw_ax6040_01_holds : PySem.Challenge.rw_ax6040_01.Holds :=
  Mine.law_all
