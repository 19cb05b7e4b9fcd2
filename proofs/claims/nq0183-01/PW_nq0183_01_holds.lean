import PyProof.Rows.All
import Wide.All
import OpenK.AllK
import Wide.FinOn
import Lean
import PySem.Challenge.RW_nq0183_01
section
open PySem PySem.W PyProof.Rows
set_option Elab.async false
namespace Mine
/-- the top's statements that the walk looks at -/
noncomputable def keptAt (l : List Stmt) : List Nat → List Stmt
  | [] => []
  | i :: r => match l[i]? with
    | some s => s :: keptAt l r
    | none => keptAt l r
noncomputable def view : Program := { PySem.Challenge.pw_nq0183_01 with main := { PySem.Challenge.pw_nq0183_01.main with body := keptAt PySem.Challenge.pw_nq0183_01.main.body [0, 2, 3, 4, 5, 6, 8, 9, 10, 11, 13, 14, 15, 16, 17, 18, 20, 21, 22, 23] } }
theorem wellSaid : PySem.Challenge.rw_nq0183_01.wellSaid = true := by kernel_rfl
set_option maxRecDepth 100000 in
noncomputable def headOf (H : Hook) (hl : LeftO PySem.Challenge.rw_nq0183_01.row.prog view [Str.ofString "_NodeInfo"] (fun s => xlAt view [] s && recOk [] s) (Hook.obs H) (Hook.val H) 3024) (hw : PySem.Challenge.rw_nq0183_01.row.toRowW.promised) :=
  holds_open (r := PySem.Challenge.rw_nq0183_01.row) (q := view) (loose := [Str.ofString "_NodeInfo"]) (Xt := fun s => xlAt view [] s && recOk [] s) (XP := XL view []) (Yf := Hook.obs H) (Ya := Hook.val H) (YP := Hook.says H) (N := 3024) hl (Hook.of H) (Hook.keeps H) (fun s e => xl_of s (Bool.and_eq_true_iff.mp e).1) XL.keeps (by rfl) (by rfl) (by rfl) (fun s e => recFacts_of (Bool.and_eq_true_iff.mp e).2) (by rfl) (row_said wellSaid) (by decide +kernel) ⟨rfl, rfl, rfl, rfl, rfl, by decide +kernel⟩ hw
local macro_rules
  | `(tactic| o_law) => `(tactic| refine holds_law wellSaid fun said => ?_)
local macro_rules
  | `(tactic| o_head $H) => `(tactic| (refine headOf $H ?hl ?hw ?hc; case hl => (intro w; kernel_rfl)))
set_option maxRecDepth 100000 in
set_option maxHeartbeats 8000000 in
open_top hd for PySem.Challenge.rw_nq0183_01
end Mine

end
section
open PySem PySem.W PySem.Calls PyProof.Rows
set_option Elab.async false
namespace Mine

/-! abstract values, objects, states -/
inductive AV where
  | none
  | bool (b : Bool)
  | int (i : Int)
  | ref (i : Nat)
  | li (l : List Int)
  | lli (l : List (List Int))
  | tup (l : List Int)
  | pr (k : Nat) (i : Int)
  | scr (a : Nat) (l : List Int)

inductive AO where
  | list (l : List AV)
  | dict (lk : Bool) (d : List (Int × AV))
  | set (l : List Int)
  | sorter (a b c d : AV)
  | node (a b c : AV)
  | meth (l p : Nat)
  | part (l : List AV)
  | npart (l : List AV)
  | dead

structure AS where
  loc : List (Option AV)
  hp : List AO

noncomputable abbrev AM (α : Type) := AS → Option (α × AS)
noncomputable abbrev FP := List (Addr × Obj)

inductive All2 {α β : Type} (R : α → β → Prop) : List α → List β → Prop
  | nil : All2 R [] []
  | cons {a b l k} : R a b → All2 R l k → All2 R (a :: l) (b :: k)

namespace All2
variable {α β : Type} {R S : α → β → Prop}
theorem length : ∀ {l : List α} {k : List β}, All2 R l k → l.length = k.length
  | _, _, .nil => rfl
  | _, _, .cons _ h => by simp [h.length]
theorem get : ∀ {l : List α} {k : List β}, All2 R l k → ∀ {i : Nat} {a : α}, l[i]? = some a → ∃ b, k[i]? = some b ∧ R a b
  | _, _, .nil, i, a, e => by simp at e
  | _, _, .cons h _, 0, a, e => by simp at e; subst e; exact ⟨_, rfl, h⟩
  | _, _, .cons _ h, i + 1, a, e => by simpa using h.get (by simpa using e)
theorem get' : ∀ {l : List α} {k : List β}, All2 R l k → ∀ {i : Nat} {b : β}, k[i]? = some b → ∃ a, l[i]? = some a ∧ R a b
  | _, _, .nil, i, a, e => by simp at e
  | _, _, .cons h _, 0, a, e => by simp at e; subst e; exact ⟨_, rfl, h⟩
  | _, _, .cons _ h, i + 1, a, e => by simpa using h.get' (by simpa using e)
theorem set : ∀ {l : List α} {k : List β}, All2 R l k → ∀ (i : Nat) {a : α} {b : β}, R a b → All2 R (l.set i a) (k.set i b)
  | _, _, .nil, _, _, _, _ => .nil
  | _, _, .cons _ h, 0, _, _, r => .cons r h
  | _, _, .cons x h, i + 1, _, _, r => .cons x (h.set i r)
theorem mono (f : ∀ a b, R a b → S a b) : ∀ {l : List α} {k : List β}, All2 R l k → All2 S l k
  | _, _, .nil => .nil
  | _, _, .cons x h => .cons (f _ _ x) (h.mono f)
theorem append : ∀ {l l' : List α} {k k' : List β}, All2 R l k → All2 R l' k' → All2 R (l ++ l') (k ++ k')
  | _, _, _, _, .nil, h => h
  | _, _, _, _, .cons x h, h' => .cons x (h.append h')
theorem take : ∀ {l : List α} {k : List β} (n : Nat), All2 R l k → All2 R (l.take n) (k.take n)
  | _, _, 0, _ => by simpa using All2.nil
  | _, _, n + 1, .nil => by simpa using All2.nil
  | _, _, n + 1, .cons x h => by simpa using All2.cons x (h.take n)
theorem drop : ∀ {l : List α} {k : List β} (n : Nat), All2 R l k → All2 R (l.drop n) (k.drop n)
  | _, _, 0, h => by simpa using h
  | _, _, n + 1, .nil => by simpa using All2.nil
  | _, _, n + 1, .cons x h => by simpa using h.drop n
theorem dropLast : ∀ {l : List α} {k : List β}, All2 R l k → All2 R l.dropLast k.dropLast
  | _, _, .nil => .nil
  | _, _, .cons x .nil => .nil
  | _, _, .cons x (.cons y h) => by simpa using All2.cons x (All2.cons y h).dropLast
end All2

theorem all2_ints {vs : List Value} {ns : List Int} (h : IntsAre vs ns) : All2 (fun n v => ∃ t, v = Value.int n t) ns vs := by
  induction h with
  | nil => exact .nil
  | cons n t _ ih => exact .cons ⟨t, rfl⟩ ih
/-! how abstract things lie in the heap -/
noncomputable abbrev tupOf (its : Array Value) (n : Nat) : Obj := { cls := .type "tuple", data := .seq its n }

noncomputable def rho (fps : List FP) (i : Nat) : Option Addr := fps[i]?.bind fun f => f.head?.map (·.1)

noncomputable def IntsL (Z : FP) (l : List Int) (v : Value) : Prop := ∃ a vs n, v = .ref a ∧ (a, listOf (List.toArray vs) n) ∈ Z ∧ IntsAre vs l

noncomputable def VR (ρ : Nat → Option Addr) (Z : FP) : AV → Value → Prop
  | .none, v => v = .none
  | .bool b, v => v = .bool b
  | .int i, v => ∃ t, v = .int i t
  | .ref i, v => ∃ a, ρ i = some a ∧ v = .ref a
  | .li l, v => IntsL Z l v
  | .lli ll, v => ∃ a vs n, v = .ref a ∧ (a, listOf (List.toArray vs) n) ∈ Z ∧ All2 (IntsL Z) ll vs
  | .tup l, v => ∃ a vs n, v = .ref a ∧ (a, tupOf (List.toArray vs) n) ∈ Z ∧ IntsAre vs l
  | .pr k i, v => ∃ a n ad t, v = .ref a ∧ (a, tupOf (List.toArray [.ref ad, .int i t]) n) ∈ Z ∧ ρ k = some ad
  | .scr a _, v => v = .ref a

structure Ext (ρ : Nat → Option Addr) (Z : FP) (ρ' : Nat → Option Addr) (Z' : FP) : Prop where
  r : ∀ i a, ρ i = some a → ρ' i = some a
  z : ∀ p ∈ Z, p ∈ Z'
theorem Ext.refl {ρ : Nat → Option Addr} {Z : FP} : Ext ρ Z ρ Z := ⟨fun _ _ e => e, fun _ e => e⟩
theorem Ext.trans {ρ ρ' ρ'' : Nat → Option Addr} {Z Z' Z'' : FP} (a : Ext ρ Z ρ' Z') (b : Ext ρ' Z' ρ'' Z'') : Ext ρ Z ρ'' Z'' :=
  ⟨fun i x e => b.r i x (a.r i x e), fun p e => b.z p (a.z p e)⟩

theorem IntsL.ext {ρ ρ' : Nat → Option Addr} {Z Z' : FP} (x : Ext ρ Z ρ' Z') {l : List Int} {v : Value} (h : IntsL Z l v) : IntsL Z' l v :=
  let ⟨a, vs, n, e, m, i⟩ := h; ⟨a, vs, n, e, x.z _ m, i⟩
theorem VR.ext {ρ ρ' : Nat → Option Addr} {Z Z' : FP} (x : Ext ρ Z ρ' Z') {v : AV} {cv : Value} (h : VR ρ Z v cv) : VR ρ' Z' v cv := by
  cases v with
  | none => exact h
  | bool b => exact h
  | int i => exact h
  | ref i => obtain ⟨a, e, q⟩ := h; exact ⟨a, x.r _ _ e, q⟩
  | li l => exact IntsL.ext x h
  | lli ll => obtain ⟨a, vs, n, e, m, q⟩ := h; exact ⟨a, vs, n, e, x.z _ m, q.mono fun _ _ y => IntsL.ext x y⟩
  | tup l => obtain ⟨a, vs, n, e, m, q⟩ := h; exact ⟨a, vs, n, e, x.z _ m, q⟩
  | pr k i => obtain ⟨a, n, ad, t, e, m, q⟩ := h; exact ⟨a, n, ad, t, e, x.z _ m, x.r _ _ q⟩
  | scr a l => exact h

end Mine

end
section
open PySem PySem.W PySem.Calls PyProof.Rows
set_option Elab.async false
namespace Mine

/-- what stands still during the whole run -/
structure Wd where
  w : World
  prog : Program
  K : Frag
  p : Program
  loose : List Str
  mean : ExcName → Option Value
  mg : Str → Option Value
  mb : Str → Option Value
  Cs : Addr
  Cn : Addr

/-- a block: its scope, its variables (true: kept in a cell), room for calls -/
structure Cx where
  sc : Scope
  vars : List (Str × Bool)
  d : Nat
  u : Nat
  calls : Bool
  loops : Bool
  own : Nat
  scr : Option (Nat × List Int)

/-- a frame at hand -/
structure Fx where
  A : Around
  A₀ : Around
  env : Env
  base : Heap
  h₀ : Heap
  L : Addr
  outer : List Env
  U : FP
  ep : Nat
  Fs : FP

structure FxOk (W : Wd) (c : Cx) (x : Fx) : Prop where
  sc : x.env.scope = c.sc
  kind : c.sc.kind = .function
  loc : x.env.locals = x.L
  glob : x.env.globals = mainGlobals
  blt : x.env.builtins = builtinsNs
  nd : (c.vars.map (·.1)).Nodup
  cinj : ∀ y z a, x.env.cells.lookup y = some a → x.env.cells.lookup z = some a → y = z
  X : W.K.In x.h₀
  T : Top W.p W.loose W.mean W.mg W.mb x.h₀
  dep : x.A.depth + c.d < recursionLimit
  uni : x.A.units + c.u < cLine
  hh : c.loops = true → x.A.handled = none
  call : c.calls = true → x.A.frames = some (x.env :: x.outer) ∧ x.env.frame = some x.L ∧ ∀ env ∈ x.outer, env.scope.kind ≠ .module ∧ ∃ L o, env.frame = some L ∧ (L, o) ∈ x.Fs ∧ ∀ vs, o.data ≠ .fields vs
  ap : ∀ nm a, x.env.cells.lookup nm = some a → ∀ p ∈ x.Fs, p.1 ≠ a
  scr : ∀ a l, c.scr = some (a, l) → ∃ vs, x.h₀.IsList a (List.toArray vs) ∧ IntsAre vs l

noncomputable abbrev sName1 : Str := "_node2info"
noncomputable abbrev sName2 : Str := "_ready_nodes"
noncomputable abbrev sName3 : Str := "_npassedout"
noncomputable abbrev sName4 : Str := "_nfinished"

/-- the entries of a sorter that is being made -/
noncomputable def partEs (w : World) : List Str → List Value → List Tok → List DictEntry
  | n :: ns, v :: vs, t :: ts => ⟨PyData.keyHash w.params n, .str n t, v⟩ :: partEs w ns vs ts
  | _, _, _ => []
/-- a dict's object, its count of changes -/
noncomputable def DObj (W : Wd) (o : Obj) (kvs : List (Int × Value)) (ep : Nat) : Prop :=
  o.ExactDict ∧ ∃ es, o.data = .dict es ep ∧ KeysOf (intKind W.prog W.w) es ∧ Pairs (intKind W.prog W.w) es.toList kvs ∧ (kvs.map (·.1)).Nodup

inductive LiR (ρ : Nat → Option Addr) (Z : FP) (l : List AV) (f : FP) : Prop
  | mk (a : Addr) (vs : List Value) (n : Nat) (e : f = [(a, listOf (List.toArray vs) n)]) (q : All2 (VR ρ Z) l vs)
inductive DiR (W : Wd) (ep : Nat) (ρ : Nat → Option Addr) (Z : FP) (lk : Bool) (d : List (Int × AV)) (f : FP) : Prop
  | mk (a : Addr) (o : Obj) (kvs : List (Int × Value)) (e : Nat) (e0 : f = [(a, o)]) (e1 : (a == sysModules) = false) (i : DObj W o kvs e) (j : lk = true → e = ep) (q : All2 (fun (p : Int × AV) (q : Int × Value) => p.1 = q.1 ∧ VR ρ Z p.2 q.2) d kvs)
inductive SoR (W : Wd) (ρ : Nat → Option Addr) (Z : FP) (p q r t : AV) (f : FP) : Prop
  | mk (a b : Addr) (n : Nat) (v1 v2 v3 v4 : Value) (t1 t2 t3 t4 : Tok)
      (e : f = [(a, instObj W.Cs b), (b, dictOf [⟨PyData.keyHash W.w.params sName1, .str sName1 t1, v1⟩, ⟨PyData.keyHash W.w.params sName2, .str sName2 t2, v2⟩, ⟨PyData.keyHash W.w.params sName3, .str sName3 t3, v3⟩, ⟨PyData.keyHash W.w.params sName4, .str sName4 t4, v4⟩] n)])
      (h1 : VR ρ Z p v1) (h2 : VR ρ Z q v2) (h3 : VR ρ Z r v3) (h4 : VR ρ Z t v4)
inductive NoR (W : Wd) (ρ : Nat → Option Addr) (Z : FP) (p q r : AV) (f : FP) : Prop
  | mk (a b : Addr) (v1 v2 v3 : Value) (e : f = [(a, ⟨.ref W.Cn, some b, .plain, #[some v1, some v2, some v3]⟩), (b, emptyDict)]) (h1 : VR ρ Z p v1) (h2 : VR ρ Z q v2) (h3 : VR ρ Z r v3)
inductive MeR (ρ : Nat → Option Addr) (l p : Nat) (f : FP) : Prop
  | mk (a b al : Addr) (ob : Obj) (e0 : ρ l = some al) (e : f = [(a, { cls := .type "method-wrapper", data := .fields #[.builtin "list_iterator.__next__", .ref b] }), (b, ob)]) (e1 : ob.cls = .type "list_iterator") (e2 : ob.data = .fields #[.ref al, .int p 0])
inductive PaR (W : Wd) (ρ : Nat → Option Addr) (Z : FP) (l : List AV) (f : FP) : Prop
  | mk (a b : Addr) (n : Nat) (vs : List Value) (ts : List Tok) (e : f = [(a, instObj W.Cs b), (b, dictOf (partEs W.w [sName1, sName2, sName3, sName4] vs ts) n)]) (h1 : All2 (VR ρ Z) l vs) (h2 : ts.length = vs.length)
inductive NpR (W : Wd) (ρ : Nat → Option Addr) (Z : FP) (l : List AV) (f : FP) : Prop
  | mk (a b : Addr) (vs : List Value) (e : f = [(a, ⟨.ref W.Cn, some b, .plain, List.toArray (vs.map some)⟩), (b, emptyDict)]) (h1 : All2 (VR ρ Z) l vs)
noncomputable def OR (W : Wd) (ep : Nat) (ρ : Nat → Option Addr) (Z : FP) : AO → FP → Prop
  | .list l, f => LiR ρ Z l f
  | .dict lk d, f => DiR W ep ρ Z lk d f
  | .set l, f => ∃ a o, f = [(a, o)] ∧ o.IntSetOf (fun k => decide (k ∈ l)) l.length
  | .sorter p q r t, f => SoR W ρ Z p q r t f
  | .node p q r, f => NoR W ρ Z p q r f
  | .meth l p, f => MeR ρ l p f
  | .part l, f => PaR W ρ Z l f
  | .npart l, f => NpR W ρ Z l f
  | .dead, f => ∃ a o, f = [(a, o)]

theorem OR.ext {W : Wd} {ep : Nat} {ρ ρ' : Nat → Option Addr} {Z Z' : FP} (x : Ext ρ Z ρ' Z') {o : AO} {f : FP} (h : OR W ep ρ Z o f) : OR W ep ρ' Z' o f := by
  cases o with
  | list l => obtain ⟨a, vs, n, e, q⟩ := h; exact ⟨a, vs, n, e, q.mono fun _ _ y => VR.ext x y⟩
  | dict lk d => obtain ⟨a, o, kvs, e, e1, e2, i, j, q⟩ := h; exact ⟨a, o, kvs, e, e1, e2, i, j, q.mono fun _ _ y => ⟨y.1, VR.ext x y.2⟩⟩
  | set l => exact h
  | sorter p q r t => obtain ⟨a, b, n, v1, v2, v3, v4, t1, t2, t3, t4, e, h1, h2, h3, h4⟩ := h; exact ⟨a, b, n, v1, v2, v3, v4, t1, t2, t3, t4, e, VR.ext x h1, VR.ext x h2, VR.ext x h3, VR.ext x h4⟩
  | node p q r => obtain ⟨a, b, v1, v2, v3, e, h1, h2, h3⟩ := h; exact ⟨a, b, v1, v2, v3, e, VR.ext x h1, VR.ext x h2, VR.ext x h3⟩
  | part l => obtain ⟨a, b, n, vs, ts, e, h1, h2⟩ := h; exact ⟨a, b, n, vs, ts, e, h1.mono fun _ _ y => VR.ext x y, h2⟩
  | npart l => obtain ⟨a, b, vs, e, h1⟩ := h; exact ⟨a, b, vs, e, h1.mono fun _ _ y => VR.ext x y⟩
  | dead => exact h
  | meth l p => obtain ⟨a, b, al, ob, e, q1, q2, q3⟩ := h; exact ⟨a, b, al, ob, x.r _ _ e, q1, q2, q3⟩

structure Rel (W : Wd) (c : Cx) (x : Fx) (h : Heap) (σ : AS) (fps : List FP) (Z Y : FP) : Prop where
  fr : ∃ m, Fr x.h₀ x.L h m ∧ ∀ (i : Nat) nm v, c.vars[i]? = some (nm, false) → σ.loc[i]? = some (some v) → ∃ cv, m nm = some cv ∧ VR (rho fps) Z v cv
  ce : ∀ (i : Nat) nm, c.vars[i]? = some (nm, true) → ∃ a o co, x.env.cells.lookup nm = some a ∧ ((a, o) ∈ Y ∨ c.own ≤ i ∧ x.h₀.get? a = some o) ∧ o.data = .cell co ∧ ∀ v, σ.loc[i]? = some (some v) → ∃ cv, co = some cv ∧ VR (rho fps) Z v cv
  N : News x.h₀ x.L h (fps.flatten ++ (Z ++ (Y ++ x.U)))
  D : ((fps.flatten ++ (Z ++ (Y ++ x.U))).map (·.1)).Nodup
  O : All2 (OR W x.ep (rho fps) Z) σ.hp fps
  G : σ.loc.length = c.vars.length
  V : ∀ p ∈ x.Fs, ∃ o', (p.1, o') ∈ Y ∧ o'.data = p.2.data

/-- flows -/
inductive AF where
  | next
  | brk
  | cont
  | ret (v : AV)

noncomputable def FR (ρ : Nat → Option Addr) (Z : FP) : AF → Flow → Prop
  | .next, f => f = .next
  | .brk, f => f = .brk
  | .cont, f => f = .cont
  | .ret v, f => ∃ cv, f = .ret cv ∧ VR ρ Z v cv
/-- what stands behind a tree that gives an a (abstractly) -/
noncomputable def Then {α β : Type} (P : (Nat → Option Addr) → FP → α → β → Prop) (W : Wd) (c : Cx) (x : Fx) (fps : List FP) (Z : FP) (s : Shared) (v : α) (σ' : AS) (Q : β → Shared → Prop) : Prop :=
  ∀ h' tk' fps' Z' Y' cv, Rel W c x h' σ' fps' Z' Y' → Ext (rho fps) Z (rho fps') Z' → P (rho fps') Z' v cv → Q cv { s with heap := h', toks := tk' }

/-- the tree t (in the frame x) is told by f -/
noncomputable def Says {α β : Type} (P : (Nat → Option Addr) → FP → α → β → Prop) (W : Wd) (c : Cx) (t : Fx → Sem β) (f : AM α) : Prop :=
  ∀ x, FxOk W c x → ∀ s σ fps Z Y, Rel W c x s.heap σ fps Z Y → ∀ v σ', f σ = some (v, σ') → ∀ Q E, Then P W c x fps Z s v σ' Q → wpAny (model W.prog W.w) x.A (t x) Q E s

noncomputable def EqB (_ : Nat → Option Addr) (_ : FP) (b c : Bool) : Prop := b = c
noncomputable def LR (ρ : Nat → Option Addr) (Z : FP) (l : List AV) (vs : List Value) : Prop := All2 (VR ρ Z) l vs

noncomputable def SE (W : Wd) (c : Cx) (e : Expr) (f : AM AV) : Prop := Says VR W c (fun x => eval e x.env) f
noncomputable def ST (W : Wd) (c : Cx) (e : Expr) (f : AM Bool) : Prop := Says EqB W c (fun x => isTrue e x.env (eval e x.env)) f
noncomputable def SX (W : Wd) (c : Cx) (st : Stmt) (f : AM AF) : Prop := Says FR W c (fun x => exec st x.env) f
noncomputable def SB (W : Wd) (c : Cx) (l : List Stmt) (f : AM AF) : Prop := Says FR W c (fun x => execs l x.env) f
noncomputable def SA (W : Wd) (c : Cx) (pos : Pos) (l : List Expr) (f : AM (List AV)) : Prop := Says LR W c (fun x => spliced (backTo pos (starEach l x.env))) f

noncomputable def bnd {α β : Type} (f : AM α) (g : α → AM β) : AM β := fun σ => match f σ with
  | some (a, σ') => g a σ'
  | none => none
noncomputable def ok {α : Type} (a : α) : AM α := fun σ => some (a, σ)
noncomputable def no {α : Type} : AM α := fun _ => none
theorem bnd_some {α β : Type} {f : AM α} {g : α → AM β} {σ σ' : AS} {b : β} (h : bnd f g σ = some (b, σ')) : ∃ a σ₁, f σ = some (a, σ₁) ∧ g a σ₁ = some (b, σ') := by
  unfold bnd at h
  split at h
  · rename_i a σ₁ e; exact ⟨a, σ₁, e, h⟩
  · cases h

section
variable {W : Wd} {c : Cx} {x : Fx} {h : Heap} {σ : AS} {fps : List FP} {Z Y : FP}

theorem Rel.keep (R : Rel W c x h σ fps Z Y) : ∀ b o, x.h₀.get? b = some o → h.get? b = some o := let ⟨_, F, _⟩ := R.fr; F.keep
theorem Rel.K (R : Rel W c x h σ fps Z Y) (ok : FxOk W c x) : W.K.In h := ok.X.keeps R.keep
theorem Rel.T (R : Rel W c x h σ fps Z Y) (ok : FxOk W c x) : Top W.p W.loose W.mean W.mg W.mb h := ok.T.keeps R.keep

theorem Says.bind {α α' β : Type} {P : (Nat → Option Addr) → FP → α → β → Prop} {t : Fx → Sem β} {f : AM α} {g : α → AM α'}
    (h : Says P W c t f) (ok : FxOk W c x) {s : Shared} (R : Rel W c x s.heap σ fps Z Y) {v : α'} {σ' : AS} (e : bnd f g σ = some (v, σ')) {Q : β → Shared → Prop} {E : Value → Shared → Prop}
    (k : ∀ a σ₁ h₁ tk₁ fps₁ Z₁ Y₁ ca, f σ = some (a, σ₁) → g a σ₁ = some (v, σ') → Rel W c x h₁ σ₁ fps₁ Z₁ Y₁ → Ext (rho fps) Z (rho fps₁) Z₁ → P (rho fps₁) Z₁ a ca → Q ca { s with heap := h₁, toks := tk₁ }) :
    wpAny (model W.prog W.w) x.A (t x) Q E s := by
  obtain ⟨a, σ₁, e1, e2⟩ := bnd_some e
  exact h x ok s σ fps Z Y R a σ₁ e1 Q E fun h₁ tk₁ fps₁ Z₁ Y₁ ca R₁ X₁ p => k a σ₁ h₁ tk₁ fps₁ Z₁ Y₁ ca e1 e2 R₁ X₁ p
theorem Then.ext {α β : Type} {P : (Nat → Option Addr) → FP → α → β → Prop} {fps₁ : List FP} {Z₁ : FP} {s : Shared} {v : α} {σ' : AS} {Q : β → Shared → Prop} (h : Then P W c x fps Z s v σ' Q) (e : Ext (rho fps) Z (rho fps₁) Z₁) (h₁ : Heap) (tk₁ : Nat) :
    Then P W c x fps₁ Z₁ { s with heap := h₁, toks := tk₁ } v σ' Q := fun h' tk' fps' Z' Y' cv R X p => h h' tk' fps' Z' Y' cv R (e.trans X) p
end

/-! names, constants -/
section
variable {W : Wd} {c : Cx}
noncomputable def pLoc (i : Nat) : AM AV := fun σ => match σ.loc[i]? with
  | some (some v) => some (v, σ)
  | _ => none
theorem pLoc_some {i : Nat} {σ σ' : AS} {v : AV} (h : pLoc i σ = some (v, σ')) : σ.loc[i]? = some (some v) ∧ σ' = σ := by
  unfold pLoc at h
  split at h
  · rename_i w e; cases h; exact ⟨e, rfl⟩
  · cases h

theorem se_loc {i : Nat} {nm : Str} {pos : Pos} (hi : c.vars[i]? = some (nm, false)) (hk : c.sc.names.lookup nm = some .local) (hd : (nm == ("__debug__" : Str)) = false) : SE W c (.Name nm pos) (pLoc i) := by
  intro x ok s σ fps Z Y R v σ' e Q E k
  obtain ⟨e1, rfl⟩ := pLoc_some e
  obtain ⟨m, F, q⟩ := R.fr
  obtain ⟨cv, hm, hv⟩ := q i nm v hi e1
  have hn := F.ns
  rw [← ok.loc] at hn
  exact wpAny_Name (wpAny_loadName_local (by rw [ok.sc, ok.kind]) (by show x.env.scope.names.lookup nm = _; rw [ok.sc, hk]) hn hm (k s.heap s.toks fps Z Y cv R Ext.refl hv)) hd

theorem Rel.cell {x : Fx} {h : Heap} {σ : AS} {fps : List FP} {Z Y : FP} (R : Rel W c x h σ fps Z Y) {i : Nat} {nm : Str} {v : AV} (hi : c.vars[i]? = some (nm, true)) (e1 : σ.loc[i]? = some (some v)) :
    ∃ a cv, x.env.cells.lookup nm = some a ∧ h.IsCell a (some cv) ∧ VR (rho fps) Z v cv := by
  obtain ⟨a, o, co, ha, hm, hd, hw⟩ := R.ce i nm hi
  obtain ⟨cv, rfl, hv⟩ := hw v e1
  rcases hm with hm | hm
  · exact ⟨a, cv, ha, ⟨o, (R.N _ (List.mem_append_right _ (List.mem_append_right _ (List.mem_append_left _ hm)))).1, hd⟩, hv⟩
  · exact ⟨a, cv, ha, ⟨o, R.keep _ _ hm.2, hd⟩, hv⟩

theorem se_cell {i : Nat} {nm : Str} {pos : Pos} (hi : c.vars[i]? = some (nm, true)) (hk : c.sc.names.lookup nm = some .cell) (hd : (nm == ("__debug__" : Str)) = false) : SE W c (.Name nm pos) (pLoc i) := by
  intro x ok s σ fps Z Y R v σ' e Q E k
  obtain ⟨e1, rfl⟩ := pLoc_some e
  obtain ⟨a, cv, ha, hc, hv⟩ := R.cell hi e1
  exact wpAny_Name (wpAny_loadName_cell (by rw [ok.sc, ok.kind]) (by show x.env.scope.names.lookup nm = _; rw [ok.sc, hk]) ha hc (k s.heap s.toks fps Z Y cv R Ext.refl hv)) hd
theorem se_int {n : Int} {k : Nat} {pos : Pos} : SE W c (.Constant (.int n) k pos) (ok (.int n)) := by
  intro x _ s σ fps Z Y R v σ' e Q E k
  cases e
  exact wpAny_Constant_int (k s.heap (s.toks + 1) fps Z Y _ R Ext.refl ⟨_, rfl⟩)
theorem se_none {k : Nat} {pos : Pos} : SE W c (.Constant .none k pos) (ok .none) := by
  intro x _ s σ fps Z Y R v σ' e Q E k
  cases e
  exact fun _ _ _ => k s.heap s.toks fps Z Y _ R Ext.refl rfl
theorem se_bool {b : Bool} {k : Nat} {pos : Pos} : SE W c (.Constant (.bool b) k pos) (ok (.bool b)) := by
  intro x _ s σ fps Z Y R v σ' e Q E k
  cases e
  exact fun _ _ _ => k s.heap s.toks fps Z Y _ R Ext.refl rfl

theorem se_global {nm : Str} {pos : Pos} {n : Int} {t : Tok} (hk : c.sc.names.lookup nm = some .globalImplicit) (hn : nsIn W.K mainGlobals nm = some (some (.int n t))) (hd : (nm == ("__debug__" : Str)) = false) : SE W c (.Name nm pos) (ok (.int n)) := by
  intro x ok s σ fps Z Y R v σ' e Q E k
  cases e
  have G := (R.T ok).g
  exact Name_function_global (by rw [ok.sc, ok.kind]) (by show x.env.scope.names.lookup nm = _; rw [ok.sc, hk]) (loadGlobal_global (by rw [ok.glob]; exact G) (mg_of (R.K ok) G hn) (k s.heap s.toks fps Z Y _ R Ext.refl ⟨_, rfl⟩)) hd
end

end Mine

end
section
open PySem PySem.W PySem.Calls PyProof.Rows
set_option Elab.async false
namespace Mine

section
variable {W : Wd} {c : Cx}

/-- a step on values that stand ready -/
noncomputable def Prim1 {β γ : Type} (P : (Nat → Option Addr) → FP → γ → β → Prop) (W : Wd) (c : Cx) (t : Fx → Value → Sem β) (g : AV → AM γ) : Prop :=
  ∀ x, FxOk W c x → ∀ s σ fps Z Y, Rel W c x s.heap σ fps Z Y → ∀ a ca, VR (rho fps) Z a ca → ∀ v σ', g a σ = some (v, σ') → ∀ Q E, Then P W c x fps Z s v σ' Q → wpAny (model W.prog W.w) x.A (t x ca) Q E s
noncomputable def Prim2 {β γ : Type} (P : (Nat → Option Addr) → FP → γ → β → Prop) (W : Wd) (c : Cx) (t : Fx → Value → Value → Sem β) (g : AV → AV → AM γ) : Prop :=
  ∀ x, FxOk W c x → ∀ s σ fps Z Y, Rel W c x s.heap σ fps Z Y → ∀ a ca b cb, VR (rho fps) Z a ca → VR (rho fps) Z b cb → ∀ v σ', g a b σ = some (v, σ') → ∀ Q E, Then P W c x fps Z s v σ' Q →
    wpAny (model W.prog W.w) x.A (t x ca cb) Q E s
noncomputable def PrimN {β γ : Type} (P : (Nat → Option Addr) → FP → γ → β → Prop) (W : Wd) (c : Cx) (t : Fx → List Value → Sem β) (g : List AV → AM γ) : Prop :=
  ∀ x, FxOk W c x → ∀ s σ fps Z Y, Rel W c x s.heap σ fps Z Y → ∀ a ca, LR (rho fps) Z a ca → ∀ v σ', g a σ = some (v, σ') → ∀ Q E, Then P W c x fps Z s v σ' Q → wpAny (model W.prog W.w) x.A (t x ca) Q E s

theorem Then.same {α β : Type} {P : (Nat → Option Addr) → FP → α → β → Prop} {x : Fx} {σ : AS} {fps : List FP} {Z Y : FP} {s : Shared} {v : α} {Q : β → Shared → Prop} (h : Then P W c x fps Z s v σ Q) (R : Rel W c x s.heap σ fps Z Y) {cv : β} (p : P (rho fps) Z v cv) (tk : Nat) :
    Q cv { s with toks := tk } := h s.heap tk fps Z Y cv R Ext.refl p
theorem Then.here {α β : Type} {P : (Nat → Option Addr) → FP → α → β → Prop} {x : Fx} {σ : AS} {fps : List FP} {Z Y : FP} {s : Shared} {v : α} {Q : β → Shared → Prop} (h : Then P W c x fps Z s v σ Q) (R : Rel W c x s.heap σ fps Z Y) {cv : β} (p : P (rho fps) Z v cv) :
    Q cv s := h s.heap s.toks fps Z Y cv R Ext.refl p

/-! operators on ints -/
noncomputable def pInt2 (G : Int → Int → Option Int) (a b : AV) : AM AV := match a, b with
  | .int i, .int j => fun σ => match G i j with
    | some r => some (.int r, σ)
    | none => none
  | _, _ => no
noncomputable def IntOk (W : Wd) (op : Operator) (G : Int → Int → Option Int) : Prop :=
  ∀ (A : Around) (E : Value → Shared → Prop) (s : Shared) (i j r : Int) (t u : Tok) (Q : Value → Shared → Prop), G i j = some r → Q (.int r s.toks) { s with toks := s.toks + 1 } → wpAny (model W.prog W.w) A (binaryOp op (.int i t) (.int j u)) Q E s
theorem prim_int2 {op : Operator} {G : Int → Int → Option Int} (h : IntOk W op G) : Prim2 VR W c (fun _ a b => binaryOp op a b) (pInt2 G) := by
  intro x _ s σ fps Z Y R a ca b cb ha hb v σ' e Q E k
  unfold pInt2 at e
  split at e
  · rename_i i j
    obtain ⟨t, rfl⟩ := ha
    obtain ⟨u, rfl⟩ := hb
    split at e
    · rename_i r hr
      cases e
      exact h _ _ _ _ _ _ _ _ _ hr (k.same R ⟨_, rfl⟩ _)
    · cases e
  · cases e
noncomputable def gAdd (i j : Int) : Option Int := some (i + j)
noncomputable def gSub (i j : Int) : Option Int := some (i - j)
noncomputable def gMul (i j : Int) : Option Int := if i.natAbs < 2 ^ 60 then some (i * j) else none
noncomputable def gMod (i j : Int) : Option Int := if j ≠ 0 then some (i.fmod j) else none
noncomputable def gDiv (i j : Int) : Option Int := if j ≠ 0 ∧ j.natAbs < 1073741824 then some (i.fdiv j) else none
noncomputable def gAnd (i j : Int) : Option Int := some (Builtin.bitAnd i j)
noncomputable def gShr (i j : Int) : Option Int := if 0 ≤ j then some (i.fdiv (2 ^ j.toNat)) else none
noncomputable def gPow (i j : Int) : Option Int := if 0 ≤ j ∧ j ≤ 1000 ∧ i.natAbs < 2 ^ 60 then some (i ^ j.toNat) else none
theorem add_ok : IntOk W .Add gAdd := fun _ _ _ _ _ _ _ _ _ e k => by cases e; exact add_int k
theorem sub_ok : IntOk W .Sub gSub := fun _ _ _ _ _ _ _ _ _ e k => by cases e; exact sub_int k
theorem mod_ok : IntOk W .Mod gMod := fun _ _ _ _ _ _ _ _ _ e k => by
  unfold gMod at e
  split at e
  · rename_i h; cases e; exact mod_int h k
  · cases e
theorem div_ok : IntOk W .FloorDiv gDiv := fun _ _ _ _ _ _ _ _ _ e k => by
  unfold gDiv at e
  split at e
  · rename_i h; cases e; exact floordiv_int h.1 k (Or.inl (PyProof.noPylong_small h.2))
  · cases e
theorem and_ok : IntOk W .BitAnd gAnd := fun _ _ _ _ _ _ _ _ _ e k => by cases e; exact and_int k
theorem shr_ok : IntOk W .RShift gShr := fun _ _ _ _ _ _ _ _ _ e k => by
  unfold gShr at e
  split at e
  · rename_i h; cases e; exact rshift_int h k
  · cases e
theorem pow_ok : IntOk W .Pow gPow := fun _ _ _ _ _ _ _ _ _ e k => by
  unfold gPow at e
  split at e
  · rename_i h; cases e; exact pow_int_small h.1 (by omega) (by omega) k
  · cases e
theorem mul_ok : IntOk W .Mult gMul := fun _ _ _ i j _ _ _ _ e k => by
  unfold gMul at e
  split at e
  · rename_i h; cases e; exact mul_int k (IntMulOk.of_left (intBits_le_64 (by omega) (by omega)))
  · cases e

theorem se_bin {op : Operator} {l r : Expr} {pos : Pos} {f g : AM AV} {G : AV → AV → AM AV} (hl : SE W c l f) (hr : SE W c r g) (hp : Prim2 VR W c (fun _ a b => binaryOp op a b) G) :
    SE W c (.BinOp l op r pos) (bnd f fun a => bnd g fun b => G a b) := by
  intro x ok s σ fps Z Y R v σ' e Q E k
  refine wpAny_BinOp (hl.bind ok R e fun a σ₁ h₁ tk₁ fps₁ Z₁ Y₁ ca _ e₁ R₁ X₁ p₁ => ?_)
  refine hr.bind (s := { s with heap := h₁, toks := tk₁ }) ok R₁ e₁ fun b σ₂ h₂ tk₂ fps₂ Z₂ Y₂ cb _ e₂ R₂ X₂ p₂ => ?_
  exact hp x ok _ σ₂ fps₂ Z₂ Y₂ R₂ a ca b cb (VR.ext X₂ p₁) p₂ v σ' e₂ Q E ((k.ext X₁ h₁ tk₁).ext X₂ h₂ tk₂)

/-! comparisons -/
noncomputable def pCmp (G : Int → Int → Bool) (a b : AV) : AM AV := match a, b with
  | .int i, .int j => ok (.bool (G i j))
  | _, _ => no
noncomputable def CmpOk (W : Wd) (op : CmpOp) (G : Int → Int → Bool) : Prop :=
  ∀ (A : Around) (E : Value → Shared → Prop) (s : Shared) (i j : Int) (t u : Tok) (Q : Value → Shared → Prop), Q (.bool (G i j)) s → wpAny (model W.prog W.w) A (compareOp op (.int i t) (.int j u)) Q E s
theorem prim_cmp {op : CmpOp} {G : Int → Int → Bool} (h : CmpOk W op G) : Prim2 VR W c (fun _ a b => compareOp op a b) (pCmp G) := by
  intro x _ s σ fps Z Y R a ca b cb ha hb v σ' e Q E k
  unfold pCmp at e
  split at e
  · rename_i i j
    obtain ⟨t, rfl⟩ := ha
    obtain ⟨u, rfl⟩ := hb
    cases e
    exact h _ _ _ _ _ _ _ _ (k.here R rfl)
  · cases e
theorem lt_ok : CmpOk W .Lt (fun i j => decide (i < j)) := fun _ _ _ _ _ _ _ _ k => lt_int k
theorem gt_ok : CmpOk W .Gt (fun i j => decide (j < i)) := fun _ _ _ _ _ _ _ _ k => gt_int k
theorem ge_ok : CmpOk W .GtE (fun i j => decide (j ≤ i)) := fun _ _ _ _ _ _ _ _ k => ge_int k
theorem eq_ok : CmpOk W .Eq (fun i j => decide (i = j)) := fun _ _ _ i j _ _ _ k => eq_int (by
  have : (i == j) = decide (i = j) := by by_cases h : i = j <;> simp [h]
  rw [this]; exact k)
theorem ne_ok : CmpOk W .NotEq (fun i j => decide (i ≠ j)) := fun _ _ _ i j _ _ _ k => ne_int (by
  have : (i != j) = decide (i ≠ j) := by by_cases h : i = j <;> simp [h]
  rw [this]; exact k)

theorem se_cmp {op : CmpOp} {l r : Expr} {pos : Pos} {f g : AM AV} {G : AV → AV → AM AV} (hl : SE W c l f) (hr : SE W c r g) (hp : Prim2 VR W c (fun _ a b => compareOp op a b) G)
    (hm : behindInMarks op r = false) : SE W c (.Compare l [op] [r] pos) (bnd f fun a => bnd g fun b => G a b) := by
  intro x ok s σ fps Z Y R v σ' e Q E k
  refine wpAny_Compare1 (hl.bind ok R e fun a σ₁ h₁ tk₁ fps₁ Z₁ Y₁ ca _ e₁ R₁ X₁ p₁ => ?_) hm
  refine hr.bind (s := { s with heap := h₁, toks := tk₁ }) ok R₁ e₁ fun b σ₂ h₂ tk₂ fps₂ Z₂ Y₂ cb _ e₂ R₂ X₂ p₂ => ?_
  exact hp x ok _ σ₂ fps₂ Z₂ Y₂ R₂ a ca b cb (VR.ext X₂ p₁) p₂ v σ' e₂ Q E ((k.ext X₁ h₁ tk₁).ext X₂ h₂ tk₂)

/-! truth -/
noncomputable def pBool : AV → AM Bool := fun a => match a with
  | .bool b => ok b
  | _ => no
theorem st_cmp {op : CmpOp} {l r : Expr} {pos : Pos} {f g : AM AV} {G : AV → AV → AM AV} (hl : SE W c l f) (hr : SE W c r g) (hp : Prim2 VR W c (fun _ a b => compareOp op a b) G)
    (hm : behindInMarks op r = false) : ST W c (.Compare l [op] [r] pos) (bnd f fun a => bnd g fun b => bnd (G a b) pBool) := by
  intro x ok s σ fps Z Y R v σ' e Q E k
  refine wpAny_isTrue_Compare1 (hl.bind ok R e fun a σ₁ h₁ tk₁ fps₁ Z₁ Y₁ ca _ e₁ R₁ X₁ p₁ => ?_) hm
  refine hr.bind (s := { s with heap := h₁, toks := tk₁ }) ok R₁ e₁ fun b σ₂ h₂ tk₂ fps₂ Z₂ Y₂ cb _ e₂ R₂ X₂ p₂ => ?_
  obtain ⟨u, σ₃, e₃, e₄⟩ := bnd_some e₂
  refine hp x ok _ σ₂ fps₂ Z₂ Y₂ R₂ a ca b cb (VR.ext X₂ p₁) p₂ u σ₃ e₃ _ E fun h₃ tk₃ fps₃ Z₃ Y₃ cu R₃ X₃ p₃ => ?_
  unfold pBool at e₄
  split at e₄
  · cases e₄
    cases p₃
    exact wpAny_truthy_bool (k h₃ tk₃ fps₃ Z₃ Y₃ _ R₃ ((X₁.trans X₂).trans X₃) rfl)
  · cases e₄

theorem st_not {e : Expr} {pos : Pos} {f : AM Bool} (h : ST W c e f) : ST W c (.UnaryOp .Not e pos) (bnd f fun b => ok (!b)) := by
  intro x ok s σ fps Z Y R v σ' e Q E k
  refine isTrue_not (h.bind ok R e fun a σ₁ h₁ tk₁ fps₁ Z₁ Y₁ ca _ e₁ R₁ X₁ p₁ => ?_)
  cases e₁
  cases p₁
  exact k h₁ tk₁ fps₁ Z₁ Y₁ _ R₁ X₁ rfl
theorem st_and {e : Expr} {r : List Expr} {pos : Pos} {f g : AM Bool} (h : ST W c e f) (hr : ST W c (.BoolOp .And r pos) g) : ST W c (.BoolOp .And (e :: r) pos) (bnd f fun b => if b then g else ok false) := by
  intro x ok s σ fps Z Y R v σ' e Q E k
  refine isTrue_and (h.bind ok R e fun a σ₁ h₁ tk₁ fps₁ Z₁ Y₁ ca _ e₁ R₁ X₁ p₁ => ?_)
  cases p₁
  cases a with
  | true => exact hr x ok _ σ₁ fps₁ Z₁ Y₁ R₁ v σ' e₁ Q E (k.ext X₁ h₁ tk₁)
  | false => cases e₁; exact k h₁ tk₁ fps₁ Z₁ Y₁ _ R₁ X₁ rfl
theorem st_and0 {pos : Pos} : ST W c (.BoolOp .And [] pos) (ok true) := by
  intro x _ s σ fps Z Y R v σ' e Q E k
  cases e
  exact isTrue_and_nil (k.here R rfl)
theorem st_or {e : Expr} {r : List Expr} {pos : Pos} {f g : AM Bool} (h : ST W c e f) (hr : ST W c (.BoolOp .Or r pos) g) : ST W c (.BoolOp .Or (e :: r) pos) (bnd f fun b => if b then ok true else g) := by
  intro x ok s σ fps Z Y R v σ' e Q E k
  refine isTrue_or (h.bind ok R e fun a σ₁ h₁ tk₁ fps₁ Z₁ Y₁ ca _ e₁ R₁ X₁ p₁ => ?_)
  cases p₁
  cases a with
  | false => exact hr x ok _ σ₁ fps₁ Z₁ Y₁ R₁ v σ' e₁ Q E (k.ext X₁ h₁ tk₁)
  | true => cases e₁; exact k h₁ tk₁ fps₁ Z₁ Y₁ _ R₁ X₁ rfl
theorem st_or0 {pos : Pos} : ST W c (.BoolOp .Or [] pos) (ok false) := by
  intro x _ s σ fps Z Y R v σ' e Q E k
  cases e
  exact isTrue_or_nil (k.here R rfl)

/-! objects of the heap -/
theorem rho_of {fps : List FP} {i : Nat} {f : FP} {a : Addr} {o : Obj} {r : FP} (h : fps[i]? = some f) (e : f = (a, o) :: r) : rho fps i = some a := by
  unfold rho; rw [h]; subst e; rfl
theorem Rel.obj {x : Fx} {h : Heap} {σ : AS} {fps : List FP} {Z Y : FP} (R : Rel W c x h σ fps Z Y) {i : Nat} {o : AO} (e : σ.hp[i]? = some o) : ∃ f, fps[i]? = some f ∧ OR W x.ep (rho fps) Z o f := R.O.get e
theorem Rel.at {x : Fx} {h : Heap} {σ : AS} {fps : List FP} {Z Y : FP} (R : Rel W c x h σ fps Z Y) {i : Nat} {f : FP} (e : fps[i]? = some f) {p : Addr × Obj} (hp : p ∈ f) : h.get? p.1 = some p.2 ∧ p.1 ≠ x.L ∧ x.h₀.get? p.1 = none :=
  R.N p (List.mem_append_left _ (List.mem_flatten.mpr ⟨f, List.mem_of_getElem? e, hp⟩))
theorem Rel.frozen {x : Fx} {h : Heap} {σ : AS} {fps : List FP} {Z Y : FP} (R : Rel W c x h σ fps Z Y) {p : Addr × Obj} (hp : p ∈ Z) : h.get? p.1 = some p.2 ∧ p.1 ≠ x.L ∧ x.h₀.get? p.1 = none :=
  R.N p (List.mem_append_right _ (List.mem_append_left _ hp))
theorem Rel.lst {x : Fx} {h : Heap} {σ : AS} {fps : List FP} {Z Y : FP} (R : Rel W c x h σ fps Z Y) {i : Nat} {l : List AV} (e : σ.hp[i]? = some (.list l)) :
    ∃ a vs n, rho fps i = some a ∧ fps[i]? = some [(a, listOf (List.toArray vs) n)] ∧ All2 (VR (rho fps) Z) l vs ∧ h.get? a = some (listOf (List.toArray vs) n) ∧ h.IsList a (List.toArray vs) := by
  obtain ⟨f, hf, a, vs, n, rfl, hv⟩ := R.obj e
  have ha := R.at hf (.head _)
  exact ⟨a, vs, n, rho_of hf rfl, hf, hv, ha.1, ⟨_, ha.1, rfl, n, rfl⟩⟩
theorem IntsL.isList {x : Fx} {h : Heap} {σ : AS} {fps : List FP} {Z Y : FP} (R : Rel W c x h σ fps Z Y) {l : List Int} {v : Value} (e : IntsL Z l v) : ∃ a vs, v = .ref a ∧ h.IsList a (List.toArray vs) ∧ IntsAre vs l := by
  obtain ⟨a, vs, n, rfl, hm, hi⟩ := e
  exact ⟨a, vs, rfl, ⟨_, (R.frozen hm).1, rfl, n, rfl⟩, hi⟩

noncomputable def pTruth (a : AV) : AM Bool := match a with
  | .none => ok false
  | .bool b => ok b
  | .int i => ok (decide (i ≠ 0))
  | .ref k => fun σ => match σ.hp[k]? with
    | some (.list l) => if l.length < 100000 then some (decide (l ≠ []), σ) else none
    | _ => none
  | _ => no
theorem prim_truth : Prim1 EqB W c (fun _ a => truthy a) pTruth := by
  intro x _ s σ fps Z Y R a ca ha v σ' e Q E k
  unfold pTruth at e
  split at e
  · cases e; cases ha; exact truthy_none (k.here R rfl)
  · cases e; cases ha; exact wpAny_truthy_bool (k.here R rfl)
  · rename_i i
    obtain ⟨t, rfl⟩ := ha
    cases e
    refine PySem.P.truthy_int ?_
    have : (i != 0) = decide (i ≠ 0) := by by_cases h : i = 0 <;> simp [h]
    rw [this]; exact k.here R rfl
  · rename_i i
    split at e
    · rename_i l hl
      split at e
      · rename_i hlen
        cases e
        obtain ⟨b, hb, rfl⟩ := ha
        obtain ⟨a, vs, n, hr, _, hv, _, hL⟩ := R.lst hl
        rw [hb] at hr; cases hr
        have hvl := hv.length
        refine wpAny_truthy_list hL (by simp only [List.size_toArray]; omega) ?_
        have : (!(List.toArray vs).isEmpty) = decide (l ≠ []) := by
          cases hv <;> simp
        rw [this]
        exact k.same R rfl _
      · cases e
    · cases e
  · cases e
end
end Mine

end
section
open PySem PySem.W PySem.Calls PyProof.Rows
set_option Elab.async false
namespace Mine

structure Led (h₀ : Heap) (L : Addr) (h : Heap) (l : FP) : Prop where
  N : News h₀ L h l
  D : (l.map (·.1)).Nodup

namespace Led
variable {h₀ h h' : Heap} {L : Addr} {l l' : FP} {m : Str → Option Value}
theorem perm (H : Led h₀ L h l) (p : l.Perm l') : Led h₀ L h l' := ⟨fun q hq => H.N q (p.mem_iff.mpr hq), (p.map _).nodup_iff.mp H.D⟩
theorem sub (H : Led h₀ L h l) (p : l'.Sublist l) : Led h₀ L h l' := ⟨fun q hq => H.N q (p.subset hq), (p.map _).nodup H.D⟩
theorem chg {a : Addr} {o o' : Obj} (H : Led h₀ L h ((a, o) :: l)) (hs : Heap.SameBut a h h') (ha : h'.get? a = some o') : Led h₀ L h' ((a, o') :: l) := by
  have hn : a ∉ l.map (·.1) := by
    have := H.D
    rw [List.map_cons, List.nodup_cons] at this
    exact this.1
  refine ⟨fun q hq => ?_, H.D⟩
  rcases List.mem_cons.mp hq with rfl | hq
  · exact ⟨ha, (H.N (a, o) (.head _)).2⟩
  · have z := H.N q (.tail _ hq)
    exact ⟨(hs.2 q.1 fun e => hn (e ▸ List.mem_map_of_mem hq)).trans z.1, z.2⟩
theorem push (F : Fr h₀ L h m) (H : Led h₀ L h l) (o : Obj) (hf : o.isFreed = false) : Led h₀ L (h.push o) ((h.objs.size, o) :: l) := by
  refine ⟨News.push F H.N o hf, ?_⟩
  rw [List.map_cons, List.nodup_cons]
  refine ⟨fun q => ?_, H.D⟩
  obtain ⟨p, hp, e⟩ := List.mem_map.mp q
  exact absurd (Heap.lt_size (H.N p hp).1) (by rw [e]; exact Nat.lt_irrefl _)
theorem setL (H : Led h₀ L h l) (hs : Heap.SameBut L h h') : Led h₀ L h' l := ⟨News.set H.N hs, H.D⟩
theorem keep (H : Led h₀ L h l) (hk : ∀ b o, h.get? b = some o → h'.get? b = some o) : Led h₀ L h' l := ⟨fun p hp => ⟨hk _ _ (H.N p hp).1, (H.N p hp).2⟩, H.D⟩
end Led

theorem fr_chg {h₀ h h' : Heap} {L a : Addr} {m : Str → Option Value} {o : Obj} {l : FP} (F : Fr h₀ L h m) (H : Led h₀ L h ((a, o) :: l)) (hs : Heap.SameBut a h h') : Fr h₀ L h' m :=
  F.change hs (H.N (a, o) (.head _)).2.1 (H.N (a, o) (.head _)).2.2

section
variable {W : Wd} {c : Cx} {x : Fx} {h h' : Heap} {σ : AS} {fps : List FP} {Z Y : FP}

theorem Rel.led (R : Rel W c x h σ fps Z Y) : Led x.h₀ x.L h (fps.flatten ++ (Z ++ (Y ++ x.U))) := ⟨R.N, R.D⟩

theorem split_at {α : Type} {l : List α} {i : Nat} {a : α} (h : l[i]? = some a) : ∃ A B, l = A ++ a :: B ∧ ∀ b, l.set i b = A ++ b :: B := by
  obtain ⟨hi, rfl⟩ := List.getElem?_eq_some_iff.mp h
  refine ⟨l.take i, l.drop (i + 1), ?_, fun b => ?_⟩
  · simp
  · rw [List.set_eq_take_append_cons_drop, if_pos hi]

theorem rho_set {i : Nat} {f f' : FP} (h : fps[i]? = some f) (e : f'.head?.map (·.1) = f.head?.map (·.1)) : rho (fps.set i f') = rho fps := by
  funext j
  unfold rho
  by_cases hj : i = j
  · subst hj
    rw [h]
    obtain ⟨hi, _⟩ := List.getElem?_eq_some_iff.mp h
    rw [List.getElem?_set_self hi]
    exact e
  · rw [List.getElem?_set_ne hj]

theorem pm {A B : List FP} {pre post r : FP} {p : Addr × Obj} : ((A ++ (pre ++ p :: post) :: B).flatten ++ r).Perm (p :: (A.flatten ++ pre ++ (post ++ B.flatten ++ r))) := by
  have : (A ++ (pre ++ p :: post) :: B).flatten ++ r = (A.flatten ++ pre) ++ p :: (post ++ B.flatten ++ r) := by simp
  rw [this]; exact List.perm_middle

/-- an object of the heap turned in place -/
theorem Rel.setObj (R : Rel W c x h σ fps Z Y) {i : Nat} {pre post : FP} {a : Addr} {o o' : Obj} (hf : fps[i]? = some (pre ++ (a, o) :: post)) (hs : Heap.SameBut a h h') (ha : h'.get? a = some o') {A : AO}
    (hA : OR W x.ep (rho fps) Z A (pre ++ (a, o') :: post)) : Rel W c x h' { σ with hp := σ.hp.set i A } (fps.set i (pre ++ (a, o') :: post)) Z Y := by
  obtain ⟨P, S, e1, e2⟩ := split_at hf
  have hr : rho (fps.set i (pre ++ (a, o') :: post)) = rho fps := rho_set hf (by cases pre <;> rfl)
  have H := R.led
  rw [e1] at H
  have H1 := H.perm pm
  have H2 := H1.chg hs ha
  have H3 := H2.perm pm.symm
  rw [← e2] at H3
  obtain ⟨m, F, q⟩ := R.fr
  exact ⟨⟨m, fr_chg F H1 hs, fun j nm v h1 h2 => by rw [hr]; exact q j nm v h1 h2⟩, fun j nm h1 => by rw [hr]; exact R.ce j nm h1, H3.N, H3.D, by rw [hr]; exact R.O.set i hA, R.G, R.V⟩

theorem rho_app {fs : List FP} {i : Nat} {a : Addr} (h : rho fps i = some a) : rho (fps ++ fs) i = some a := by
  unfold rho at h ⊢
  cases e : fps[i]? with
  | none => rw [e] at h; cases h
  | some f => rw [e] at h; rw [List.getElem?_append_left (List.getElem?_eq_some_iff.mp e).1, e]; exact h

theorem Rel.ext (R : Rel W c x h σ fps Z Y) {fps' : List FP} {Z' : FP} (X : Ext (rho fps) Z (rho fps') Z') (hk : ∀ b o, h.get? b = some o → h'.get? b = some o) {hp' : List AO} (hO : All2 (OR W x.ep (rho fps') Z') hp' fps')
    (H : Led x.h₀ x.L h' (fps'.flatten ++ (Z' ++ (Y ++ x.U)))) : Rel W c x h' { σ with hp := hp' } fps' Z' Y := by
  obtain ⟨m, F, q⟩ := R.fr
  refine ⟨⟨m, ⟨F.ns.keeps hk, fun b o e => hk b o (F.keep b o e), F.above⟩, fun j nm v h1 h2 => ?_⟩, fun j nm h1 => ?_, H.N, H.D, hO, R.G, R.V⟩
  · obtain ⟨cv, a, b⟩ := q j nm v h1 h2
    exact ⟨cv, a, VR.ext X b⟩
  · obtain ⟨a, o, co, p1, p2, p3, p4⟩ := R.ce j nm h1
    refine ⟨a, o, co, p1, p2, p3, fun v hv => ?_⟩
    obtain ⟨cv, p5, p6⟩ := p4 v hv
    exact ⟨cv, p5, VR.ext X p6⟩

/-- a new mutable object of one part -/
theorem Rel.alloc (R : Rel W c x h σ fps Z Y) {o : Obj} (hf : o.isFreed = false) {A : AO} (hA : OR W x.ep (rho fps) Z A [(h.objs.size, o)]) :
    Rel W c x (h.push o) { σ with hp := σ.hp ++ [A] } (fps ++ [[(h.objs.size, o)]]) Z Y ∧ Ext (rho fps) Z (rho (fps ++ [[(h.objs.size, o)]])) Z ∧ rho (fps ++ [[(h.objs.size, o)]]) σ.hp.length = some h.objs.size := by
  obtain ⟨m, F, q⟩ := R.fr
  have X : Ext (rho fps) Z (rho (fps ++ [[(h.objs.size, o)]])) Z := ⟨fun i a e => rho_app e, fun _ e => e⟩
  have H := R.led.push F o hf
  refine ⟨?_, X, ?_⟩
  · refine R.ext X (fun b o' e => Heap.get?_push_of_some o e) ((R.O.mono fun _ _ y => OR.ext X y).append (.cons (OR.ext X hA) .nil)) (H.perm ?_)
    have : (fps ++ [[(h.objs.size, o)]]).flatten ++ (Z ++ (Y ++ x.U)) = fps.flatten ++ (h.objs.size, o) :: (Z ++ (Y ++ x.U)) := by simp
    rw [this]
    exact List.perm_middle.symm
  · unfold rho
    rw [R.O.length, List.getElem?_append_right (Nat.le_refl _)]
    simp

/-- a new object that nobody turns -/
theorem Rel.freeze (R : Rel W c x h σ fps Z Y) {o : Obj} (hf : o.isFreed = false) :
    Rel W c x (h.push o) σ fps ((h.objs.size, o) :: Z) Y ∧ Ext (rho fps) Z (rho fps) ((h.objs.size, o) :: Z) := by
  obtain ⟨m, F, q⟩ := R.fr
  have X : Ext (rho fps) Z (rho fps) ((h.objs.size, o) :: Z) := ⟨fun i a e => e, fun _ e => .tail _ e⟩
  have H := R.led.push F o hf
  refine ⟨R.ext (hp' := σ.hp) X (fun b o' e => Heap.get?_push_of_some o e) (R.O.mono fun _ _ y => OR.ext X y) (H.perm ?_), X⟩
  exact List.perm_middle.symm

/-- an object more that is of no interest -/
theorem Rel.grow (R : Rel W c x h σ fps Z Y) (hk : ∀ b o, h.get? b = some o → h'.get? b = some o) : Rel W c x h' σ fps Z Y :=
  R.ext (hp' := σ.hp) Ext.refl hk R.O (R.led.keep hk)

/-- a thing of one's own, kept beside -/
theorem Rel.aside (R : Rel W c x h σ fps Z Y) {o : Obj} (hf : o.isFreed = false) : Rel W c { x with U := (h.objs.size, o) :: x.U } (h.push o) σ fps Z Y := by
  have R' := R.grow (h' := h.push o) fun b o' e => Heap.get?_push_of_some o e
  obtain ⟨m, F, q⟩ := R.fr
  have H := (R.led.push F o hf).perm (l' := fps.flatten ++ (Z ++ (Y ++ (h.objs.size, o) :: x.U))) (by
    have : fps.flatten ++ (Z ++ (Y ++ (h.objs.size, o) :: x.U)) = (fps.flatten ++ Z ++ Y) ++ (h.objs.size, o) :: x.U := by simp
    rw [this]
    refine List.Perm.trans ?_ List.perm_middle.symm
    simp)
  exact ⟨R'.fr, R'.ce, H.N, H.D, R'.O, R'.G, R'.V⟩
theorem pm2 {p : Addr × Obj} {U : FP} : (fps.flatten ++ (Z ++ (Y ++ p :: U))).Perm (p :: (fps.flatten ++ (Z ++ (Y ++ U)))) := by
  have : fps.flatten ++ (Z ++ (Y ++ p :: U)) = (fps.flatten ++ Z ++ Y) ++ p :: U := by simp
  rw [this]
  refine List.Perm.trans List.perm_middle ?_
  simp
theorem Rel.turnAside {a : Addr} {o o' : Obj} {U : FP} (R : Rel W c { x with U := (a, o) :: U } h σ fps Z Y) (hs : Heap.SameBut a h h') (ha : h'.get? a = some o') : Rel W c { x with U := (a, o') :: U } h' σ fps Z Y := by
  have H1 := R.led.perm pm2
  have H2 := (H1.chg hs ha).perm pm2.symm
  obtain ⟨m, F, q⟩ := R.fr
  exact ⟨⟨m, fr_chg F H1 hs, q⟩, R.ce, H2.N, H2.D, R.O, R.G, R.V⟩
theorem Rel.dropAside {p : Addr × Obj} (R : Rel W c { x with U := p :: x.U } h σ fps Z Y) : Rel W c x h σ fps Z Y := by
  have H := R.led.sub (l' := fps.flatten ++ (Z ++ (Y ++ x.U))) (by simp)
  exact ⟨R.fr, R.ce, H.N, H.D, R.O, R.G, R.V⟩
theorem Rel.asideAt {p : Addr × Obj} {U : FP} (R : Rel W c { x with U := p :: U } h σ fps Z Y) : h.get? p.1 = some p.2 := (R.N p (by simp)).1

/-! stores -/
noncomputable def pStore (i : Nat) (v : AV) : AM Unit := fun σ => some ((), { σ with loc := σ.loc.set i (some v) })
noncomputable def UR (_ : Nat → Option Addr) (_ : FP) (_ _ : Unit) : Prop := True

theorem vars_inj (nd : (c.vars.map (·.1)).Nodup) {i j : Nat} {nm : Str} {b b' : Bool} (h1 : c.vars[i]? = some (nm, b)) (h2 : c.vars[j]? = some (nm, b')) : i = j := by
  have e1 : (c.vars.map (·.1))[i]? = some nm := by rw [List.getElem?_map, h1]; rfl
  have e2 : (c.vars.map (·.1))[j]? = some nm := by rw [List.getElem?_map, h2]; rfl
  obtain ⟨hi, q1⟩ := List.getElem?_eq_some_iff.mp e1
  obtain ⟨hj, q2⟩ := List.getElem?_eq_some_iff.mp e2
  exact (List.getElem_inj nd).mp (q1.trans q2.symm)

theorem store_loc {i : Nat} {nm : Str} (hi : c.vars[i]? = some (nm, false)) (hk : c.sc.names.lookup nm = some .local) : Prim1 UR W c (fun x v => storeName x.env nm v) (pStore i) := by
  intro x ok s σ fps Z Y R a ca ha v σ' e Q E k
  cases e
  obtain ⟨m, F, q⟩ := R.fr
  have hn := F.ns
  rw [← ok.loc] at hn
  refine wpAny_storeName_local (by show x.env.scope.names.lookup nm = _; rw [ok.sc, hk]) hn (fun h' hn' hs => ?_) (by rw [ok.sc, ok.kind]; rfl)
  rw [ok.loc] at hn' hs
  have F' := F.set hn' hs
  have H := R.led.setL hs
  refine k h' _ fps Z Y () ⟨⟨_, F', fun j nm' v h1 h2 => ?_⟩, fun j nm' h1 => ?_, H.N, H.D, R.O, by rw [← R.G]; exact List.length_set, R.V⟩ Ext.refl trivial
  · by_cases hj : i = j
    · subst hj
      rw [hi] at h1; cases h1
      obtain ⟨hl, _⟩ := List.getElem?_eq_some_iff.mp hi
      rw [List.getElem?_set_self (by rw [R.G]; exact hl)] at h2
      cases h2
      exact ⟨ca, by simp, ha⟩
    · rw [List.getElem?_set_ne hj] at h2
      obtain ⟨cv, p1, p2⟩ := q j nm' v h1 h2
      refine ⟨cv, ?_, p2⟩
      have : nm' ≠ nm := fun z => hj (by subst z; exact vars_inj ok.nd hi h1)
      simp only [if_neg this]; exact p1
  · obtain ⟨a, o, co, p1, p2, p3, p4⟩ := R.ce j nm' h1
    refine ⟨a, o, co, p1, p2, p3, fun v hv => ?_⟩
    have hj : i ≠ j := fun z => by subst z; rw [hi] at h1; cases h1
    rw [List.getElem?_set_ne hj] at hv
    exact p4 v hv
end
end Mine

end
section
open PySem PySem.W PySem.Calls PyProof.Rows
set_option Elab.async false
namespace Mine
section
variable {W : Wd} {c : Cx}

theorem pm3 {fps : List FP} {Z A B U : FP} {p : Addr × Obj} : (fps.flatten ++ (Z ++ ((A ++ p :: B) ++ U))).Perm (p :: (fps.flatten ++ (Z ++ ((A ++ B) ++ U)))) := by
  have : fps.flatten ++ (Z ++ ((A ++ p :: B) ++ U)) = (fps.flatten ++ Z ++ A) ++ p :: (B ++ U) := by simp
  rw [this]
  refine List.Perm.trans List.perm_middle ?_
  simp

theorem store_cell {i : Nat} {nm : Str} (hi : c.vars[i]? = some (nm, true)) (ho : i < c.own) (hk : c.sc.names.lookup nm = some .cell) : Prim1 UR W c (fun x v => storeName x.env nm v) (pStore i) := by
  intro x ok s σ fps Z Y R a ca ha v σ' e Q E k
  cases e
  obtain ⟨cl, o, co, p1, p2, p3, p4⟩ := R.ce i nm hi
  replace p2 : (cl, o) ∈ Y := p2.elim id fun z => absurd z.1 (Nat.not_le.mpr ho)
  obtain ⟨A, B, rfl⟩ := List.append_of_mem p2
  have H1 := R.led.perm pm3
  refine wpAny_storeName_cell (by rw [ok.sc, ok.kind]) (by show x.env.scope.names.lookup nm = _; rw [ok.sc, hk]) p1 ⟨o, (H1.N _ (.head _)).1, p3⟩ fun h' hc hs => ?_
  obtain ⟨o', ho', hd'⟩ := hc
  have H2 := (H1.chg hs ho').perm pm3.symm
  obtain ⟨m, F, q⟩ := R.fr
  obtain ⟨hl, _⟩ := List.getElem?_eq_some_iff.mp hi
  refine k h' _ fps Z (A ++ (cl, o') :: B) () ⟨⟨m, fr_chg F H1 hs, fun j nm' v h1 h2 => ?_⟩, fun j nm' h1 => ?_, H2.N, H2.D, R.O, by rw [← R.G]; exact List.length_set, fun p hp => ?_⟩ Ext.refl trivial
  · have hj : i ≠ j := fun z => by subst z; rw [hi] at h1; cases h1
    rw [List.getElem?_set_ne hj] at h2
    exact q j nm' v h1 h2
  · by_cases hj : i = j
    · subst hj
      rw [hi] at h1; cases h1
      refine ⟨cl, o', some ca, p1, .inl (by simp), hd', fun v hv => ?_⟩
      rw [List.getElem?_set_self (by rw [R.G]; exact hl)] at hv
      cases hv
      exact ⟨ca, rfl, ha⟩
    · obtain ⟨a2, o2, co2, q1, q2, q3, q4⟩ := R.ce j nm' h1
      have hne : nm' ≠ nm := fun z => hj (by subst z; exact vars_inj ok.nd hi h1)
      have ha : a2 ≠ cl := fun z => hne (ok.cinj _ _ _ (z ▸ q1) p1)
      refine ⟨a2, o2, co2, q1, ?_, q3, fun v hv => q4 v (by rwa [List.getElem?_set_ne hj] at hv)⟩
      refine q2.imp (fun q2 => ?_) id
      rcases List.mem_append.mp q2 with z | z
      · exact List.mem_append_left _ z
      · rcases List.mem_cons.mp z with z | z
        · cases z; exact absurd rfl ha
        · exact List.mem_append_right _ (.tail _ z)
  · obtain ⟨o2, q2, q3⟩ := R.V p hp
    have hne : p.1 ≠ cl := ok.ap nm cl p1 p hp
    refine ⟨o2, ?_, q3⟩
    rcases List.mem_append.mp q2 with z | z
    · exact List.mem_append_left _ z
    · rcases List.mem_cons.mp z with z | z
      · exact absurd (congrArg Prod.fst z) hne
      · exact List.mem_append_right _ (.tail _ z)

/-! statements -/
theorem sx_assign {i : Nat} {nm : Str} {p' pos : Pos} {value : Expr} {f : AM AV} (h : SE W c value f) (hst : Prim1 UR W c (fun x v => storeName x.env nm v) (pStore i))
    (hs : ∀ env, swapsWith value (some (.Name nm p')) pos.line env = pure false) : SX W c (.Assign [.Name nm p'] value pos) (bnd f fun v => bnd (pStore i v) fun _ => ok .next) := by
  intro x ok s σ fps Z Y R v σ' e Q E k
  refine wpAny_Assign_Name (h.bind ok R e fun a σ₁ h₁ tk₁ fps₁ Z₁ Y₁ ca _ e₁ R₁ X₁ p₁ => ?_) (hs _)
  obtain ⟨u, σ₂, e₂, e₃⟩ := bnd_some e₁
  cases e₃
  exact hst x ok _ σ₁ fps₁ Z₁ Y₁ R₁ a ca p₁ u σ' e₂ _ E fun h₂ tk₂ fps₂ Z₂ Y₂ _ R₂ X₂ _ => k h₂ tk₂ fps₂ Z₂ Y₂ _ R₂ (X₁.trans X₂) rfl

theorem sx_ret {e : Expr} {pos : Pos} {f : AM AV} (h : SE W c e f) : SX W c (.Return (some e) pos) (bnd f fun v => ok (.ret v)) := by
  intro x ok s σ fps Z Y R v σ' e Q E k
  refine wpAny_Return_some (h.bind ok R e fun a σ₁ h₁ tk₁ fps₁ Z₁ Y₁ ca _ e₁ R₁ X₁ p₁ => ?_)
  cases e₁
  exact k h₁ tk₁ fps₁ Z₁ Y₁ _ R₁ X₁ ⟨ca, rfl, p₁⟩
theorem sx_expr {e : Expr} {pos : Pos} {f : AM AV} (h : SE W c e f) (hs : ∀ env, swapsWith e none pos.line env = pure false) : SX W c (.Expr e pos) (bnd f fun _ => ok .next) := by
  intro x ok s σ fps Z Y R v σ' e Q E k
  refine wpAny_Expr_any (h.bind ok R e fun a σ₁ h₁ tk₁ fps₁ Z₁ Y₁ ca _ e₁ R₁ X₁ p₁ => ?_) (by unfold interactive; rw [ok.sc, ok.kind]; rfl) (hs _)
  cases e₁
  exact k h₁ tk₁ fps₁ Z₁ Y₁ _ R₁ X₁ rfl
theorem sx_break {pos : Pos} : SX W c (.Break pos) (ok .brk) := by
  intro x _ s σ fps Z Y R v σ' e Q E k
  cases e
  exact wpAny_Break (k.here R rfl)
theorem sx_continue {pos : Pos} : SX W c (.Continue pos) (ok .cont) := by
  intro x _ s σ fps Z Y R v σ' e Q E k
  cases e
  exact wpAny_Continue (k.here R rfl)
theorem sx_if {test : Expr} {body orelse : List Stmt} {pos : Pos} {t : AM Bool} {f g : AM AF} (ht : ST W c test t) (hf : SB W c body f) (hg : SB W c orelse g) : SX W c (.If test body orelse pos) (bnd t fun b => if b then f else g) := by
  intro x ok s σ fps Z Y R v σ' e Q E k
  refine wpAny_If (ht.bind ok R e fun a σ₁ h₁ tk₁ fps₁ Z₁ Y₁ ca _ e₁ R₁ X₁ p₁ => ?_)
  cases p₁
  cases a with
  | true => exact hf x ok _ σ₁ fps₁ Z₁ Y₁ R₁ v σ' e₁ Q E (k.ext X₁ h₁ tk₁)
  | false => exact hg x ok _ σ₁ fps₁ Z₁ Y₁ R₁ v σ' e₁ Q E (k.ext X₁ h₁ tk₁)
/-- what is never reached -/
theorem sx_never {st : Stmt} : SX W c st no := by intro x _ s σ fps Z Y R v σ' e; cases e
noncomputable def andThen (f g : AM AF) : AM AF := bnd f fun fl => match fl with
  | .next => g
  | fl => ok fl
theorem sb_nil : SB W c [] (ok .next) := by
  intro x _ s σ fps Z Y R v σ' e Q E k
  cases e
  exact wpAny_execs_nil (k.here R rfl)
theorem sb_cons {st : Stmt} {r : List Stmt} {f g : AM AF} (h : SX W c st f) (hr : SB W c r g) : SB W c (st :: r) (andThen f g) := by
  intro x ok s σ fps Z Y R v σ' e Q E k
  refine wpAny_execs_cons (h.bind ok R e fun a σ₁ h₁ tk₁ fps₁ Z₁ Y₁ ca _ e₁ R₁ X₁ p₁ => ?_)
  cases a with
  | next => cases p₁; exact hr x ok _ σ₁ fps₁ Z₁ Y₁ R₁ v σ' e₁ Q E (k.ext X₁ h₁ tk₁)
  | brk => cases p₁; cases e₁; exact k h₁ tk₁ fps₁ Z₁ Y₁ _ R₁ X₁ rfl
  | cont => cases p₁; cases e₁; exact k h₁ tk₁ fps₁ Z₁ Y₁ _ R₁ X₁ rfl
  | ret w => obtain ⟨cv, rfl, hv⟩ := p₁; cases e₁; exact k h₁ tk₁ fps₁ Z₁ Y₁ _ R₁ X₁ ⟨cv, rfl, hv⟩
theorem sb_one {st : Stmt} {f : AM AF} (h : SX W c st f) : SB W c [st] f := by
  intro x ok s σ fps Z Y R v σ' e Q E k
  refine wpAny_execs_cons (h x ok s σ fps Z Y R v σ' e _ E fun h₁ tk₁ fps₁ Z₁ Y₁ ca R₁ X₁ p₁ => ?_)
  have z := k h₁ tk₁ fps₁ Z₁ Y₁ _ R₁ X₁ p₁
  cases ca with
  | next => exact wpAny_execs_nil z
  | _ => exact z

/-! dropping what a turn has made -/
noncomputable def AV.below (n : Nat) : AV → Bool
  | .ref i => decide (i < n)
  | .pr i _ => decide (i < n)
  | _ => true
noncomputable def AO.below (n : Nat) : AO → Bool
  | .list l => l.all (AV.below n)
  | .dict _ d => d.all fun p => p.2.below n
  | .set _ => true
  | .sorter p q r t => p.below n && q.below n && r.below n && t.below n
  | .node p q r => p.below n && q.below n && r.below n
  | .meth l _ => decide (l < n)
  | .part l => l.all (AV.below n)
  | .npart l => l.all (AV.below n)
  | .dead => true
noncomputable def cut (n : Nat) (σ : AS) : Option AS :=
  if (σ.hp.take n).all (AO.below n) then some ⟨σ.loc.map fun o => match o with | some v => if v.below n then some v else none | none => none, σ.hp.take n⟩ else none

theorem rho_take {fps : List FP} {n i : Nat} (h : i < n) : rho (fps.take n) i = rho fps i := by
  unfold rho; rw [List.getElem?_take_of_lt h]
theorem VR.cut {fps : List FP} {Z : FP} {n : Nat} {v : AV} {cv : Value} (h : VR (rho fps) Z v cv) (hb : v.below n = true) : VR (rho (fps.take n)) Z v cv := by
  cases v with
  | ref i => obtain ⟨a, e, q⟩ := h; exact ⟨a, by rw [rho_take (of_decide_eq_true hb)]; exact e, q⟩
  | pr i j => obtain ⟨a, n, ad, t, e, m, q⟩ := h; exact ⟨a, n, ad, t, e, m, by rw [rho_take (of_decide_eq_true hb)]; exact q⟩
  | _ => exact h
theorem all2_cut {fps : List FP} {Z : FP} {n : Nat} : ∀ {l : List AV} {vs : List Value}, All2 (VR (rho fps) Z) l vs → l.all (AV.below n) = true → All2 (VR (rho (fps.take n)) Z) l vs
  | _, _, .nil, _ => .nil
  | _, _, .cons x h, hb => by
    rw [List.all_cons, Bool.and_eq_true] at hb
    exact .cons (x.cut hb.1) (all2_cut h hb.2)
theorem all2_cutD {fps : List FP} {Z : FP} {n : Nat} : ∀ {l : List (Int × AV)} {vs : List (Int × Value)}, All2 (fun (p : Int × AV) (q : Int × Value) => p.1 = q.1 ∧ VR (rho fps) Z p.2 q.2) l vs → (l.all fun p => p.2.below n) = true →
    All2 (fun (p : Int × AV) (q : Int × Value) => p.1 = q.1 ∧ VR (rho (fps.take n)) Z p.2 q.2) l vs
  | _, _, .nil, _ => .nil
  | _, _, .cons x h, hb => by
    rw [List.all_cons, Bool.and_eq_true] at hb
    exact .cons ⟨x.1, x.2.cut hb.1⟩ (all2_cutD h hb.2)
theorem OR.cut {ep : Nat} {fps : List FP} {Z : FP} {n : Nat} {o : AO} {f : FP} (h : OR W ep (rho fps) Z o f) (hb : o.below n = true) : OR W ep (rho (fps.take n)) Z o f := by
  cases o with
  | list l => obtain ⟨a, vs, k, e, q⟩ := h; exact ⟨a, vs, k, e, all2_cut q hb⟩
  | dict lk d => obtain ⟨a, o, kvs, e, e1, e2, i, j, q⟩ := h; exact ⟨a, o, kvs, e, e1, e2, i, j, all2_cutD q hb⟩
  | set l => exact h
  | sorter p q r t =>
    obtain ⟨a, b, n, v1, v2, v3, v4, t1, t2, t3, t4, e, h1, h2, h3, h4⟩ := h
    simp only [AO.below, Bool.and_eq_true] at hb
    exact ⟨a, b, n, v1, v2, v3, v4, t1, t2, t3, t4, e, h1.cut hb.1.1.1, h2.cut hb.1.1.2, h3.cut hb.1.2, h4.cut hb.2⟩
  | node p q r =>
    obtain ⟨a, b, v1, v2, v3, e, h1, h2, h3⟩ := h
    simp only [AO.below, Bool.and_eq_true] at hb
    exact ⟨a, b, v1, v2, v3, e, h1.cut hb.1.1, h2.cut hb.1.2, h3.cut hb.2⟩
  | part l => obtain ⟨a, b, n, vs, ts, e, h1, h2⟩ := h; exact ⟨a, b, n, vs, ts, e, all2_cut h1 hb, h2⟩
  | npart l => obtain ⟨a, b, vs, e, h1⟩ := h; exact ⟨a, b, vs, e, all2_cut h1 hb⟩
  | dead => exact h
  | meth l p => obtain ⟨a, b, al, ob, e, q1, q2, q3⟩ := h; exact ⟨a, b, al, ob, by rw [rho_take (of_decide_eq_true hb)]; exact e, q1, q2, q3⟩
theorem all2_cutO {ep : Nat} {fps : List FP} {Z : FP} {n : Nat} : ∀ {l : List AO} {fs : List FP}, All2 (OR W ep (rho fps) Z) l fs → l.all (AO.below n) = true → All2 (OR W ep (rho (fps.take n)) Z) l fs
  | _, _, .nil, _ => .nil
  | _, _, .cons x h, hb => by
    rw [List.all_cons, Bool.and_eq_true] at hb
    exact .cons (x.cut hb.1) (all2_cutO h hb.2)
theorem Rel.cut {x : Fx} {h : Heap} {σ σ' : AS} {fps : List FP} {Z Y : FP} {n : Nat} (R : Rel W c x h σ fps Z Y) (e : cut n σ = some σ') : Rel W c x h σ' (fps.take n) Z Y := by
  unfold Mine.cut at e
  split at e
  · rename_i hb
    cases e
    have H := R.led.sub (l' := (fps.take n).flatten ++ (Z ++ (Y ++ x.U))) (by
      refine List.Sublist.append ?_ (List.Sublist.refl _)
      have : fps.flatten = (fps.take n).flatten ++ (fps.drop n).flatten := by rw [← List.flatten_append, List.take_append_drop]
      rw [this]
      exact List.sublist_append_left _ _)
    obtain ⟨m, F, q⟩ := R.fr
    refine ⟨⟨m, F, fun j nm v h1 h2 => ?_⟩, fun j nm h1 => ?_, H.N, H.D, all2_cutO (R.O.take n) hb, by simp [R.G], R.V⟩
    · rw [List.getElem?_map] at h2
      cases hv : σ.loc[j]? with
      | none => rw [hv] at h2; cases h2
      | some ov =>
        rw [hv] at h2
        cases ov with
        | none => cases h2
        | some u =>
          simp only [Option.map_some] at h2
          split at h2
          · rename_i hu
            cases h2
            obtain ⟨cv, p1, p2⟩ := q j nm _ h1 hv
            exact ⟨cv, p1, p2.cut hu⟩
          · cases h2
    · obtain ⟨a, o, co, p1, p2, p3, p4⟩ := R.ce j nm h1
      refine ⟨a, o, co, p1, p2, p3, fun v h2 => ?_⟩
      rw [List.getElem?_map] at h2
      cases hv : σ.loc[j]? with
      | none => rw [hv] at h2; cases h2
      | some ov =>
        rw [hv] at h2
        cases ov with
        | none => cases h2
        | some u =>
          simp only [Option.map_some] at h2
          split at h2
          · rename_i hu
            cases h2
            obtain ⟨cv, p5, p6⟩ := p4 _ hv
            exact ⟨cv, p5, p6.cut hu⟩
          · cases h2
  · cases e
theorem rho_len {fps : List FP} {i : Nat} {a : Addr} (h : rho fps i = some a) : i < fps.length := by
  unfold rho at h
  cases e : fps[i]? with
  | none => rw [e] at h; cases h
  | some f => exact (List.getElem?_eq_some_iff.mp e).1
theorem Ext.cut {fps fps' : List FP} {Z Z' : FP} {n : Nat} (X : Ext (rho fps) Z (rho fps') Z') (hn : fps.length ≤ n) : Ext (rho fps) Z (rho (fps'.take n)) Z' :=
  ⟨fun i a e => by rw [rho_take (Nat.lt_of_lt_of_le (rho_len e) hn)]; exact X.r i a e, X.z⟩
end
end Mine

end
section
open PySem PySem.W PySem.Calls PyProof.Rows
set_option Elab.async false
namespace Mine
section
variable {W : Wd} {c : Cx}

noncomputable def turnEnd (b : Bool) (n : Nat) (σ : AS) : Option AS := if b then cut n σ else some σ
theorem turnEnd_rel {b : Bool} {n : Nat} {σ σ' : AS} {x : Fx} {h : Heap} {fps fps₀ : List FP} {Z Z₀ Y : FP} (R : Rel W c x h σ fps Z Y) (X : Ext (rho fps₀) Z₀ (rho fps) Z) (hn : fps₀.length ≤ n) (e : turnEnd b n σ = some σ') :
    ∃ fps', Rel W c x h σ' fps' Z Y ∧ Ext (rho fps₀) Z₀ (rho fps') Z := by
  unfold turnEnd at e
  split at e
  · exact ⟨_, R.cut e, X.cut hn⟩
  · cases e; exact ⟨fps, R, X⟩

/-! while -/
noncomputable def aWhile (b : Bool) (n : Nat) (t : AM Bool) (f g : AM AF) : Nat → AM AF
  | 0 => no
  | k + 1 => bnd t fun tb => if tb then bnd f fun fl => match fl with
      | .next => fun σ => match turnEnd b n σ with
        | some σ' => aWhile b n t f g k σ'
        | none => none
      | .cont => fun σ => match turnEnd b n σ with
        | some σ' => aWhile b n t f g k σ'
        | none => none
      | .brk => ok .next
      | .ret v => ok (.ret v)
    else g
inductive WhI (W : Wd) (c : Cx) (x : Fx) (b : Bool) (n : Nat) (t : AM Bool) (f g : AM AF) (fps : List FP) (Z : FP) (s : Shared) (v : AF) (σ' : AS) (m : Nat) (s' : Shared) : Prop
  | mk (h : Heap) (tk : Tok) (τ : AS) (fps₁ : List FP) (Z₁ Y₁ : FP) (es : s' = { s with heap := h, toks := tk }) (R : Rel W c x h τ fps₁ Z₁ Y₁) (X : Ext (rho fps) Z (rho fps₁) Z₁) (e : aWhile b n t f g m τ = some (v, σ'))
theorem sx_while {test : Expr} {body orelse : List Stmt} {pos : Pos} {t : AM Bool} {f g : AM AF} (b : Bool) (k : Nat) (ht : ST W c test t) (hf : SB W c body f) (hg : SB W c orelse g) :
    SX W c (.While test body orelse pos) (fun σ => aWhile b σ.hp.length t f g k σ) := by
  intro x ok s σ fps Z Y R v σ' e Q E kk
  have hlen : fps.length = σ.hp.length := R.O.length.symm
  refine wpAny_While (codeAny_whileLoop (WhI W c x b σ.hp.length t f g fps Z s v σ') ?_ k
    ⟨s.heap, s.toks, σ, fps, Z, Y, rfl, R, Ext.refl, e⟩)
  rintro m s' ⟨h, tk, τ, fps₁, Z₁, Y₁, rfl, R₁, X₁, e₁⟩
  cases m with
  | zero => cases e₁
  | succ m =>
    refine ht.bind (s := { s with heap := h, toks := tk }) ok R₁ e₁ fun a τ₂ h₂ tk₂ fps₂ Z₂ Y₂ ca _ e₂ R₂ X₂ p₂ => ?_
    cases p₂
    cases a with
    | false =>
      rw [if_neg (by simp)]
      exact hg x ok _ τ₂ fps₂ Z₂ Y₂ R₂ v σ' e₂ _ _ fun h₃ tk₃ fps₃ Z₃ Y₃ fl R₃ X₃ p₃ => kk h₃ tk₃ fps₃ Z₃ Y₃ fl R₃ ((X₁.trans X₂).trans X₃) p₃
    | true =>
      rw [if_pos rfl]
      refine hf.bind (s := { s with heap := h₂, toks := tk₂ }) ok R₂ e₂ fun fl τ₃ h₃ tk₃ fps₃ Z₃ Y₃ cfl _ e₃ R₃ X₃ p₃ => ?_
      have X := (X₁.trans X₂).trans X₃
      have go : (match turnEnd b σ.hp.length τ₃ with | some σ'' => aWhile b σ.hp.length t f g m σ'' | none => none) = some (v, σ') →
          ∃ m', m' < m + 1 ∧ WhI W c x b σ.hp.length t f g fps Z s v σ' m' { s with heap := h₃, toks := tk₃ } := by
        intro e₄
        split at e₄
        · rename_i τ₄ ht₄
          obtain ⟨fps₄, R₄, X₄⟩ := turnEnd_rel R₃ X (Nat.le_of_eq hlen) ht₄
          exact ⟨m, Nat.lt_succ_self m, ⟨h₃, tk₃, τ₄, fps₄, Z₃, Y₃, rfl, R₄, X₄, e₄⟩⟩
        · cases e₄
      cases fl with
      | next => cases p₃; exact go e₃
      | cont => cases p₃; exact go e₃
      | brk => cases p₃; cases e₃; exact kk h₃ tk₃ fps₃ Z₃ Y₃ _ R₃ X rfl
      | ret u => obtain ⟨cu, rfl, hu⟩ := p₃; cases e₃; exact kk h₃ tk₃ fps₃ Z₃ Y₃ _ R₃ X ⟨cu, rfl, hu⟩

/-! what a loop goes over -/
inductive Src where
  | items (l : List AV)
  | mlist (k : Nat)
  | mdict (k n : Nat)
  | mvals (k n : Nat)
noncomputable def nxt (src : Src) (i : Nat) (σ : AS) : Option (Option AV) := match src with
  | .items l => some l[i]?
  | .mlist k => match σ.hp[k]? with
    | some (.list l) => some l[i]?
    | _ => none
  | .mdict k n => match σ.hp[k]? with
    | some (.dict true d) => if d.length = n then some (d[i]?.map fun p => .int p.1) else none
    | _ => none
  | .mvals k n => match σ.hp[k]? with
    | some (.dict true d) => if d.length = n then some (d[i]?.map fun p => p.2) else none
    | _ => none

noncomputable def fieldsOf' (cls : String) (vs : Array Value) : Obj := { cls := .type cls, data := .fields vs }
inductive JL (ρ : Nat → Option Addr) (Z : FP) (l : List AV) (i : Nat) (o : Obj) : Prop
  | mk (a : Addr) (vs : List Value) (n : Nat) (h1 : o.cls = .type "list_iterator") (h2 : o.data = .fields #[.ref a, .int i 0]) (h3 : (a, listOf (List.toArray vs) n) ∈ Z) (h4 : All2 (VR ρ Z) l vs)
inductive JT (ρ : Nat → Option Addr) (Z : FP) (l : List AV) (i : Nat) (o : Obj) : Prop
  | mk (a : Addr) (vs : List Value) (n : Nat) (h1 : o.cls = .type "tuple_iterator") (h2 : o.data = .fields #[.ref a, .int i 0]) (h3 : (a, tupOf (List.toArray vs) n) ∈ Z) (h4 : All2 (VR ρ Z) l vs)
inductive JG (l : List AV) (i : Nat) (o : Obj) : Prop
  | mk (a k : Int) (n : Nat) (h1 : o = { cls := .type "range_iterator", data := .fields #[rawInt (a + (i : Nat) * k), rawInt ((n : Int) - (i : Nat)), rawInt k] }) (h2 : l = (List.range n).map fun (j : Nat) => AV.int (a + (j : Int) * k))
inductive JK (cls : String) (ep : Nat) (ρ : Nat → Option Addr) (k n i : Nat) (o : Obj) : Prop
  | mk (a : Addr) (e : ρ k = some a) (h1 : o.cls = .type cls) (h2 : o.data = .fields #[.ref a, .int i 0, .int (n : Nat) 0, .int ep 0])
inductive JM (ρ : Nat → Option Addr) (k i : Nat) (o : Obj) : Prop
  | mk (a : Addr) (e : ρ k = some a) (h1 : o.cls = .type "list_iterator") (h2 : o.data = .fields #[.ref a, .int i 0])
/-- the iterator's object before the turn i -/
noncomputable def J (ep : Nat) (ρ : Nat → Option Addr) (Z : FP) (src : Src) (i : Nat) (o : Obj) : Prop := match src with
  | .items l => JL ρ Z l i o ∨ JT ρ Z l i o ∨ JG l i o
  | .mlist k => JM ρ k i o
  | .mdict k n => JK "dict_keyiterator" ep ρ k n i o
  | .mvals k n => JK "dict_valueiterator" ep ρ k n i o

theorem J.ext {ep : Nat} {ρ ρ' : Nat → Option Addr} {Z Z' : FP} (X : Ext ρ Z ρ' Z') {src : Src} {i : Nat} {o : Obj} (h : J ep ρ Z src i o) : J ep ρ' Z' src i o := by
  cases src with
  | items l =>
    rcases h with ⟨a, vs, n, h1, h2, h3, h4⟩ | ⟨a, vs, n, h1, h2, h3, h4⟩ | h
    · exact .inl ⟨a, vs, n, h1, h2, X.z _ h3, h4.mono fun _ _ y => VR.ext X y⟩
    · exact .inr (.inl ⟨a, vs, n, h1, h2, X.z _ h3, h4.mono fun _ _ y => VR.ext X y⟩)
    · exact .inr (.inr h)
  | mlist k => obtain ⟨a, h1, h2, h3⟩ := h; exact ⟨a, X.r _ _ h1, h2, h3⟩
  | mdict k n => obtain ⟨a, h1, h2, h3⟩ := h; exact ⟨a, X.r _ _ h1, h2, h3⟩
  | mvals k n => obtain ⟨a, h1, h2, h3⟩ := h; exact ⟨a, X.r _ _ h1, h2, h3⟩

theorem Rel.endAside {x : Fx} {h h' : Heap} {σ : AS} {fps : List FP} {Z Y U : FP} {I : Addr} {o : Obj} (R : Rel W c { x with U := (I, o) :: U } h σ fps Z Y) (hk : ∀ b o, b ≠ I → h.get? b = some o → h'.get? b = some o) :
    Rel W c { x with U := U } h' σ fps Z Y := by
  have H1 := R.led.perm pm2
  obtain ⟨m, F, q⟩ := R.fr
  have hI := H1.N (I, o) (.head _)
  obtain ⟨oL, es, ep, hL, r⟩ := F.ns
  have F' : Fr x.h₀ x.L h' m := ⟨⟨oL, es, ep, hk _ _ (Ne.symm hI.2.1) hL, r⟩, fun b ob e => hk b ob (fun z => by subst z; rw [hI.2.2] at e; cases e) (F.keep b ob e), F.above⟩
  have hn : I ∉ (fps.flatten ++ (Z ++ (Y ++ U))).map (·.1) := by
    have := H1.D
    rw [List.map_cons, List.nodup_cons] at this
    exact this.1
  have H2 : Led x.h₀ x.L h' (fps.flatten ++ (Z ++ (Y ++ U))) := by
    have H := H1.sub (List.sublist_cons_self _ _)
    exact ⟨fun p hp => ⟨hk _ _ (fun z => hn (z ▸ List.mem_map_of_mem hp)) (H.N p hp).1, (H.N p hp).2⟩, H.D⟩
  exact ⟨⟨m, F', q⟩, R.ce, H2.N, H2.D, R.O, R.G, R.V⟩

theorem DObj.at {h : Heap} {a : Addr} {o : Obj} {kvs : List (Int × Value)} {ep : Nat} (D : DObj W o kvs ep) (ho : h.get? a = some o) : h.DictAt (intKind W.prog W.w) a kvs ep := by
  obtain ⟨h1, es, h2, h3, h4, h5⟩ := D
  exact ⟨o, es, ho, h1, h2, h3, h4, h5⟩

/-- a dict's facts -/
theorem Rel.dic {x : Fx} {h : Heap} {σ : AS} {fps : List FP} {Z Y : FP} (R : Rel W c x h σ fps Z Y) {i : Nat} {lk : Bool} {d : List (Int × AV)} (e : σ.hp[i]? = some (.dict lk d)) :
    ∃ a o kvs ep, rho fps i = some a ∧ fps[i]? = some [(a, o)] ∧ (a == sysModules) = false ∧ (lk = true → ep = x.ep) ∧ All2 (fun (p : Int × AV) (q : Int × Value) => p.1 = q.1 ∧ VR (rho fps) Z p.2 q.2) d kvs ∧ h.get? a = some o ∧ h.DictAt (intKind W.prog W.w) a kvs ep := by
  obtain ⟨f, hf, a, o, kvs, ep, rfl, hs, hd, hl, hv⟩ := R.obj e
  have ha := R.at hf (.head _)
  exact ⟨a, o, kvs, ep, rho_of hf rfl, hf, hs, hl, hv, ha.1, hd.at ha.1⟩

section
variable {x : Fx} {s : Shared} {σ : AS} {fps : List FP} {Z Y U : FP} {I : Addr} {o : Obj} {src : Src} {i : Nat}
theorem next_item {ρ₁ : Nat → Option Addr} {Z₁ : FP} (R : Rel W c { x with U := (I, o) :: U } s.heap σ fps Z Y) (X : Ext ρ₁ Z₁ (rho fps) Z) (hJ : J x.ep ρ₁ Z₁ src i o) {v : AV} (hn : nxt src i σ = some (some v)) {A : Around} {Q : Option Value → Shared → Prop} {E : Value → Shared → Prop}
    (k : ∀ h' tk o' cv, Rel W c { x with U := (I, o') :: U } h' σ fps Z Y → J x.ep ρ₁ Z₁ src (i + 1) o' → VR (rho fps) Z v cv → Q (some cv) { s with heap := h', toks := tk }) :
    wpAny (model W.prog W.w) A (pyNext (.ref I)) Q E s := by
  have hI : s.heap.get? I = some o := R.asideAt
  cases src with
  | items l =>
    have hl : l[i]? = some v := Option.some.inj hn
    rcases hJ with ⟨a, vs, n, h1, h2, h3, h4⟩ | ⟨a, vs, n, h1, h2, h3, h4⟩ | ⟨a, b, n, h1, h2⟩
    · obtain ⟨cv, hc, hv⟩ := h4.get hl
      replace hv := VR.ext X hv
      refine wpAny_pyNext_list_item (l := a) (i := i) (items := List.toArray vs) (x := cv) ⟨o, hI, h1, h2⟩ ⟨_, (R.frozen (X.z _ h3)).1, rfl, n, rfl⟩ (by simpa using hc) fun h' hit hs => ?_
      obtain ⟨o', ho', c', d'⟩ := hit
      exact k h' _ o' cv (R.turnAside hs ho') (.inl ⟨a, vs, n, c', d', h3, h4⟩) hv
    · obtain ⟨cv, hc, hv⟩ := h4.get hl
      replace hv := VR.ext X hv
      refine wpAny_pyNext_tuple_item (t := a) (i := i) (items := List.toArray vs) (x := cv) ⟨o, hI, h1, h2⟩ ⟨_, (R.frozen (X.z _ h3)).1, rfl, n, rfl⟩ (by simpa using hc) fun h' hit hs => ?_
      obtain ⟨o', ho', c', d'⟩ := hit
      exact k h' _ o' cv (R.turnAside hs ho') (.inr (.inl ⟨a, vs, n, c', d', h3, h4⟩)) hv
    · subst h1 h2
      obtain ⟨hi, hv⟩ := List.getElem?_eq_some_iff.mp hl
      simp only [List.length_map, List.length_range] at hi
      simp only [List.getElem_map, List.getElem_range] at hv
      subst hv
      refine wpAny_pyNext_range_item (x := a + (i : Nat) * b) (left := (n : Int) - (i : Nat)) (step := b) hI (by omega) fun h' hit hs => ?_
      refine k h' _ _ _ (R.turnAside hs hit) (.inr (.inr ⟨a, b, n, ?_, rfl⟩)) ⟨_, rfl⟩
      have e1 : a + ((i + 1 : Nat) : Int) * b = a + (i : Int) * b + b := by push_cast; rw [Int.add_mul, Int.one_mul, Int.add_assoc]
      have e2 : (n : Int) - ((i + 1 : Nat) : Int) = (n : Int) - (i : Int) - 1 := by push_cast; omega
      rw [e1, e2]
  | mlist m =>
    unfold nxt at hn
    dsimp only at hn
    split at hn
    · rename_i l hl
      obtain ⟨a, hr, h1, h2⟩ := hJ
      obtain ⟨a', vs, n, hr', hf, hv, ho, hL⟩ := R.lst hl
      rw [X.r _ _ hr] at hr'; cases hr'
      obtain ⟨cv, hc, hw⟩ := hv.get (Option.some.inj hn)
      refine wpAny_pyNext_list_item (l := a) (i := i) (items := List.toArray vs) (x := cv) ⟨o, hI, h1, h2⟩ hL (by simpa using hc) fun h' hit hs => ?_
      obtain ⟨o', ho', c', d'⟩ := hit
      exact k h' _ o' cv (R.turnAside hs ho') ⟨a, hr, c', d'⟩ hw
    · cases hn
  | mdict m n =>
    unfold nxt at hn
    dsimp only at hn
    split at hn
    · rename_i d hd
      split at hn
      · rename_i hlen
        obtain ⟨a, hr, h1, h2⟩ := hJ
        obtain ⟨a', od, kvs, ep, hr', hf, hs0, he, hv, ho, hD⟩ := R.dic hd
        rw [X.r _ _ hr] at hr'; cases hr'
        have hep := he rfl
        have hl2 := hv.length
        have hx := Option.some.inj hn
        cases hdi : d[i]? with
        | none => rw [hdi] at hx; cases hx
        | some p =>
          rw [hdi] at hx
          cases hx
          obtain ⟨⟨key, kv⟩, hc, hw1, hw2⟩ := hv.get hdi
          refine wpAny_pyNext_dict_item (knd := intKind W.prog W.w) (it := I) (d := a) (i := i) (kvs := kvs) (ep := ep) ⟨o, hI, h1, by rw [← hl2, hlen, hep]; exact h2⟩ hD hc fun ck h' hkey hit hs => ?_
          obtain ⟨o', ho', c', d'⟩ := hit
          obtain ⟨t, rfl⟩ := Value.isInt_shape hkey
          refine k h' _ o' _ (R.turnAside hs ho') ⟨a, hr, c', by rw [← hl2, hlen, hep] at d'; exact d'⟩ ⟨t, ?_⟩
          rw [hw1]
      · cases hn
    · cases hn
  | mvals m n =>
    unfold nxt at hn
    dsimp only at hn
    split at hn
    · rename_i d hd
      split at hn
      · rename_i hlen
        obtain ⟨a, hr, h1, h2⟩ := hJ
        obtain ⟨a', od, kvs, ep, hr', hf, hs0, he, hv, ho, hD⟩ := R.dic hd
        rw [X.r _ _ hr] at hr'; cases hr'
        have hep := he rfl
        have hl2 := hv.length
        have hx := Option.some.inj hn
        cases hdi : d[i]? with
        | none => rw [hdi] at hx; cases hx
        | some p =>
          rw [hdi] at hx
          cases hx
          obtain ⟨⟨key, kv⟩, hc, hw1, hw2⟩ := hv.get hdi
          refine wpAny_pyNext_values_item (knd := intKind W.prog W.w) (it := I) (d := a) (i := i) (kvs := kvs) (ep := ep) ⟨o, hI, h1, by rw [← hl2, hlen, hep]; exact h2⟩ hD hc fun h' hit hs => ?_
          obtain ⟨o', ho', c', d'⟩ := hit
          exact k h' _ o' _ (R.turnAside hs ho') ⟨a, hr, c', by rw [← hl2, hlen, hep] at d'; exact d'⟩ hw2
      · cases hn
    · cases hn

theorem next_end (hh : x.A.handled = none) (R : Rel W c { x with U := (I, o) :: U } s.heap σ fps Z Y) (hJ : J x.ep (rho fps) Z src i o) (hn : nxt src i σ = some none) {Q : Option Value → Shared → Prop} {E : Value → Shared → Prop}
    (k : ∀ h' tk, Rel W c { x with U := U } h' σ fps Z Y → Q none { s with heap := h', toks := tk }) : wpAny (model W.prog W.w) x.A (pyNext (.ref I)) Q E s := by
  have hI : s.heap.get? I = some o := R.asideAt
  cases src with
  | items l =>
    have hl : l[i]? = none := Option.some.inj hn
    rcases hJ with ⟨a, vs, n, h1, h2, h3, h4⟩ | ⟨a, vs, n, h1, h2, h3, h4⟩ | ⟨a, b, n, h1, h2⟩
    · refine wpAny_pyNext_list_end hh (l := a) (i := i) (items := List.toArray vs) ⟨o, hI, h1, h2⟩ ⟨_, (R.frozen h3).1, rfl, n, rfl⟩ ?_ fun h' he => k h' _ (R.endAside he)
      have := h4.length
      rw [List.getElem?_eq_none_iff] at hl
      simp; omega
    · refine wpAny_pyNext_tuple_end hh (t := a) (i := i) (items := List.toArray vs) ⟨o, hI, h1, h2⟩ ⟨_, (R.frozen h3).1, rfl, n, rfl⟩ ?_ fun h' he => k h' _ (R.endAside he)
      have := h4.length
      rw [List.getElem?_eq_none_iff] at hl
      simp; omega
    · subst h1 h2
      rw [List.getElem?_eq_none_iff] at hl
      simp only [List.length_map, List.length_range] at hl
      exact wpAny_pyNext_range_end hh (x := a + (i : Nat) * b) (left := (n : Int) - (i : Nat)) (step := b) hI (by omega) fun h' he => k h' _ (R.endAside he)
  | mlist m =>
    unfold nxt at hn
    dsimp only at hn
    split at hn
    · rename_i l hl
      obtain ⟨a, hr, h1, h2⟩ := hJ
      obtain ⟨a', vs, n, hr', hf, hv, ho, hL⟩ := R.lst hl
      rw [hr] at hr'; cases hr'
      refine wpAny_pyNext_list_end hh (l := a) (i := i) (items := List.toArray vs) ⟨o, hI, h1, h2⟩ hL ?_ fun h' he => k h' _ (R.endAside he)
      have := hv.length
      have hl := Option.some.inj hn
      rw [List.getElem?_eq_none_iff] at hl
      simp; omega
    · cases hn
  | mdict m n =>
    unfold nxt at hn
    dsimp only at hn
    split at hn
    · rename_i d hd
      split at hn
      · rename_i hlen
        obtain ⟨a, hr, h1, h2⟩ := hJ
        obtain ⟨a', od, kvs, ep, hr', hf, hs0, he, hv, ho, hD⟩ := R.dic hd
        rw [hr] at hr'; cases hr'
        have hep := he rfl
        have hl2 := hv.length
        refine wpAny_pyNext_dict_end (knd := intKind W.prog W.w) hh (it := I) (d := a) (i := i) (kvs := kvs) (ep := ep) ⟨o, hI, h1, by rw [← hl2, hlen, hep]; exact h2⟩ hD ?_ fun h' he => k h' _ (R.endAside he)
        have hx := Option.some.inj hn
        rw [Option.map_eq_none_iff, List.getElem?_eq_none_iff] at hx
        rw [List.getElem?_eq_none_iff]; omega
      · cases hn
    · cases hn
  | mvals m n =>
    unfold nxt at hn
    dsimp only at hn
    split at hn
    · rename_i d hd
      split at hn
      · rename_i hlen
        obtain ⟨a, hr, h1, h2⟩ := hJ
        obtain ⟨a', od, kvs, ep, hr', hf, hs0, he, hv, ho, hD⟩ := R.dic hd
        rw [hr] at hr'; cases hr'
        have hep := he rfl
        have hl2 := hv.length
        refine wpAny_pyNext_values_end (knd := intKind W.prog W.w) hh (it := I) (d := a) (i := i) (kvs := kvs) (ep := ep) ⟨o, hI, h1, by rw [← hl2, hlen, hep]; exact h2⟩ hD ?_ fun h' he => k h' _ (R.endAside he)
        have hx := Option.some.inj hn
        rw [Option.map_eq_none_iff, List.getElem?_eq_none_iff] at hx
        rw [List.getElem?_eq_none_iff]; omega
      · cases hn
    · cases hn
end

/-! for -/
noncomputable def aFor (src : Src) (b : Bool) (n : Nat) (st : AV → AM Unit) (f : AM AF) : Nat → Nat → AM AF
  | 0, _ => no
  | k + 1, i => fun σ => match nxt src i σ with
    | none => none
    | some none => some (.next, σ)
    | some (some v) => bnd (st v) (fun _ => bnd f fun fl => match fl with
      | .next => fun σ => match turnEnd b n σ with
        | some σ' => aFor src b n st f k (i + 1) σ'
        | none => none
      | .cont => fun σ => match turnEnd b n σ with
        | some σ' => aFor src b n st f k (i + 1) σ'
        | none => none
      | .brk => ok .next
      | .ret v => ok (.ret v)) σ

/-- a loop's source: its value, its iterator -/
noncomputable def SI (W : Wd) (c : Cx) (e : Expr) (f : AM Src) : Prop :=
  ∀ x, FxOk W c x → ∀ s σ fps Z Y, Rel W c x s.heap σ fps Z Y → ∀ src σ', f σ = some (src, σ') → ∀ (Q : Value → Shared → Prop) (E : Value → Shared → Prop),
    (∀ h' tk' fps' Z' Y' I o ep, Rel W c { x with U := (I, o) :: x.U, ep := ep } h' σ' fps' Z' Y' → Ext (rho fps) Z (rho fps') Z' → J ep (rho fps') Z' src 0 o → Q (.ref I) { s with heap := h', toks := tk' }) →
    wpAny (model W.prog W.w) x.A (eval e x.env) (fun v s₁ => wpAny (model W.prog W.w) x.A (pyIter v) Q E s₁) E s

/-- no dict is locked -/
noncomputable def AO.free : AO → Bool
  | .dict lk _ => !lk
  | _ => true
noncomputable def AO.unl : AO → AO
  | .dict _ d => .dict false d
  | o => o
noncomputable def unlock (σ : AS) : AS := { σ with hp := σ.hp.map AO.unl }
theorem OR.unlock {ep ep' : Nat} {ρ : Nat → Option Addr} {Z : FP} {o : AO} {f : FP} (h : OR W ep ρ Z o f) : OR W ep' ρ Z o.unl f := by
  cases o with
  | dict lk d => obtain ⟨a, o, kvs, e, e1, e2, i, j, q⟩ := h; exact ⟨a, o, kvs, e, e1, e2, i, (fun z => by cases z), q⟩
  | _ => exact h
theorem all2_unlock {ep ep' : Nat} {ρ : Nat → Option Addr} {Z : FP} : ∀ {l : List AO} {fs : List FP}, All2 (OR W ep ρ Z) l fs → All2 (OR W ep' ρ Z) (l.map AO.unl) fs
  | _, _, .nil => .nil
  | _, _, .cons x h => .cons x.unlock (all2_unlock h)
theorem OR.free {ep ep' : Nat} {ρ : Nat → Option Addr} {Z : FP} {o : AO} {f : FP} (h : OR W ep ρ Z o f) (hf : o.free = true) : OR W ep' ρ Z o f := by
  cases o with
  | dict lk d =>
    obtain ⟨a, o, kvs, e, e1, e2, i, j, q⟩ := h
    exact ⟨a, o, kvs, e, e1, e2, i, (fun z => by subst z; cases hf), q⟩
  | _ => exact h
theorem all2_free {ep ep' : Nat} {ρ : Nat → Option Addr} {Z : FP} : ∀ {l : List AO} {fs : List FP}, All2 (OR W ep ρ Z) l fs → l.all AO.free = true → All2 (OR W ep' ρ Z) l fs
  | _, _, .nil, _ => .nil
  | _, _, .cons x h, hb => by
    rw [List.all_cons, Bool.and_eq_true] at hb
    exact .cons (x.free hb.1) (all2_free h hb.2)
noncomputable def AF.unlocked (f : AM AF) : AM AF := bnd f fun fl σ => some (fl, unlock σ)

inductive FoI (W : Wd) (c : Cx) (x : Fx) (src : Src) (b : Bool) (n : Nat) (st : AV → AM Unit) (f : AM AF) (fps₁ : List FP) (Z₁ : FP) (I : Addr) (ep : Nat) (s : Shared) (v : AF) (σ₂ : AS) (m : Nat) (s' : Shared) : Prop
  | mk (h : Heap) (tk : Tok) (τ : AS) (fps₂ : List FP) (Z₂ Y₂ : FP) (i : Nat) (o' : Obj) (es : s' = { s with heap := h, toks := tk }) (R : Rel W c { x with U := (I, o') :: x.U, ep := ep } h τ fps₂ Z₂ Y₂) (X : Ext (rho fps₁) Z₁ (rho fps₂) Z₂) (j : J ep (rho fps₁) Z₁ src i o') (e : aFor src b n st f m i τ = some (v, σ₂))
theorem sx_for {nm : Str} {p' pos : Pos} {iter : Expr} {body : List Stmt} {g : AM Src} {f : AM AF} {st : AV → AM Unit} (b : Bool) (k : Nat) (hg : SI W c iter g) (hst : Prim1 UR W c (fun x v => storeName x.env nm v) st) (hf : SB W c body f)
    (hs : ∀ env x, foldedSetIterable iter env x = pure x) (hl : c.loops = true) :
    SX W c (.For (.Name nm p') iter body [] pos) (bnd g fun src => AF.unlocked fun σ => aFor src b σ.hp.length st f k 0 σ) := by
  intro x ok s σ fps Z Y R v σ' e Q E kk
  obtain ⟨src, σ₁, e₁, e₂⟩ := bnd_some e
  obtain ⟨fl', σ₂, e₃, e₄⟩ := bnd_some e₂
  cases e₄
  refine wpAny_For (hg x ok s σ fps Z Y R src σ₁ e₁ _ E fun h₁ tk₁ fps₁ Z₁ Y₁ I o ep R₁ X₁ j₁ => ?_) (hs _)
  have hlen : fps₁.length = σ₁.hp.length := R₁.O.length.symm
  have ok' : ∀ U, FxOk W c { x with U := U, ep := ep } := fun U => ⟨ok.sc, ok.kind, ok.loc, ok.glob, ok.blt, ok.nd, ok.cinj, ok.X, ok.T, ok.dep, ok.uni, ok.hh, ok.call, ok.ap, ok.scr⟩
  have back : ∀ {h : Heap} {τ : AS} {fps : List FP} {Z Y : FP}, Rel W c { x with U := x.U, ep := ep } h τ fps Z Y → Rel W c x h (unlock τ) fps Z Y := fun R => ⟨R.fr, R.ce, R.N, R.D, all2_unlock R.O, R.G, R.V⟩
  refine codeAny_forLoop (FoI W c x src b σ₁.hp.length st f fps₁ Z₁ I ep s v σ₂) ?_ k ⟨h₁, tk₁, σ₁, fps₁, Z₁, Y₁, 0, o, rfl, R₁, Ext.refl, j₁, e₃⟩
  rintro m s' ⟨h, tk, τ, fps₂, Z₂, Y₂, i, o', rfl, R₂, X₂, j₂, e₅⟩
  cases m with
  | zero => cases e₅
  | succ m =>
    unfold aFor at e₅
    split at e₅
    · cases e₅
    · rename_i hn
      cases e₅
      refine next_end (x := { x with ep := ep }) (ok.hh hl) R₂ (j₂.ext X₂) hn fun h₃ tk₃ R₃ => ?_
      exact wpAny_execs_nil (kk h₃ tk₃ fps₂ Z₂ Y₂ _ (back R₃) (X₁.trans X₂) rfl)
    · rename_i u hn
      refine next_item (x := { x with ep := ep }) R₂ X₂ j₂ hn fun h₃ tk₃ o₃ cu R₃ j₃ pu => ?_
      obtain ⟨_, τ₃, e₆, e₇⟩ := bnd_some e₅
      refine wpAny_assign_Name (hst _ (ok' _) { s with heap := h₃, toks := tk₃ } τ fps₂ Z₂ Y₂ R₃ u cu pu _ τ₃ e₆ _ _ fun h₄ tk₄ fps₄ Z₄ Y₄ _ R₄ X₄ _ => ?_)
      refine hf.bind (s := { s with heap := h₄, toks := tk₄ }) (ok' _) R₄ e₇ fun fl τ₅ h₅ tk₅ fps₅ Z₅ Y₅ cfl _ e₈ R₅ X₅ p₅ => ?_
      have X := (X₂.trans X₄).trans X₅
      have go : (match turnEnd b σ₁.hp.length τ₅ with | some σ'' => aFor src b σ₁.hp.length st f m (i + 1) σ'' | none => none) = some (v, σ₂) →
          ∃ m', m' < m + 1 ∧ FoI W c x src b σ₁.hp.length st f fps₁ Z₁ I ep s v σ₂ m' { s with heap := h₅, toks := tk₅ } := by
        intro e₉
        split at e₉
        · rename_i τ₉ ht₉
          obtain ⟨fps₉, R₉, X₉⟩ := turnEnd_rel (fps₀ := fps₁) (Z₀ := Z₁) R₅ X (Nat.le_of_eq hlen) ht₉
          exact ⟨m, Nat.lt_succ_self m, ⟨h₅, tk₅, τ₉, fps₉, Z₅, Y₅, i + 1, o₃, rfl, R₉, X₉, j₃, e₉⟩⟩
        · cases e₉
      have fin : ∀ {fps : List FP} {Z Y : FP}, Rel W c { x with U := (I, o₃) :: x.U, ep := ep } h₅ τ₅ fps Z Y → Rel W c x h₅ (unlock τ₅) fps Z Y := fun R => back (Rel.endAside (x := { x with ep := ep }) R fun b o _ e => e)
      cases fl with
      | next => cases p₅; exact go e₈
      | cont => cases p₅; exact go e₈
      | brk => cases p₅; cases e₈; exact kk h₅ tk₅ fps₅ Z₅ Y₅ _ (fin R₅) (X₁.trans X) rfl
      | ret u => obtain ⟨cu, rfl, hu⟩ := p₅; cases e₈; exact kk h₅ tk₅ fps₅ Z₅ Y₅ _ (fin R₅) (X₁.trans X) ⟨cu, rfl, hu⟩
end
end Mine

end
section
open PySem PySem.W PySem.Calls PyProof.Rows
set_option Elab.async false
namespace Mine
section
variable {W : Wd} {c : Cx}

/-! arguments -/
theorem sa_nil {pos : Pos} : SA W c pos [] (ok []) := by
  intro x _ s σ fps Z Y R v σ' e Q E k
  cases e
  exact args_nil (k.here R .nil)
theorem sa_cons {pos : Pos} {e : Expr} {r : List Expr} {f : AM AV} {g : AM (List AV)} (h : SE W c e f) (hr : SA W c pos r g) (he : ∀ env, starEach (e :: r) env = (false, eval e env) :: starEach r env) :
    SA W c pos (e :: r) (bnd f fun v => bnd g fun l => ok (v :: l)) := by
  intro x ok s σ fps Z Y R v σ' e Q E k
  refine args_cons (h.bind ok R e fun a σ₁ h₁ tk₁ fps₁ Z₁ Y₁ ca _ e₁ R₁ X₁ p₁ => ?_) (he _)
  refine hr.bind (s := { s with heap := h₁, toks := tk₁ }) ok R₁ e₁ fun l σ₂ h₂ tk₂ fps₂ Z₂ Y₂ cl _ e₂ R₂ X₂ p₂ => ?_
  cases e₂
  exact k h₂ tk₂ fps₂ Z₂ Y₂ _ R₂ (X₁.trans X₂) (.cons (VR.ext X₂ p₁) p₂)

/-! calls of the text's defs -/
noncomputable abbrev HF := List AV → List AO → Option (AV × List AO)
noncomputable def lift (g : HF) (vs : List AV) : AM AV := fun σ => match g vs σ.hp with
  | some (v, hp) => some (v, { σ with hp := hp })
  | none => none
/-- the def at fa is told by g -/
noncomputable def FC (W : Wd) (fa : Addr) (d u : Nat) (g : HF) : Prop := ∀ c, c.calls = true → c.loops = true → d ≤ c.d → u ≤ c.u → ∀ x, FxOk W c x → ∀ s σ fps Z Y, Rel W c x s.heap σ fps Z Y → ∀ a ca, LR (rho fps) Z a ca → ∀ v σ', lift g a σ = some (v, σ') →
  ∀ (Rr : Result → Shared → Prop), Then VR W c x fps Z s v σ' (fun v s' => Rr (.ok (.ret v)) s') → codeAny (model W.prog W.w) x.A (.call (.ref fa) ⟨ca, []⟩) Rr s
theorem FC.prim {fa : Addr} {d u : Nat} {g : HF} (h : FC W fa d u g) (hc : c.calls = true) (hl : c.loops = true) (hd : d ≤ c.d) (hu : u ≤ c.u) : PrimN VR W c (fun _ vs => call (.ref fa) vs) (lift g) :=
  fun x ok s σ fps Z Y R a ca ha v σ' e _ _ k => wpAny_call (h c hc hl hd hu x ok s σ fps Z Y R a ca ha v σ' e _ k)

theorem evalArgs_of {M : Model} {A : Around} {E : Value → Shared → Prop} {s : Shared} {f : Value} {l : List (Bool × Sem Value)} {Q : Args → Shared → Prop} (hp : l.any (·.1) = false) (h : wpAny M A (spliced l) (fun vs s' => Q ⟨vs, []⟩ s') E s) :
    wpAny M A (evalArgs f true l []) Q E s := by
  cases l with
  | nil =>
    unfold evalArgs
    show wpAny M A (spliced [] >>= _) Q E s
    refine wpAny_bind (wpAny_mono h (fun vs s' h' => ?_) fun _ _ x => x)
    refine wpAny_holding ?_
    exact wpAny_bind (wpAny_pure (wpAny_bind (wpAny_pure (wpAny_pure h'))))
  | cons p r =>
    obtain ⟨b, x⟩ := p
    rw [List.any_cons, Bool.or_eq_false_iff] at hp
    obtain ⟨rfl, _⟩ := hp
    exact evalArgs_plain h

theorem se_call {nm : Str} {p pos : Pos} {args : List Expr} {fa : Addr} {d u : Nat} {g : HF} {f : AM (List AV)} (h : FC W fa d u g) (ha : SA W c pos args f) (hk : c.sc.names.lookup nm = some .globalImplicit)
    (hn : nsIn W.K mainGlobals nm = some (some (.ref fa))) (hb : (nm == ("__debug__" : Str)) = false) (hc : c.calls = true) (hl : c.loops = true) (hd : d ≤ c.d) (hu : u ≤ c.u) (hkeep : keepIn W.K (.ref fa) = true)
    (hplain : ∀ env, (backTo pos (starEach args env)).any (·.1) = false) (he : ∀ env, eval (.Call (.Name nm p) args [] pos) env = (do callWith pos (← eval (.Name nm p) env) [] (backTo pos (starEach args env)) (backToKw pos (keywordEach [] env)))) :
    SE W c (.Call (.Name nm p) args [] pos) (bnd f (lift g)) := by
  intro x ok s σ fps Z Y R v σ' e Q E k
  have G := (R.T ok).g
  refine Call_ (Name_function_global (by rw [ok.sc, ok.kind]) (by show x.env.scope.names.lookup nm = _; rw [ok.sc, hk]) (loadGlobal_global (by rw [ok.glob]; exact G) (mg_of (R.K ok) G hn) ?_) hb) (he _)
  refine callWith_of (P := fun hh => W.K.In hh) (by rw [hplain]; rfl) (keeps_K hkeep) ?_
  refine evalArgs_of (hplain _) ?_
  exact ha.bind ok R e fun a σ₁ h₁ tk₁ fps₁ Z₁ Y₁ ca _ e₁ R₁ X₁ p₁ => ⟨R₁.K ok, h.prim hc hl hd hu x ok _ σ₁ fps₁ Z₁ Y₁ R₁ a ca p₁ v σ' e₁ Q E (k.ext X₁ h₁ tk₁)⟩

theorem lk_mem {l : List (Str × Value)} (nd : (l.map (·.1)).Nodup) {n : Str} {v : Value} (h : (n, v) ∈ l) : l.lookup n = some v := by
  induction l with
  | nil => cases h
  | cons p r ih =>
    rw [List.map_cons, List.nodup_cons] at nd
    rcases List.mem_cons.mp h with rfl | h
    · simp
    · have : (n == p.1) = false := by
        rw [beq_eq_false_iff_ne]
        intro z
        exact nd.1 (z ▸ List.mem_map_of_mem (f := (·.1)) h)
      rw [List.lookup_cons, this]
      exact ih nd.2 h
theorem lookup_zip {ns : List Str} {vs : List Value} (nd : ns.Nodup) (hl : vs.length = ns.length) {i : Nat} {n : Str} {v : Value} (h1 : ns[i]? = some n) (h2 : vs[i]? = some v) : (ns.zip vs).reverse.lookup n = some v := by
  have hm : (n, v) ∈ (ns.zip vs).reverse := by
    rw [List.mem_reverse]
    refine List.mem_of_getElem? (i := i) ?_
    rw [List.getElem?_zip_eq_some]; exact ⟨h1, h2⟩
  refine lk_mem ?_ hm
  have : ((ns.zip vs).reverse.map (·.1)) = ns.reverse := by
    rw [List.map_reverse, ← List.unzip_fst, List.unzip_zip_left (Nat.le_of_eq hl.symm)]
  rw [this]
  exact (List.reverse_perm ns).nodup_iff.mpr nd

/-- a def's own block -/
noncomputable def finish (r : Option (AF × AS)) : Option (AV × List AO) := match r with
  | some (.ret v, σ) => some (v, σ.hp)
  | some (.next, σ) => some (.none, σ.hp)
  | _ => none
theorem finish_some {r : Option (AF × AS)} {v : AV} {hp : List AO} (e : finish r = some (v, hp)) : ∃ fl σ₂, r = some (fl, σ₂) ∧ σ₂.hp = hp ∧ ∀ ρ Z cfl, FR ρ Z fl cfl → VR ρ Z v (match cfl with | .ret v => v | _ => .none) := by
  unfold finish at e
  split at e
  · rename_i w σ₂
    cases e
    exact ⟨_, σ₂, rfl, rfl, fun ρ Z cfl hc => by obtain ⟨cv, rfl, hv⟩ := hc; exact hv⟩
  · rename_i σ₂
    cases e
    exact ⟨_, σ₂, rfl, rfl, fun ρ Z cfl hc => by cases hc; rfl⟩
  · cases e
noncomputable def runBody (n : Nat) (k : Nat) (f : AM AF) : HF := fun vs hp =>
  if vs.length = k then finish (f ⟨vs.map some ++ List.replicate (n - k) none, hp⟩) else none

theorem perm_front {α : Type} {A B C U : List α} : (A ++ (B ++ (C ++ U))).Perm (C ++ (A ++ (B ++ U))) := by
  have e1 : A ++ (B ++ (C ++ U)) = (A ++ B) ++ C ++ U := by simp
  have e2 : C ++ (A ++ (B ++ U)) = C ++ (A ++ B) ++ U := by simp
  rw [e1, e2]; exact List.Perm.append_right _ List.perm_append_comm
/-- the same things, up to slots -/
theorem pick_same : ∀ {l Y₂ : FP}, (∀ p ∈ l, ∃ o', (p.1, o') ∈ Y₂ ∧ o'.data = p.2.data) → ∃ l' : FP, l'.map (·.1) = l.map (·.1) ∧ (∀ q ∈ l', q ∈ Y₂) ∧ ∀ p ∈ l, ∃ o', (p.1, o') ∈ l' ∧ o'.data = p.2.data
  | [], _, _ => ⟨[], rfl, (fun _ h => nomatch h), (fun _ h => nomatch h)⟩
  | p :: r, Y₂, h => by
    obtain ⟨o', m1, m2⟩ := h p (.head _)
    obtain ⟨l', h1, h2, h3⟩ := pick_same (l := r) fun q hq => h q (.tail _ hq)
    refine ⟨(p.1, o') :: l', by simp [h1], fun q hq => ?_, fun q hq => ?_⟩
    · rcases List.mem_cons.mp hq with rfl | hq
      · exact m1
      · exact h2 q hq
    · rcases List.mem_cons.mp hq with rfl | hq
      · exact ⟨o', .head _, m2⟩
      · obtain ⟨o2, a, b⟩ := h3 q hq; exact ⟨o2, .tail _ a, b⟩

theorem run_body {c c' : Cx} {x x' : Fx} {σ σ' σ₂ : AS} {fps fps' : List FP} {Z Z' Y Y' : FP} {h h₁ : Heap} {oL : Obj} {s : Shared} {body : List Stmt} {f : AM AF} {fl : AF} {v : AV} {tk₁ : Nat} {Rr : Result → Shared → Prop} {EE : Value → Shared → Prop}
    (hf : SB W c' body f) (ok' : FxOk W c' x') (hU : x'.U = x.U) (hep : x'.ep = x.ep) (hFs : x'.Fs = (x.L, oL) :: Y) (hoL : h.get? x.L = some oL) (R : Rel W c x h σ fps Z Y) (hst : ∀ b o, x.h₀.get? b = some o → x'.h₀.get? b = some o)
    (R' : Rel W c' x' h₁ σ' fps' Z' Y') (X : Ext (rho fps) Z (rho fps') Z') (e : f σ' = some (fl, σ₂)) (hv : ∀ ρ Z cfl, FR ρ Z fl cfl → VR ρ Z v (match cfl with | .ret v => v | _ => .none))
    (k : Then VR W c x fps Z s v { σ with hp := σ₂.hp } (fun v s' => Rr (.ok (.ret v)) s')) :
    wpAny (model W.prog W.w) x'.A (execs body x'.env) (fun fl s' => Rr (.ok (.ret (match fl with | .ret v => v | _ => .none))) s') EE { s with heap := h₁, toks := tk₁ } := by
  refine hf _ ok' { s with heap := h₁, toks := tk₁ } _ fps' Z' Y' R' fl σ₂ e _ _ fun h₂ tk₂ fps₂ Z₂ Y₂ cfl R₂ X₂ p₂ => ?_
  have X2 := X.trans X₂
  obtain ⟨m, F, q⟩ := R.fr
  obtain ⟨oL', es, ep, hL', rL⟩ := F.ns
  rw [hoL] at hL'; cases hL'
  have V := R₂.V
  rw [hFs] at V
  obtain ⟨oL₂, mL, dL⟩ := V (x.L, oL) (.head _)
  obtain ⟨Yn, y1, y2, y3⟩ := pick_same fun p hp => V p (.tail _ hp)
  have HY := R₂.led.perm perm_front
  rw [hU] at HY
  have nd := HY.D
  rw [List.map_append, List.nodup_append] at nd
  have hL₂ : h₂.get? x.L = some oL₂ := (HY.N _ (List.mem_append_left _ mL)).1
  have ndY : (Y.map (·.1)).Nodup := by
    have := (R.led.perm perm_front).D
    rw [List.map_append, List.nodup_append] at this
    exact this.1
  have h0 : ∀ {a}, x'.h₀.get? a = none → x.h₀.get? a = none := fun {a} e => by
    cases z : x.h₀.get? a with
    | none => rfl
    | some o => rw [hst _ _ z] at e; cases e
  have NN : Led x.h₀ x.L h₂ (Yn ++ (fps₂.flatten ++ (Z₂ ++ x.U))) := by
    refine ⟨fun p hp => ?_, ?_⟩
    · rcases List.mem_append.mp hp with hp | hp
      · have z := HY.N p (List.mem_append_left _ (y2 p hp))
        refine ⟨z.1, fun e => ?_, h0 z.2.2⟩
        have : x.L ∈ Y.map (·.1) := by rw [← y1, ← e]; exact List.mem_map_of_mem hp
        obtain ⟨r, hr, er⟩ := List.mem_map.mp this
        exact (R.N r (List.mem_append_right _ (List.mem_append_right _ (List.mem_append_left _ hr)))).2.1 er
      · have z := HY.N p (List.mem_append_right _ hp)
        exact ⟨z.1, fun e => nd.2.2 x.L (List.mem_map_of_mem (f := (·.1)) mL) p.1 (List.mem_map_of_mem hp) e.symm, h0 z.2.2⟩
    · rw [List.map_append, List.nodup_append, y1]
      refine ⟨ndY, nd.2.1, fun a ha b hb e => ?_⟩
      rw [← y1] at ha
      obtain ⟨r, hr, er⟩ := List.mem_map.mp ha
      exact nd.2.2 a (er ▸ List.mem_map_of_mem (y2 r hr)) b hb e
  have NN2 := NN.perm perm_front.symm
  have keep : ∀ b o, x.h₀.get? b = some o → h₂.get? b = some o := fun b o e => R₂.keep b o (hst b o e)
  refine k h₂ tk₂ fps₂ Z₂ Yn _ ⟨⟨m, ⟨⟨oL₂, es, ep, hL₂, by rw [dL]; exact rL.1, rL.2⟩, keep, F.above⟩, fun i nm w h1 h2 => ?_⟩, fun i nm h1 => ?_, NN2.N, NN2.D, by rw [← hep]; exact R₂.O, R.G, fun p hp => ?_⟩ X2 (hv _ _ _ p₂)
  · obtain ⟨cw, q1, q2⟩ := q i nm w h1 h2
    exact ⟨cw, q1, VR.ext X2 q2⟩
  · obtain ⟨a, o, co, p1, p2, p3, p4⟩ := R.ce i nm h1
    have key : ∃ o', ((a, o') ∈ Yn ∨ c.own ≤ i ∧ x.h₀.get? a = some o') ∧ o'.data = .cell co := by
      rcases p2 with p2 | p2
      · obtain ⟨o', z1, z2⟩ := y3 _ p2
        exact ⟨o', .inl z1, z2.trans p3⟩
      · exact ⟨o, .inr p2, p3⟩
    obtain ⟨o', z1, z2⟩ := key
    refine ⟨a, o', co, p1, z1, z2, fun w hw => ?_⟩
    obtain ⟨cw, p5, p6⟩ := p4 w hw
    exact ⟨cw, p5, VR.ext X2 p6⟩
  · obtain ⟨o', z1, z2⟩ := R.V p hp
    obtain ⟨o2, z3, z4⟩ := y3 _ z1
    exact ⟨o2, z3, z4.trans z2⟩
theorem lift_some {g : HF} {vs : List AV} {σ σ' : AS} {v : AV} (e : lift g vs σ = some (v, σ')) : ∃ hp', g vs σ.hp = some (v, hp') ∧ σ' = { σ with hp := hp' } := by
  unfold lift at e
  split at e
  · rename_i v' hp' e'; cases e; exact ⟨hp', e', rfl⟩
  · cases e

/-- the callee's frame -/
noncomputable abbrev Fx.callee (x : Fx) (env : Env) (g : Heap) (L' : Addr) (oL : Obj) (Y : FP) : Fx := { A := x.A.deeper env, A₀ := x.A, env := env, base := x.base, h₀ := g, L := L', outer := x.env :: x.outer, U := x.U, ep := x.ep, Fs := (x.L, oL) :: Y }
theorem callee_ok {c' : Cx} {x : Fx} {env : Env} {g h : Heap} {σ : AS} {fps : List FP} {Z : FP} {L' : Addr} {oL : Obj} {Y : FP} (ok : FxOk W c x) (R : Rel W c x h σ fps Z Y) (hoL : h.get? x.L = some oL) (hc : c.calls = true) (hl : c.loops = true) (hd : c'.d + 1 ≤ c.d) (hu : c'.u + 3 ≤ c.u) (hsc : env.scope = c'.sc) (hk : c'.sc.kind = .function)
    (h1 : env.locals = L') (h2 : env.globals = mainGlobals) (h3 : env.builtins = builtinsNs) (h4 : env.frame = some L')
    (hnd : (c'.vars.map (·.1)).Nodup) (hci : ∀ y z a, env.cells.lookup y = some a → env.cells.lookup z = some a → y = z) (hap : ∀ nm a, env.cells.lookup nm = some a → h.objs.size ≤ a) (hst : ∀ b o, x.h₀.get? b = some o → g.get? b = some o) (hsn : c'.scr = none) : FxOk W c' (x.callee env g L' oL Y) := by
  obtain ⟨m, F, _⟩ := R.fr
  refine ⟨hsc, hk, h1, h2, h3, hnd, hci, ok.X.keeps hst, ok.T.keeps hst, ?_, ?_, ?_, ?_, ?_, fun _ _ e => by rw [hsn] at e; cases e⟩
  · have := ok.dep
    show x.A.depth + 1 + c'.d < recursionLimit
    omega
  · have := ok.uni
    show x.A.units + 3 + c'.u < cLine
    omega
  · intro _; exact ok.hh hl
  · intro _
    obtain ⟨hA, hfr, B⟩ := ok.call hc
    refine ⟨Around.frames_deeper hA, h4, fun e he => ?_⟩
    rcases List.mem_cons.mp he with rfl | he
    · refine ⟨by rw [ok.sc, ok.kind]; decide, x.L, oL, hfr, .head _, ?_⟩
      obtain ⟨o', es, ep, ho', hd', _⟩ := F.ns
      rw [hoL] at ho'; cases ho'
      intro vs z; rw [hd'] at z; cases z
    · obtain ⟨k1, L, o, k2, k3, k4⟩ := B e he
      obtain ⟨o', z1, z2⟩ := R.V _ k3
      exact ⟨k1, L, o', k2, .tail _ z1, by rw [z2]; exact k4⟩
  · intro nm a e p hp z
    have ha := hap nm a e
    have : p.1 < h.objs.size := by
      rcases List.mem_cons.mp hp with rfl | hp
      · exact Heap.lt_size hoL
      · exact Heap.lt_size (R.N p (List.mem_append_right _ (List.mem_append_right _ (List.mem_append_left _ hp)))).1
    exact absurd this (Nat.not_lt.mpr (z ▸ ha))
/-- what the callee's frame lies on -/
noncomputable abbrev ground (x : Fx) (h : Heap) (fps : List FP) (Z Y : FP) : Heap := hideAll h (x.L :: (fps.flatten ++ (Z ++ (Y ++ x.U))).map (·.1))
theorem ground_keep {x : Fx} {h : Heap} {σ : AS} {fps : List FP} {Z Y : FP} (R : Rel W c x h σ fps Z Y) : ∀ b o, x.h₀.get? b = some o → (ground x h fps Z Y).get? b = some o := fun b o e => by
  obtain ⟨m, F, _⟩ := R.fr
  refine hideAll_get _ (F.keep _ _ e) fun z => ?_
  rcases List.mem_cons.mp z with rfl | z
  · exact absurd (Heap.lt_size e) (Nat.not_lt.mpr F.above)
  · obtain ⟨p, hp, rfl⟩ := List.mem_map.mp z
    rw [(R.N p hp).2.2] at e; cases e
/-- the ledger in the callee's eyes -/
theorem ground_led {x : Fx} {h h₁ : Heap} {σ : AS} {fps : List FP} {Z Y : FP} {L' : Addr} {oL : Obj} (R : Rel W c x h σ fps Z Y) (hoL : h.get? x.L = some oL) (hk₁ : ∀ b o, h.get? b = some o → h₁.get? b = some o) (hL' : h.objs.size ≤ L') :
    Led (ground x h fps Z Y) L' h₁ (fps.flatten ++ (Z ++ (((x.L, oL) :: Y) ++ x.U))) := by
  have H : Led (ground x h fps Z Y) L' h₁ ((x.L, oL) :: (fps.flatten ++ (Z ++ (Y ++ x.U)))) := by
    refine ⟨fun p hp => ?_, ?_⟩
    · rcases List.mem_cons.mp hp with rfl | hp
      · exact ⟨hk₁ _ _ hoL, Nat.ne_of_lt (Nat.lt_of_lt_of_le (Heap.lt_size hoL) hL'), hideAll_none _ (.head _)⟩
      · have z := R.N p hp
        exact ⟨hk₁ _ _ z.1, Nat.ne_of_lt (Nat.lt_of_lt_of_le (Heap.lt_size z.1) hL'), hideAll_none _ (.tail _ (List.mem_map_of_mem hp))⟩
    · rw [List.map_cons, List.nodup_cons]
      refine ⟨fun z => ?_, R.D⟩
      obtain ⟨p, hp, e⟩ := List.mem_map.mp z
      exact (R.N p hp).2.1 e
  refine H.perm ?_
  have : fps.flatten ++ (Z ++ (((x.L, oL) :: Y) ++ x.U)) = (fps.flatten ++ Z) ++ (x.L, oL) :: (Y ++ x.U) := by simp
  rw [this]
  refine List.Perm.trans ?_ List.perm_middle.symm
  simp
theorem Rel.here {x : Fx} {h : Heap} {σ : AS} {fps : List FP} {Z Y : FP} (R : Rel W c x h σ fps Z Y) : ∃ oL, h.get? x.L = some oL := by
  obtain ⟨m, F, _⟩ := R.fr
  obtain ⟨oL, _, _, h, _⟩ := F.ns
  exact ⟨oL, h⟩

theorem rel_args {c' : Cx} {x' : Fx} {h₁ : Heap} {fps : List FP} {Z Y' : FP} {hp : List AO} {ns : List Str} {vs : List AV} {cvs : List Value} {m : Str → Option Value}
    (F' : Fr x'.h₀ x'.L h₁ m) (H : Led x'.h₀ x'.L h₁ (fps.flatten ++ (Z ++ (Y' ++ x'.U)))) (O : All2 (OR W x'.ep (rho fps) Z) hp fps) (hvs : All2 (VR (rho fps) Z) vs cvs) (hcl : cvs.length = ns.length)
    (hns : ∀ (i : Nat) nm, ns[i]? = some nm → ∃ b, c'.vars[i]? = some (nm, b)) (hle : ns.length ≤ c'.vars.length)
    (hm : ∀ (i : Nat) nm cv, ns[i]? = some nm → cvs[i]? = some cv → c'.vars[i]? = some (nm, false) → m nm = some cv)
    (hc : ∀ (i : Nat) nm, c'.vars[i]? = some (nm, true) → ∃ a o co, x'.env.cells.lookup nm = some a ∧ (a, o) ∈ Y' ∧ o.data = .cell co ∧ ∀ cv, ns[i]? = some nm → cvs[i]? = some cv → co = some cv)
    (hV : ∀ p ∈ x'.Fs, p ∈ Y') :
    Rel W c' x' h₁ ⟨vs.map some ++ List.replicate (c'.vars.length - ns.length) none, hp⟩ fps Z Y' := by
  have hvl := hvs.length
  have key : ∀ (i : Nat) w, (vs.map some ++ List.replicate (c'.vars.length - ns.length) none)[i]? = some (some w) → ∃ cw nm, cvs[i]? = some cw ∧ ns[i]? = some nm ∧ VR (rho fps) Z w cw := fun i w h2 => by
    by_cases hi : i < vs.length
    · rw [List.getElem?_append_left (by simpa using hi), List.getElem?_map] at h2
      cases hv : vs[i]? with
      | none => rw [hv] at h2; cases h2
      | some w' =>
        rw [hv] at h2
        cases h2
        obtain ⟨cw, hcw, hw⟩ := All2.get hvs hv
        exact ⟨cw, _, hcw, List.getElem?_eq_getElem (by omega), hw⟩
    · rw [List.getElem?_append_right (by simpa using hi)] at h2
      rw [List.getElem?_replicate] at h2
      split at h2 <;> cases h2
  refine ⟨⟨_, F', fun i nm w h1 h2 => ?_⟩, fun i nm h1 => ?_, H.N, H.D, O, ?_, fun p hp => ⟨p.2, hV p hp, rfl⟩⟩
  · obtain ⟨cw, nm', e1, e2, e3⟩ := key i w h2
    obtain ⟨b, e4⟩ := hns i nm' e2
    rw [h1] at e4; cases e4
    exact ⟨cw, hm i nm cw e2 e1 h1, e3⟩
  · obtain ⟨a, o, co, p1, p2, p3, p4⟩ := hc i nm h1
    refine ⟨a, o, co, p1, .inl p2, p3, fun w h2 => ?_⟩
    obtain ⟨cw, nm', e1, e2, e3⟩ := key i w h2
    obtain ⟨b, e4⟩ := hns i nm' e2
    rw [h1] at e4; cases e4
    exact ⟨cw, p4 cw e2 e1, e3⟩
  · simp only [List.length_append, List.length_map, List.length_replicate]; omega

theorem fc_body {fa : Addr} {name qual : Str} {params : Arguments} {body : List Stmt} {scope : Scope} {dV kV doc pm cdv ct oc : Value} {an od : Option Addr} {osl : Array (Option Value)} {c' : Cx} {f : AM AF} {ns : List Str}
    (ho : W.K.lookup fa = some ⟨oc, od, .func (fnOf name qual params body scope dV kV doc pm an cdv ct), osl⟩) (hcd : codeIn W.K cdv qual = true) (hsc : c'.sc = scope)
    (hf : SB W c' body f) (hbind : ∀ (s : Shared) (cvs : List Value), cvs.length = ns.length → BindsTo s (fnOf name qual params body scope dV kV doc pm an cdv ct) ⟨cvs, []⟩ (ns.zip cvs))
    (hns : ∀ (i : Nat) nm, ns[i]? = some nm → c'.vars[i]? = some (nm, false)) (hvar : ∀ (i : Nat) nm b, c'.vars[i]? = some (nm, b) → b = false) (hloc : ∀ y ∈ ns, scope.names.lookup y = some .local) (hnd : (c'.vars.map (·.1)).Nodup) (hnn : ns.Nodup)
    (hco : scope.isCoroutine = false) (hgen : scope.isGenerator = false) (hk : scope.kind = .function) (hcell : ∀ x ∈ scope.names, x.2 ≠ .cell) (hle : ns.length ≤ c'.vars.length) (hsn : c'.scr = none) :
    FC W fa (c'.d + 1) (c'.u + 3) (runBody c'.vars.length ns.length f) := by
  intro c hc hl hd hu x ok s σ fps Z Y R vs cvs hvs v σ' e Rr k
  obtain ⟨hp', e', rfl⟩ := lift_some e
  unfold runBody at e'
  split at e'
  · rename_i hlen
    obtain ⟨fl, σ₂, hfl, rfl, hv⟩ := finish_some e'
    obtain ⟨m, F, q⟩ := R.fr
    obtain ⟨oL, hoL⟩ := R.here
    have hcl : cvs.length = ns.length := by rw [← hlen]; exact (All2.length hvs).symm
    refine codeAny_call_def (fd := fnOf name qual params body scope dV kV doc pm an cdv ct) (body := body) (binds := ns.zip cvs) (Nat.lt_of_le_of_lt (Nat.le_add_right _ _) ok.dep) ((R.K ok) _ _ ho) rfl ((R.T ok).nolimit) (codeRec_of (R.K ok) hcd) rfl (hbind s cvs hcl) hcell ?_ (fun h₁ hns₁ hk₁ => ?_) hco hgen hk
    · intro y hy
      obtain ⟨a, b⟩ := y
      exact hloc a (List.of_mem_zip hy).1
    · have ok' : FxOk W c' (x.callee (envOf qual scope s.heap.objs.size fa cdv) (ground x s.heap fps Z Y) s.heap.objs.size oL Y) := callee_ok ok R hoL hc hl hd hu hsc.symm (by rw [hsc]; exact hk) rfl rfl rfl rfl hnd (fun y z a e => by cases e) (fun y a e => by cases e) (ground_keep R) hsn
      have F' : Fr (ground x s.heap fps Z Y) s.heap.objs.size h₁ (fun y => (ns.zip cvs).reverse.lookup y) := ⟨hns₁, fun b o e => hk₁ b o (of_hideAll _ e), Nat.le_of_eq (hideAll_size _ _)⟩
      have R' : Rel W c' (x.callee (envOf qual scope s.heap.objs.size fa cdv) (ground x s.heap fps Z Y) s.heap.objs.size oL Y) h₁ ⟨vs.map some ++ List.replicate (c'.vars.length - ns.length) none, σ.hp⟩ fps Z ((x.L, oL) :: Y) :=
        rel_args (x' := x.callee (envOf qual scope s.heap.objs.size fa cdv) (ground x s.heap fps Z Y) s.heap.objs.size oL Y) (ns := ns) (cvs := cvs) F' (ground_led R hoL hk₁ (Nat.le_refl _)) R.O hvs hcl (fun i nm g1 => ⟨false, hns i nm g1⟩) hle (fun i nm cv g1 g2 _ => lookup_zip hnn hcl g1 g2) (fun i nm g1 => by cases hvar i nm true g1) (fun p hp => hp)
      exact run_body (x := x) hf ok' rfl rfl rfl hoL R (ground_keep R) R' Ext.refl hfl hv k
  · cases e'

/-- a plain def: its local names, the first k are its parameters -/
noncomputable def cxOf (scope : Scope) (loc : List Str) (d u : Nat) : Cx := ⟨scope, loc.map fun n => (n, false), d, u, true, true, loc.length, none⟩
theorem fc_def {fa : Addr} {name qual : Str} {params : Arguments} {body : List Stmt} {scope : Scope} {dV kV doc pm cdv ct oc : Value} {an od : Option Addr} {osl : Array (Option Value)} (loc : List Str) (k d u : Nat) {f : AM AF}
    (ho : W.K.lookup fa = some ⟨oc, od, .func (fnOf name qual params body scope dV kV doc pm an cdv ct), osl⟩) (hcd : codeIn W.K cdv qual = true)
    (hbind : ∀ (s : Shared) (cvs : List Value), cvs.length = (loc.take k).length → BindsTo s (fnOf name qual params body scope dV kV doc pm an cdv ct) ⟨cvs, []⟩ ((loc.take k).zip cvs))
    (hk : scope.kind = .function) (hco : scope.isCoroutine = false) (hgen : scope.isGenerator = false)
    (hchk : (decide loc.Nodup && (loc.take k).all (fun y => decide (scope.names.lookup y = some .local)) && scope.names.all (fun x => decide (x.2 ≠ .cell)) && decide (k ≤ loc.length)) = true)
    (hf : SB W (cxOf scope loc d u) body f) : FC W fa (d + 1) (u + 3) (runBody loc.length k f) := by
  simp only [Bool.and_eq_true, decide_eq_true_eq, List.all_eq_true] at hchk
  obtain ⟨⟨⟨h1, h2⟩, h3⟩, h4⟩ := hchk
  have hl : (loc.take k).length = k := by rw [List.length_take]; omega
  have z := fc_body (c' := cxOf scope loc d u) (ns := loc.take k) ho hcd rfl hf hbind ?_ ?_ (fun y hy => h2 y hy) ?_ ?_ hco hgen hk h3 ?_ rfl
  · rw [hl] at z
    have : (cxOf scope loc d u).vars.length = loc.length := by simp [cxOf]
    rw [this] at z
    exact z
  · intro i nm h
    rw [List.getElem?_take] at h
    split at h
    · simp [cxOf, h]
    · cases h
  · intro i nm b h
    simp only [cxOf, List.getElem?_map] at h
    cases e : loc[i]? with
    | none => rw [e] at h; cases h
    | some n => rw [e] at h; cases h; rfl
  · have : (cxOf scope loc d u).vars.map (·.1) = loc := by simp [cxOf, List.map_map, Function.comp_def]
    rw [this]; exact h1
  · exact h1.sublist (List.take_sublist _ _)
  · simp only [cxOf, List.length_map, List.length_take]; omega
theorem len1 {α : Type} {l : List α} (h : l.length = 1) : ∃ a, l = [a] := by
  match l, h with
  | [a], _ => exact ⟨a, rfl⟩
theorem len2 {α : Type} {l : List α} (h : l.length = 2) : ∃ a b, l = [a, b] := by
  match l, h with
  | [a, b], _ => exact ⟨a, b, rfl⟩
theorem len3 {α : Type} {l : List α} (h : l.length = 3) : ∃ a b c, l = [a, b, c] := by
  match l, h with
  | [a, b, c], _ => exact ⟨a, b, c, rfl⟩
theorem len4 {α : Type} {l : List α} (h : l.length = 4) : ∃ a b c d, l = [a, b, c, d] := by
  match l, h with
  | [a, b, c, d], _ => exact ⟨a, b, c, d, rfl⟩
end
end Mine

end
section
open PySem PySem.W PySem.Calls PyProof.Rows
set_option Elab.async false
namespace Mine
section
variable {W : Wd} {c : Cx}

theorem se_ifexp {test a b : Expr} {pos : Pos} {t : AM Bool} {f g : AM AV} (ht : ST W c test t) (hf : SE W c a f) (hg : SE W c b g) : SE W c (.IfExp test a b pos) (bnd t fun u => if u then f else g) := by
  intro x ok s σ fps Z Y R v σ' e Q E k
  refine wpAny_IfExp (ht.bind ok R e fun u σ₁ h₁ tk₁ fps₁ Z₁ Y₁ ca _ e₁ R₁ X₁ p₁ => ?_)
  cases p₁
  cases u with
  | true => exact hf x ok _ σ₁ fps₁ Z₁ Y₁ R₁ v σ' e₁ Q E (k.ext X₁ h₁ tk₁)
  | false => exact hg x ok _ σ₁ fps₁ Z₁ Y₁ R₁ v σ' e₁ Q E (k.ext X₁ h₁ tk₁)
theorem st_plain {e : Expr} {f : AM AV} (h : SE W c e f) (he : ∀ env whole, isTrue e env whole = (do let v ← whole; standAt e.pos; holding [v] (truthy v))) : ST W c e (bnd f pTruth) := by
  intro x ok s σ fps Z Y R v σ' e Q E k
  refine isTrue_plain (h.bind ok R e fun u σ₁ h₁ tk₁ fps₁ Z₁ Y₁ ca _ e₁ R₁ X₁ p₁ => ?_) (he _ _)
  exact prim_truth x ok _ σ₁ fps₁ Z₁ Y₁ R₁ u ca p₁ v σ' e₁ Q E (k.ext X₁ h₁ tk₁)
theorem se_or2 {a b : Expr} {pos : Pos} {f g : AM AV} (hf : SE W c a f) (hg : SE W c (.BoolOp .Or [b] pos) g) :
    SE W c (.BoolOp .Or [a, b] pos) (bnd f fun v => bnd (pTruth v) fun t => if t then ok v else g) := by
  intro x ok s σ fps Z Y R v σ' e Q E k
  refine BoolOp_or (hf.bind ok R e fun u σ₁ h₁ tk₁ fps₁ Z₁ Y₁ cu _ e₁ R₁ X₁ p₁ => ?_)
  obtain ⟨t, σ₂, e₂, e₃⟩ := bnd_some e₁
  refine prim_truth x ok _ σ₁ fps₁ Z₁ Y₁ R₁ u cu p₁ t σ₂ e₂ _ E fun h₂ tk₂ fps₂ Z₂ Y₂ ct R₂ X₂ p₂ => ?_
  cases p₂
  cases t with
  | true => cases e₃; exact k h₂ tk₂ fps₂ Z₂ Y₂ _ R₂ (X₁.trans X₂) (VR.ext X₂ p₁)
  | false => exact hg x ok _ σ₂ fps₂ Z₂ Y₂ R₂ v σ' e₃ Q E ((k.ext X₁ h₁ tk₁).ext X₂ h₂ tk₂)
theorem se_named {nm : Str} {p pos : Pos} {value : Expr} {f : AM AV} {i : Nat} (h : SE W c value f) (hst : Prim1 UR W c (fun x v => storeName x.env nm v) (pStore i)) : SE W c (.NamedExpr (.Name nm p) value pos) (bnd f fun v => bnd (pStore i v) fun _ => ok v) := by
  intro x ok s σ fps Z Y R v σ' e Q E k
  refine wpAny_NamedExpr (h.bind ok R e fun a σ₁ h₁ tk₁ fps₁ Z₁ Y₁ ca _ e₁ R₁ X₁ p₁ => ?_)
  obtain ⟨u, σ₂, e₂, e₃⟩ := bnd_some e₁
  cases e₃
  exact wpAny_assign_Name (hst x ok _ σ₁ fps₁ Z₁ Y₁ R₁ _ ca p₁ u σ' e₂ _ E fun h₂ tk₂ fps₂ Z₂ Y₂ _ R₂ X₂ _ => k h₂ tk₂ fps₂ Z₂ Y₂ _ R₂ (X₁.trans X₂) (VR.ext X₂ p₁))

/-! dicts as lists of pairs -/
noncomputable def dget (d : List (Int × AV)) (k : Int) : Option AV := (d.find? fun p => decide (p.1 = k)).map (·.2)
noncomputable def dput (d : List (Int × AV)) (k : Int) (v : AV) : List (Int × AV) := if d.any (fun p => decide (p.1 = k)) then d.map (fun p => if p.1 = k then (p.1, v) else p) else d ++ [(k, v)]
noncomputable def ddel (d : List (Int × AV)) (k : Int) : List (Int × AV) := d.filter fun p => decide (p.1 ≠ k)
noncomputable abbrev DR (ρ : Nat → Option Addr) (Z : FP) (p : Int × AV) (q : Int × Value) : Prop := p.1 = q.1 ∧ VR ρ Z p.2 q.2
theorem dget_some {ρ : Nat → Option Addr} {Z : FP} {k : Int} {v : AV} : ∀ {d : List (Int × AV)} {kvs : List (Int × Value)}, All2 (DR ρ Z) d kvs → dget d k = some v → ∃ cv, valueAt kvs k = some cv ∧ VR ρ Z v cv
  | _, _, .nil, e => by cases e
  | _, _, .cons (a := a) (b := b) x h, e => by
    unfold dget at e
    unfold valueAt
    rw [List.find?_cons] at e ⊢
    rw [← x.1]
    by_cases hk : a.1 = k
    · simp only [hk, decide_true] at e ⊢
      cases e
      exact ⟨b.2, rfl, x.2⟩
    · simp only [hk, decide_false] at e ⊢
      exact dget_some h e
theorem dget_none {ρ : Nat → Option Addr} {Z : FP} {k : Int} : ∀ {d : List (Int × AV)} {kvs : List (Int × Value)}, All2 (DR ρ Z) d kvs → dget d k = none → valueAt kvs k = none
  | _, _, .nil, _ => rfl
  | _, _, .cons (a := a) (b := b) x h, e => by
    unfold dget at e
    unfold valueAt
    rw [List.find?_cons] at e ⊢
    rw [← x.1]
    by_cases hk : a.1 = k
    · simp only [hk, decide_true] at e; cases e
    · simp only [hk, decide_false] at e ⊢
      exact dget_none h e
theorem dany {ρ : Nat → Option Addr} {Z : FP} {k : Int} : ∀ {d : List (Int × AV)} {kvs : List (Int × Value)}, All2 (DR ρ Z) d kvs → (d.any fun p => decide (p.1 = k)) = (kvs.any fun p => decide (p.1 = k))
  | _, _, .nil => rfl
  | _, _, .cons x h => by rw [List.any_cons, List.any_cons, dany h, x.1]
theorem dmap {ρ : Nat → Option Addr} {Z : FP} {k : Int} {v : AV} {cv : Value} (hv : VR ρ Z v cv) : ∀ {d : List (Int × AV)} {kvs : List (Int × Value)}, All2 (DR ρ Z) d kvs → All2 (DR ρ Z) (d.map fun p => if p.1 = k then (p.1, v) else p) (kvs.map fun p => if p.1 = k then (p.1, cv) else p)
  | _, _, .nil => .nil
  | _, _, .cons (a := a) (b := b) x h => by
    refine .cons ?_ (dmap hv h)
    show DR ρ Z (if a.1 = k then (a.1, v) else a) (if b.1 = k then (b.1, cv) else b)
    by_cases hk : a.1 = k
    · rw [if_pos hk, if_pos (x.1 ▸ hk)]; exact ⟨x.1, hv⟩
    · rw [if_neg hk, if_neg (x.1 ▸ hk)]; exact x
theorem dput_all {ρ : Nat → Option Addr} {Z : FP} {k : Int} {v : AV} {cv : Value} (hv : VR ρ Z v cv) {d : List (Int × AV)} {kvs : List (Int × Value)} (h : All2 (DR ρ Z) d kvs) : All2 (DR ρ Z) (dput d k v) (stored kvs k cv) := by
  unfold dput stored
  rw [dany h]
  split
  · exact dmap hv h
  · exact h.append (.cons ⟨rfl, hv⟩ .nil)
theorem ddel_all {ρ : Nat → Option Addr} {Z : FP} {k : Int} : ∀ {d : List (Int × AV)} {kvs : List (Int × Value)}, All2 (DR ρ Z) d kvs → All2 (DR ρ Z) (ddel d k) (without kvs k)
  | _, _, .nil => .nil
  | _, _, .cons (a := a) (b := b) (l := l) (k := r) x h => by
    have ih := ddel_all (k := k) h
    by_cases hk : a.1 = k
    · have hk' : b.1 = k := x.1 ▸ hk
      have e1 : ddel (a :: l) k = ddel l k := by unfold ddel; rw [List.filter_cons, if_neg (by simp [hk])]
      have e2 : without (b :: r) k = without r k := by unfold without; rw [List.filter_cons, if_neg (by simp [hk'])]
      rw [e1, e2]; exact ih
    · have hk' : ¬ b.1 = k := x.1 ▸ hk
      have e1 : ddel (a :: l) k = a :: ddel l k := by unfold ddel; rw [List.filter_cons, if_pos (by simp [hk])]
      have e2 : without (b :: r) k = b :: without r k := by unfold without; rw [List.filter_cons, if_pos (by simp [hk'])]
      rw [e1, e2]; exact .cons x ih

/-! an item -/
noncomputable def pItem (a b : AV) : AM AV := match a, b with
  | .ref k, .int i => fun σ => match σ.hp[k]? with
    | some (.list l) => if 0 ≤ i ∧ i < 2 ^ 62 then match l[i.toNat]? with
      | some v => some (v, σ)
      | none => none
      else none
    | some (.dict _ d) => match dget d i with
      | some v => some (v, σ)
      | none => none
    | _ => none
  | .li l, .int i => fun σ => if 0 ≤ i ∧ i < 2 ^ 62 then match l[i.toNat]? with
      | some v => some (.int v, σ)
      | none => none
      else none
  | .lli l, .int i => fun σ => if 0 ≤ i ∧ i < 2 ^ 62 then match l[i.toNat]? with
      | some v => some (.li v, σ)
      | none => none
      else none
  | .tup l, .int i => fun σ => if 0 ≤ i ∧ i < 2 ^ 62 then match l[i.toNat]? with
      | some v => some (.int v, σ)
      | none => none
      else none
  | _, _ => no

theorem prim_getItem : Prim2 VR W c (fun _ a b => getItem a b) pItem := by
  intro x ok s σ fps Z Y R a ca b cb ha hb v σ' e Q E k
  unfold pItem at e
  split at e
  · rename_i m i
    obtain ⟨t, rfl⟩ := hb
    obtain ⟨ad, hr, rfl⟩ := ha
    split at e
    · rename_i l hl
      split at e
      · rename_i hi
        split at e
        · rename_i u hu
          cases e
          obtain ⟨a', vs, n, hr', hf, hv, ho, hL⟩ := R.lst hl
          rw [hr] at hr'; cases hr'
          obtain ⟨cv, hc, hw⟩ := hv.get hu
          exact wpAny_getItem_list hL hi.1 (by omega) (by simpa using hc) (k.here R hw)
        · cases e
      · cases e
    · rename_i lk d hd
      split at e
      · rename_i u hu
        cases e
        obtain ⟨a', od, kvs, ep, hr', hf, hs0, he, hv, ho, hD⟩ := R.dic hd
        rw [hr] at hr'; cases hr'
        obtain ⟨cv, hc, hw⟩ := dget_some hv hu
        exact wpAny_getItem_of (intKind_is W.prog W.w i t) hD.dictOf.mapOf hc (k.same R hw _)
      · cases e
    · cases e
  · rename_i l i
    obtain ⟨t, rfl⟩ := hb
    split at e
    · rename_i hi
      split at e
      · rename_i u hu
        cases e
        obtain ⟨a', vs, rfl, hL, hI⟩ := IntsL.isList R ha
        obtain ⟨cv, hc, hw⟩ := (all2_ints hI).get hu
        exact wpAny_getItem_list hL hi.1 (by omega) (by simpa using hc) (k.here R hw)
      · cases e
    · cases e
  · rename_i l i
    obtain ⟨t, rfl⟩ := hb
    split at e
    · rename_i hi
      split at e
      · rename_i u hu
        cases e
        obtain ⟨a', vs, n, rfl, hm, hI⟩ := ha
        obtain ⟨cv, hc, hw⟩ := hI.get hu
        exact wpAny_getItem_list ⟨_, (R.frozen hm).1, rfl, n, rfl⟩ hi.1 (by omega) (by simpa using hc) (k.here R hw)
      · cases e
    · cases e
  · rename_i l i
    obtain ⟨t, rfl⟩ := hb
    split at e
    · rename_i hi
      split at e
      · rename_i u hu
        cases e
        obtain ⟨a', vs, n, rfl, hm, hI⟩ := ha
        obtain ⟨cv, hc, hw⟩ := (all2_ints hI).get hu
        have hlt : i.toNat < vs.length := (List.getElem?_eq_some_iff.mp hc).1
        refine getItem_tuple (items := List.toArray vs) (j := i.toNat) ⟨_, (R.frozen hm).1, rfl, n, rfl⟩ (by omega) (by omega) ?_ (by simpa using hc) (k.here R hw)
        unfold seqIndex?
        simp only [List.size_toArray]
        rw [if_neg (show ¬ i < 0 by omega)]
        rw [if_pos (by simp only [Bool.and_eq_true, decide_eq_true_eq]; omega)]
      · cases e
    · cases e
  · cases e
end
end Mine

end
section
open PySem PySem.W PySem.Calls PyProof.Rows
set_option Elab.async false
namespace Mine
section
variable {W : Wd} {c : Cx}

/-- an object turned by one of the library's rules over ledgers -/
theorem Rel.turn {x : Fx} {h : Heap} {σ : AS} {fps : List FP} {Z Y : FP} (R : Rel W c x h σ fps Z Y) {i : Nat} {pre post : FP} {a : Addr} {o : Obj} (hf : fps[i]? = some (pre ++ (a, o) :: post)) :
    ∃ m rest, Fr x.h₀ x.L h m ∧ News x.h₀ x.L h ((a, o) :: rest) ∧ (∀ p ∈ rest, p.1 ≠ a) ∧
      ∀ h' o' A, Fr x.h₀ x.L h' m → News x.h₀ x.L h' ((a, o') :: rest) → OR W x.ep (rho fps) Z A (pre ++ (a, o') :: post) → Rel W c x h' { σ with hp := σ.hp.set i A } (fps.set i (pre ++ (a, o') :: post)) Z Y ∧ rho (fps.set i (pre ++ (a, o') :: post)) = rho fps := by
  obtain ⟨P, S, e1, e2⟩ := split_at hf
  obtain ⟨m, F, q⟩ := R.fr
  have H := R.led
  rw [e1] at H
  have H1 := H.perm pm
  have hn : a ∉ (P.flatten ++ pre ++ (post ++ S.flatten ++ (Z ++ (Y ++ x.U)))).map (·.1) := by
    have := H1.D
    rw [List.map_cons, List.nodup_cons] at this
    exact this.1
  refine ⟨m, _, F, H1.N, fun p hp z => hn (z ▸ List.mem_map_of_mem hp), fun h' o' A F' N' hA => ?_⟩
  have hr : rho (fps.set i (pre ++ (a, o') :: post)) = rho fps := rho_set hf (by cases pre <;> rfl)
  have H2 : Led x.h₀ x.L h' _ := ⟨N', H1.D⟩
  have H3 := H2.perm pm.symm
  rw [← e2] at H3
  exact ⟨⟨⟨m, F', fun j nm v h1 h2 => by rw [hr]; exact q j nm v h1 h2⟩, fun j nm h1 => by rw [hr]; exact R.ce j nm h1, H3.N, H3.D, by rw [hr]; exact R.O.set i hA, R.G, R.V⟩, hr⟩

theorem ext_of_rho {fps fps' : List FP} {Z : FP} (h : rho fps' = rho fps) : Ext (rho fps) Z (rho fps') Z := by rw [h]; exact Ext.refl

/-! displays -/
noncomputable def pNewList (l : List AV) : AM AV := fun σ => if l.length < 1000 then some (.ref σ.hp.length, { σ with hp := σ.hp ++ [.list l] }) else none
theorem prim_newList : PrimN VR W c (fun _ vs => newList vs) pNewList := by
  intro x _ s σ fps Z Y R a ca ha v σ' e Q E k
  unfold pNewList at e
  split at e
  · rename_i hl
    cases e
    have hlen := All2.length ha
    obtain ⟨R', X, hr⟩ := R.alloc (o := listOf (List.toArray ca) 0) rfl (A := .list a) ⟨_, ca, 0, rfl, ha⟩
    exact wpAny_newObj_type (k _ _ _ _ _ _ R' X ⟨_, hr, rfl⟩) (by show (List.toArray ca).size ≤ sizeLine; rw [List.size_toArray]; have := sizeLine_eq; omega)
  · cases e
theorem se_list {elts : List Expr} {pos : Pos} {f : AM (List AV)} {G : List AV → AM AV} (h : SA W c pos elts f) (hp : PrimN VR W c (fun _ vs => newList vs) G) : SE W c (.List elts pos) (bnd f G) := by
  intro x ok s σ fps Z Y R v σ' e Q E k
  refine List_ (h.bind ok R e fun a σ₁ h₁ tk₁ fps₁ Z₁ Y₁ ca _ e₁ R₁ X₁ p₁ => ?_)
  exact hp x ok _ σ₁ fps₁ Z₁ Y₁ R₁ a ca p₁ v σ' e₁ Q E (k.ext X₁ h₁ tk₁)
theorem se_tuple {elts : List Expr} {kk : Nat} {pos : Pos} {f : AM (List AV)} {G : List AV → AM AV} (h : SA W c pos elts f) (hp : PrimN VR W c (fun _ vs => newTuple vs) G) : SE W c (.Tuple elts kk pos) (bnd f G) := by
  intro x ok s σ fps Z Y R v σ' e Q E k
  refine Tuple_ (h.bind ok R e fun a σ₁ h₁ tk₁ fps₁ Z₁ Y₁ ca _ e₁ R₁ X₁ p₁ => ?_)
  exact hp x ok _ σ₁ fps₁ Z₁ Y₁ R₁ a ca p₁ v σ' e₁ Q E (k.ext X₁ h₁ tk₁)
noncomputable def intsOf : List AV → Option (List Int)
  | [] => some []
  | .int i :: r => match intsOf r with
    | some l => some (i :: l)
    | none => none
  | _ => none
theorem intsOf_all {ρ : Nat → Option Addr} {Z : FP} : ∀ {a : List AV} {ca : List Value} {l : List Int}, All2 (VR ρ Z) a ca → intsOf a = some l → IntsAre ca l
  | _, _, _, .nil, e => by cases e; exact .nil
  | _, _, _, .cons (a := a) x h, e => by
    cases a with
    | int i =>
      unfold intsOf at e
      split at e
      · rename_i l' e'
        cases e
        obtain ⟨t, rfl⟩ := x
        exact .cons i t (intsOf_all h e')
      · cases e
    | _ => cases e
noncomputable def pTup (a : List AV) : AM AV := fun σ => match intsOf a with
  | some l => if l.length < 1000 then some (.tup l, σ) else none
  | none => none
noncomputable def pLi (a : List AV) : AM AV := fun σ => match intsOf a with
  | some l => if l.length < 1000 then some (.li l, σ) else none
  | none => none
theorem prim_tup : PrimN VR W c (fun _ vs => newTuple vs) pTup := by
  intro x _ s σ fps Z Y R a ca ha v σ' e Q E k
  unfold pTup at e
  split at e
  · rename_i l hl
    split at e
    · rename_i hlt
      cases e
      have hi := intsOf_all ha hl
      have hlen := hi.length
      obtain ⟨R', X⟩ := R.freeze (o := tupOf (List.toArray ca) 0) rfl
      exact wpAny_newObj_type (k _ _ _ _ _ _ R' X ⟨_, ca, 0, rfl, .head _, hi⟩) (by show (List.toArray ca).size ≤ sizeLine; rw [List.size_toArray]; have := sizeLine_eq; omega)
    · cases e
  · cases e
theorem prim_li : PrimN VR W c (fun _ vs => newList vs) pLi := by
  intro x _ s σ fps Z Y R a ca ha v σ' e Q E k
  unfold pLi at e
  split at e
  · rename_i l hl
    split at e
    · rename_i hlt
      cases e
      have hi := intsOf_all ha hl
      have hlen := hi.length
      obtain ⟨R', X⟩ := R.freeze (o := listOf (List.toArray ca) 0) rfl
      exact wpAny_newObj_type (k _ _ _ _ _ _ R' X ⟨_, ca, 0, rfl, .head _, hi⟩) (by show (List.toArray ca).size ≤ sizeLine; rw [List.size_toArray]; have := sizeLine_eq; omega)
    · cases e
  · cases e

/-! subscripts -/
theorem slots_of {x : Fx} {s : Shared} {σ σ' : AS} {fps : List FP} {Z Y : FP} (R : Rel W c x s.heap σ fps Z Y) {a b v : AV} {ca cb : Value} (ha : VR (rho fps) Z a ca) (hb : VR (rho fps) Z b cb) (e : pItem a b σ = some (v, σ')) :
    ∃ ad T id i t, ca = .ref ad ∧ cb = .int i t ∧ s.TypeIs (.ref ad) T ∧ typeLookup (.type T) "__getitem__" = pure (some (.builtin id)) := by
  unfold pItem at e
  split at e
  · obtain ⟨t, rfl⟩ := hb
    obtain ⟨ad, hr, rfl⟩ := ha
    split at e
    · rename_i l hl
      obtain ⟨a', vs, n, hr', hf, hv, ho, hL⟩ := R.lst hl
      rw [hr] at hr'; cases hr'
      exact ⟨ad, _, _, _, t, rfl, rfl, hL.typeIs, slot_list_getitem.lookup⟩
    · rename_i lk d hd
      obtain ⟨a', od, kvs, ep, hr', hf, hs0, he, hv, ho, hD⟩ := R.dic hd
      rw [hr] at hr'; cases hr'
      exact ⟨ad, _, _, _, t, rfl, rfl, hD.dictOf.typeIs, slot_dict_getitem.lookup⟩
    · cases e
  · obtain ⟨t, rfl⟩ := hb
    obtain ⟨a', vs, rfl, hL, hI⟩ := IntsL.isList R ha
    exact ⟨a', _, _, _, t, rfl, rfl, hL.typeIs, slot_list_getitem.lookup⟩
  · obtain ⟨t, rfl⟩ := hb
    obtain ⟨a', vs, n, rfl, hm, hI⟩ := ha
    exact ⟨a', "list", _, _, t, rfl, rfl, ⟨_, (R.frozen hm).1, rfl⟩, slot_list_getitem.lookup⟩
  · obtain ⟨t, rfl⟩ := hb
    obtain ⟨a', vs, n, rfl, hm, hI⟩ := ha
    exact ⟨a', "tuple", _, _, t, rfl, rfl, ⟨_, (R.frozen hm).1, rfl⟩, slot_tuple_getitem.lookup⟩
  · cases e
theorem se_sub {value slice : Expr} {pos : Pos} {f g : AM AV} (hf : SE W c value f) (hg : SE W c slice g) (hs : ∀ a i t, subscripted slice false (.ref a) (.int i t) = operate [.ref a, .int i t] (getItem (.ref a) (.int i t))) :
    SE W c (.Subscript value slice pos) (bnd f fun a => bnd g fun b => pItem a b) := by
  intro x ok s σ fps Z Y R v σ' e Q E k
  refine Subscript_ (hf.bind ok R e fun a σ₁ h₁ tk₁ fps₁ Z₁ Y₁ ca _ e₁ R₁ X₁ p₁ => ?_)
  refine hg.bind (s := { s with heap := h₁, toks := tk₁ }) ok R₁ e₁ fun b σ₂ h₂ tk₂ fps₂ Z₂ Y₂ cb _ e₂ R₂ X₂ p₂ => ?_
  obtain ⟨ad, T, id, i, t, rfl, rfl, hT, hl⟩ := slots_of (s := { s with heap := h₂, toks := tk₂ }) R₂ (VR.ext X₂ p₁) p₂ e₂
  exact tail_any hT hl (prim_getItem x ok _ σ₂ fps₂ Z₂ Y₂ R₂ a _ b _ (VR.ext X₂ p₁) p₂ v σ' e₂ Q E ((k.ext X₁ h₁ tk₁).ext X₂ h₂ tk₂)) (hs _ _ _)

/-! an item stored -/
noncomputable def pSetItem (v a b : AV) : AM Unit := match a, b with
  | .ref k, .int i => fun σ => match σ.hp[k]? with
    | some (.list l) => if 0 ≤ i ∧ i < 2 ^ 62 ∧ i < l.length then some ((), { σ with hp := σ.hp.set k (.list (l.set i.toNat v)) }) else none
    | some (.dict _ d) => if d.length < 1000 then some ((), { σ with hp := σ.hp.set k (.dict false (dput d i v)) }) else none
    | _ => none
  | _, _ => no
theorem DObj.of {h : Heap} {a : Addr} {kvs : List (Int × Value)} (D : h.DictOf (intKind W.prog W.w) a kvs) : ∃ o ep, h.get? a = some o ∧ DObj W o kvs ep := by
  obtain ⟨o, es, ep, h1, h2, h3, h4, h5, h6⟩ := D
  exact ⟨o, ep, h1, h2, es, h3, h4, h5, h6⟩
theorem prim_setItem {x : Fx} (ok : FxOk W c x) {s : Shared} {σ σ' : AS} {fps : List FP} {Z Y : FP} (R : Rel W c x s.heap σ fps Z Y) {v a b : AV} {cv ca cb : Value} (hv : VR (rho fps) Z v cv) (ha : VR (rho fps) Z a ca) (hb : VR (rho fps) Z b cb)
    (e : pSetItem v a b σ = some ((), σ')) {Q : Unit → Shared → Prop} {E : Value → Shared → Prop} (k : Then UR W c x fps Z s () σ' Q) : wpAny (model W.prog W.w) x.A (setItem ca cb cv) Q E s := by
  unfold pSetItem at e
  split at e
  · rename_i m i
    obtain ⟨t, rfl⟩ := hb
    obtain ⟨ad, hr, rfl⟩ := ha
    split at e
    · rename_i l hl
      split at e
      · rename_i hi
        cases e
        obtain ⟨a', vs, n, hr', hf, hvs, ho, hL⟩ := R.lst hl
        rw [hr] at hr'; cases hr'
        have hlen := hvs.length
        refine ki_setAt ho hi.1 (by omega) (by rw [List.size_toArray]; omega) ?_
        have q := PySem.IsL.update ho (·.setIfInBounds i.toNat cv)
        have e1 : (List.toArray vs).setIfInBounds i.toNat cv = (vs.set i.toNat cv).toArray := by apply Array.toList_inj.mp; simp
        rw [e1] at q
        have R' := R.setObj (pre := []) (post := []) hf (Heap.SameBut.update ..) q (A := .list (l.set i.toNat v)) ⟨_, _, _, rfl, hvs.set _ hv⟩
        exact k _ _ _ _ _ () R' (ext_of_rho (rho_set hf rfl)) trivial
      · cases e
    · rename_i lk d hd
      split at e
      · rename_i hdl
        cases e
        obtain ⟨a', od, kvs, ep, hr', hf, hs0, he, hvs, ho, hD⟩ := R.dic hd
        rw [hr] at hr'; cases hr'
        have hlen := hvs.length
        refine wpAny_setItem_pairs (intKind_is W.prog W.w i t) hD.dictOf (fun h' hm' hs' => ?_) (by have := sizeLine_eq; omega)
        obtain ⟨o', ep', ho', hd'⟩ := DObj.of hm'
        have R' := R.setObj (pre := []) (post := []) hf hs' ho' (A := .dict false (dput d i v)) ⟨_, o', _, ep', rfl, hs0, hd', (fun z => by cases z), dput_all hv hvs⟩
        exact k _ _ _ _ _ () R' (ext_of_rho (rho_set hf rfl)) trivial
      · cases e
    · cases e
  · cases e
theorem sx_assignSub {o i value : Expr} {p' pos : Pos} {f g h : AM AV} (hf : SE W c value f) (hg : SE W c o g) (hh : SE W c i h) (hs : ∀ env, swapsWith value (some (.Subscript o i p')) pos.line env = pure false) :
    SX W c (.Assign [.Subscript o i p'] value pos) (bnd f fun v => bnd g fun a => bnd h fun b => bnd (pSetItem v a b) fun _ => ok .next) := by
  intro x ok s σ fps Z Y R v σ' e Q E k
  refine wpAny_Assign_Subscript (hf.bind ok R e fun u σ₁ h₁ tk₁ fps₁ Z₁ Y₁ cu _ e₁ R₁ X₁ p₁ => ?_) (hs _)
  refine hg.bind (s := { s with heap := h₁, toks := tk₁ }) ok R₁ e₁ fun a σ₂ h₂ tk₂ fps₂ Z₂ Y₂ ca _ e₂ R₂ X₂ p₂ => ?_
  refine hh.bind (s := { s with heap := h₂, toks := tk₂ }) ok R₂ e₂ fun b σ₃ h₃ tk₃ fps₃ Z₃ Y₃ cb _ e₃ R₃ X₃ p₃ => ?_
  obtain ⟨_, σ₄, e₄, e₅⟩ := bnd_some e₃
  cases e₅
  exact prim_setItem (s := { s with heap := h₃, toks := tk₃ }) ok R₃ (VR.ext (X₂.trans X₃) p₁) (VR.ext X₃ p₂) p₃ e₄ fun h₄ tk₄ fps₄ Z₄ Y₄ _ R₄ X₄ _ => k h₄ tk₄ fps₄ Z₄ Y₄ _ R₄ (((X₁.trans X₂).trans X₃).trans X₄) rfl
end
end Mine

end
section
open PySem PySem.W PySem.Calls PyProof.Rows
set_option Elab.async false
namespace Mine
section
variable {W : Wd} {c : Cx}

/-! methods of the built-in containers -/
noncomputable def isL (a : AV) (σ : AS) : Bool := match a with
  | .ref k => match σ.hp[k]? with
    | some (.list _) => true
    | _ => false
  | _ => false
noncomputable def isD (a : AV) (σ : AS) : Bool := match a with
  | .ref k => match σ.hp[k]? with
    | some (.dict _ _) => true
    | _ => false
  | _ => false
noncomputable def isS (a : AV) (σ : AS) : Bool := match a with
  | .ref k => match σ.hp[k]? with
    | some (.set _) => true
    | _ => false
  | _ => false
noncomputable def Holds (W : Wd) (c : Cx) (T : String) (p : AV → AS → Bool) : Prop :=
  ∀ x h σ fps Z Y, Rel W c x h σ fps Z Y → ∀ a ca, VR (rho fps) Z a ca → p a σ = true → ∃ ad o, ca = .ref ad ∧ h.get? ad = some o ∧ o.cls = .type T ∧ o.dict = none
theorem holds_L : Holds W c "list" isL := by
  intro x h σ fps Z Y R a ca ha e
  unfold isL at e
  split at e
  · split at e
    · rename_i l hl
      obtain ⟨ad, hr, rfl⟩ := ha
      obtain ⟨a', vs, n, hr', hf, hvs, ho, hL⟩ := R.lst hl
      rw [hr] at hr'; cases hr'
      exact ⟨ad, _, rfl, ho, rfl, rfl⟩
    · cases e
  · cases e
theorem holds_D : Holds W c "dict" isD := by
  intro x h σ fps Z Y R a ca ha e
  unfold isD at e
  split at e
  · split at e
    · rename_i lk d hl
      obtain ⟨ad, hr, rfl⟩ := ha
      obtain ⟨a', od, kvs, ep, hr', hf, hs0, he, hvs, ho, hD⟩ := R.dic hl
      rw [hr] at hr'; cases hr'
      obtain ⟨o', es, ho', hx, _⟩ := hD
      rw [ho] at ho'; cases ho'
      exact ⟨ad, od, rfl, ho, hx.1, hx.2.1⟩
    · cases e
  · cases e
theorem Rel.sts {x : Fx} {h : Heap} {σ : AS} {fps : List FP} {Z Y : FP} (R : Rel W c x h σ fps Z Y) {i : Nat} {l : List Int} (e : σ.hp[i]? = some (.set l)) :
    ∃ a o, rho fps i = some a ∧ fps[i]? = some [(a, o)] ∧ h.get? a = some o ∧ o.IntSetOf (fun k => decide (k ∈ l)) l.length := by
  obtain ⟨f, hf, a, o, rfl, hs⟩ := R.obj e
  have ha := R.at hf (.head _)
  exact ⟨a, o, rho_of hf rfl, hf, ha.1, hs⟩
theorem holds_S : Holds W c "set" isS := by
  intro x h σ fps Z Y R a ca ha e
  unfold isS at e
  split at e
  · split at e
    · rename_i l hl
      obtain ⟨ad, hr, rfl⟩ := ha
      obtain ⟨a', o, hr', hf, ho, hs⟩ := R.sts hl
      rw [hr] at hr'; cases hr'
      have hx := (hs.kind W.prog W.w).1
      exact ⟨ad, o, rfl, ho, hx.1, hx.2.1⟩
    · cases e
  · cases e

theorem se_meth {T id : String} {name : Str} {o : Expr} {apos pos : Pos} {args : List Expr} {f : AM AV} {g : AM (List AV)} {p : AV → AS → Bool} {G : List AV → AM AV} (pa : PlainAttrs T) (slot : Slot T name id) (hty : typeOf (.builtin id) = pure (.type "method_descriptor"))
    (hT : Holds W c T p) (ho : SE W c o f) (ha : SA W c pos args g) (hp : PrimN VR W c (fun _ vs => call (.builtin id) vs) G) (hplain : ∀ env, (backTo pos (starEach args env)).any (·.1) = false)
    (he : ∀ env, ∃ pl, eval (.Call (.Attribute o name apos) args [] pos) env = (do
      let ov ← eval o env
      standAt apos.atName
      let (f, first) ← holding [ov] (getMethod ov name pl)
      callWith pos f first (backTo pos (starEach args env)) [])) :
    SE W c (.Call (.Attribute o name apos) args [] pos) (bnd f fun ov σ => if p ov σ then bnd g (fun vs => G (ov :: vs)) σ else none) := by
  intro x ok s σ fps Z Y R v σ' e Q E k
  obtain ⟨pl, hev⟩ := he x.env
  refine MethodCall_ (pl := pl) (ho.bind ok R e fun a σ₁ h₁ tk₁ fps₁ Z₁ Y₁ ca _ e₁ R₁ X₁ p₁ => ?_) hev
  split at e₁
  · rename_i hpa
    obtain ⟨ad, ob, rfl, hob, hc, hd⟩ := hT x _ _ _ _ _ R₁ a ca p₁ hpa
    refine getMethod_builtin (s := { s with heap := h₁, toks := tk₁ }) ⟨ob, hob, hc⟩ pa slot hty (fun b hb => by cases hb; exact ⟨ob, hob, hd⟩) ?_
    refine callWith_builtin (hplain _) (evalArgs_of (hplain _) ?_)
    refine ha.bind (s := { s with heap := h₁, toks := tk₁ }) ok R₁ e₁ fun vs σ₂ h₂ tk₂ fps₂ Z₂ Y₂ cvs _ e₂ R₂ X₂ p₂ => ?_
    exact hp x ok _ σ₂ fps₂ Z₂ Y₂ R₂ (a :: vs) (.ref ad :: cvs) (.cons (VR.ext X₂ p₁) p₂) v σ' e₂ Q E ((k.ext X₁ h₁ tk₁).ext X₂ h₂ tk₂)
  · cases e₁

noncomputable def pAppend : List AV → AM AV := fun vs σ => match vs with
  | [.ref k, v] => match σ.hp[k]? with
    | some (.list l) => if l.length < 1000 then some (.none, { σ with hp := σ.hp.set k (.list (l ++ [v])) }) else none
    | _ => none
  | _ => none
theorem prim_append : PrimN VR W c (fun _ vs => call (.builtin "list.append") vs) pAppend := by
  intro x ok s σ fps Z Y R a ca ha v σ' e Q E k
  unfold pAppend at e
  split at e
  · rename_i m u
    cases ha with
    | cons h1 h2 => cases h2 with
      | cons h3 h4 => cases h4 with
        | nil =>
          obtain ⟨ad, hr, rfl⟩ := h1
          split at e
          · rename_i l hl
            split at e
            · rename_i hll
              cases e
              obtain ⟨a', vs, n, hr', hf, hvs, ho, hL⟩ := R.lst hl
              rw [hr] at hr'; cases hr'
              have hlen := hvs.length
              refine append_at ho (fun h' hs ho' => ?_) (by rw [List.size_toArray]; have := sizeLine_eq; omega)
              have R' := R.setObj (pre := []) (post := []) hf hs ho' (A := .list (l ++ [u])) ⟨_, vs ++ [_], _, by rw [List.push_toArray]; rfl, hvs.append (.cons h3 .nil)⟩
              exact k _ _ _ _ _ _ R' (ext_of_rho (rho_set hf rfl)) rfl
            · cases e
          · cases e
  · cases e

noncomputable def pPop : List AV → AM AV := fun vs σ => match vs with
  | [.ref k] => match σ.hp[k]? with
    | some (.list l) => match l.getLast? with
      | some v => if l.length < 1000 then some (v, { σ with hp := σ.hp.set k (.list l.dropLast) }) else none
      | none => none
    | _ => none
  | _ => none
theorem all2_last {α β : Type} {P : α → β → Prop} : ∀ {l : List α} {vs : List β} {v : α}, All2 P l vs → l.getLast? = some v → ∃ cv, vs = vs.dropLast ++ [cv] ∧ P v cv
  | _, _, _, .nil, e => by cases e
  | _, _, _, .cons x .nil, e => by cases e; exact ⟨_, rfl, x⟩
  | _, _, _, .cons x (.cons y h), e => by
    obtain ⟨cv, e1, e2⟩ := all2_last (.cons y h) (by simpa using e)
    exact ⟨cv, by simpa using e1, e2⟩
theorem prim_pop : PrimN VR W c (fun _ vs => call (.builtin "list.pop") vs) pPop := by
  intro x ok s σ fps Z Y R a ca ha v σ' e Q E k
  unfold pPop at e
  split at e
  · rename_i m
    cases ha with
    | cons h1 h2 => cases h2 with
      | nil =>
        obtain ⟨ad, hr, rfl⟩ := h1
        split at e
        · rename_i l hl
          split at e
          · rename_i u hu
            split at e
            · rename_i hll
              cases e
              obtain ⟨a', vs, n, hr', hf, hvs, ho, hL⟩ := R.lst hl
              rw [hr] at hr'; cases hr'
              have hlen := hvs.length
              obtain ⟨cv, hcv, hw⟩ := all2_last hvs hu
              obtain ⟨mm, rest, F, N, hne, back⟩ := R.turn (pre := []) (post := []) hf
              refine kl_pop (p := vs.dropLast) (y := cv) F N ?_ (.head hne) (by have := sizeLine_eq; show vs.length ≤ _; omega) fun h' F' N' => ?_
              · show kl_last vs = _
                rw [hcv]
                simpa using kpa_last cv vs.dropLast
              · obtain ⟨R', hrho⟩ := back h' _ (.list l.dropLast) F' N' ⟨_, vs.dropLast, n + 1, rfl, hvs.dropLast⟩
                exact k _ _ _ _ _ _ R' (ext_of_rho hrho) (by rw [hrho]; exact hw)
            · cases e
          · cases e
        · cases e
  · cases e

noncomputable def pClear : List AV → AM AV := fun vs σ => match vs with
  | [.ref k] => match σ.hp[k]? with
    | some (.list l) => if l.length < 1000 then some (.none, { σ with hp := σ.hp.set k (.list []) }) else none
    | _ => none
  | _ => none
theorem prim_clear : PrimN VR W c (fun _ vs => call (.builtin "list.clear") vs) pClear := by
  intro x ok s σ fps Z Y R a ca ha v σ' e Q E k
  unfold pClear at e
  split at e
  · rename_i m
    cases ha with
    | cons h1 h2 => cases h2 with
      | nil =>
        obtain ⟨ad, hr, rfl⟩ := h1
        split at e
        · rename_i l hl
          split at e
          · rename_i hll
            cases e
            obtain ⟨a', vs, n, hr', hf, hvs, ho, hL⟩ := R.lst hl
            rw [hr] at hr'; cases hr'
            have hlen := hvs.length
            refine call_meets PySem.F.slot_list_clear ⟨_, ho, rfl⟩ PySem.F.entry_list_clear (PySem.F.args_list_clear_1 _) (PySem.AutoSeq1.list_clear_list_0 ad (List.toArray vs) n (by rw [List.size_toArray]; have := sizeLine_eq; omega)) ⟨ho, ?_⟩
            have q := PySem.IsL.update ho (fun _ => #[])
            have R' := R.setObj (pre := []) (post := []) hf (Heap.SameBut.update ..) q (A := .list []) ⟨_, [], _, rfl, .nil⟩
            exact k _ _ _ _ _ _ R' (ext_of_rho (rho_set hf rfl)) rfl
          · cases e
        · cases e
  · cases e

noncomputable def pGet : List AV → AM AV := fun vs σ => match vs with
  | [.ref k, .int i] => match σ.hp[k]? with
    | some (.dict _ d) => some ((dget d i).getD .none, σ)
    | _ => none
  | _ => none
theorem prim_get : PrimN VR W c (fun _ vs => call (.builtin "dict.get") vs) pGet := by
  intro x ok s σ fps Z Y R a ca ha v σ' e Q E k
  unfold pGet at e
  split at e
  · rename_i m i
    cases ha with
    | cons h1 h2 => cases h2 with
      | cons h3 h4 => cases h4 with
        | nil =>
          obtain ⟨ad, hr, rfl⟩ := h1
          obtain ⟨t, rfl⟩ := h3
          split at e
          · rename_i lk d hl
            cases e
            obtain ⟨a', od, kvs, ep, hr', hf, hs0, he, hvs, ho, hD⟩ := R.dic hl
            rw [hr] at hr'; cases hr'
            refine call_meetsIn PySem.F.slot_dict_get hD.dictOf.typeIs PySem.F.entry_dict_get (PySem.F.args_dict_get_2 _ _) (meets_dict_get (intKind W.prog W.w) ad (intKind_is W.prog W.w i t) hs0) ⟨_, hD.dictOf.mapOf, ?_⟩
            cases hg : dget d i with
            | none => rw [dget_none hvs hg]; exact k.same R (cv := .none) (by rw [hg]; exact rfl) _
            | some u =>
              obtain ⟨cu, hc, hw⟩ := dget_some hvs hg
              rw [hc]; exact k.same R (cv := cu) (by rw [hg]; exact hw) _
          · cases e
  · cases e
end
end Mine

end
section
open PySem PySem.W PySem.Calls PyProof.Rows
set_option Elab.async false
namespace Mine
section
variable {W : Wd} {c : Cx}

/-! calls of the built-in names -/
theorem se_bcall {nm : Str} {p pos : Pos} {args : List Expr} {bv : Value} {f : AM (List AV)} {G : List AV → AM AV} (hG : PrimN VR W c (fun _ vs => call bv vs) G) (ha : SA W c pos args f) (hk : c.sc.names.lookup nm = some .globalImplicit)
    (hn : nsIn W.K mainGlobals nm = some none) (hv : bootBuiltins nm = some bv) (hnm : nm ≠ "__name__") (hm : ∀ (M : Model) h, Looks M h (keeperOf bv) .machine) (hb : (nm == ("__debug__" : Str)) = false)
    (hplain : ∀ env, (backTo pos (starEach args env)).any (·.1) = false) (he : ∀ env, eval (.Call (.Name nm p) args [] pos) env = (do callWith pos (← eval (.Name nm p) env) [] (backTo pos (starEach args env)) (backToKw pos (keywordEach [] env)))) :
    SE W c (.Call (.Name nm p) args [] pos) (bnd f G) := by
  intro x ok s σ fps Z Y R v σ' e Q E k
  have T := R.T ok
  refine Call_ (Name_function_global (by rw [ok.sc, ok.kind]) (by show x.env.scope.names.lookup nm = _; rw [ok.sc, hk]) (loadGlobal_builtin (by rw [ok.glob]; exact T.g) (mg_none_of (R.K ok) T.g hn) (by rw [ok.blt]; exact T.b) ((T.builtins nm hnm).trans hv) ?_) hb) (he _)
  refine callWith_of (P := fun _ => True) (by rw [hplain]; rfl) (fun h _ => ⟨.machine, .inr (.inl rfl), hm _ h⟩) (evalArgs_of (hplain _) ?_)
  exact ha.bind ok R e fun a σ₁ h₁ tk₁ fps₁ Z₁ Y₁ ca _ e₁ R₁ X₁ p₁ => ⟨trivial, hG x ok _ σ₁ fps₁ Z₁ Y₁ R₁ a ca p₁ v σ' e₁ Q E (k.ext X₁ h₁ tk₁)⟩
theorem looks_type {T : String} (M : Model) (h : Heap) : Looks M h (keeperOf (.type T)) .machine := Looks.of_pure rfl
theorem looks_blt {T : String} (M : Model) (h : Heap) : Looks M h (keeperOf (.builtin T)) .machine := Looks.of_pure rfl

noncomputable def pLen : List AV → AM AV := fun vs σ => match vs with
  | [.ref k] => match σ.hp[k]? with
    | some (.list l) => if l.length < 100000 then some (.int l.length, σ) else none
    | _ => none
  | [.li l] => if l.length < 100000 then some (.int l.length, σ) else none
  | [.tup l] => if l.length < 100000 then some (.int l.length, σ) else none
  | _ => none
theorem prim_len : PrimN VR W c (fun _ vs => call (.builtin "len") vs) pLen := by
  intro x ok s σ fps Z Y R a ca ha v σ' e Q E k
  unfold pLen at e
  split at e
  · cases ha with
    | cons h1 h2 => cases h2 with
      | nil =>
        obtain ⟨ad, hr, rfl⟩ := h1
        split at e
        · rename_i l hl
          split at e
          · rename_i hll
            cases e
            obtain ⟨a', vs, n, hr', hf, hvs, ho, hL⟩ := R.lst hl
            rw [hr] at hr'; cases hr'
            have hlen := hvs.length
            refine call_len_list hL (by rw [List.size_toArray]; omega) (k.same R ⟨s.toks + 1, ?_⟩ _)
            rw [List.size_toArray, hlen]
          · cases e
        · cases e
  · cases ha with
    | cons h1 h2 => cases h2 with
      | nil =>
        split at e
        · cases e
          obtain ⟨a', vs, rfl, hL, hI⟩ := IntsL.isList R h1
          have hlen := hI.length
          refine call_len_list hL (by rw [List.size_toArray]; omega) (k.same R ⟨s.toks + 1, ?_⟩ _)
          rw [List.size_toArray, hlen]
        · cases e
  · cases ha with
    | cons h1 h2 => cases h2 with
      | nil =>
        split at e
        · cases e
          obtain ⟨a', vs, n, rfl, hm, hI⟩ := h1
          have hlen := hI.length
          refine PyProof.Rows.len_tuple (items := List.toArray vs) ⟨_, (R.frozen hm).1, rfl, n, rfl⟩ (by rw [List.size_toArray]; omega) (k.same R ⟨s.toks + 1, ?_⟩ _)
          rw [List.size_toArray, hlen]
        · cases e
  · cases e

noncomputable def pInt : List AV → AM AV := fun vs σ => match vs with
  | [.int i] => some (.int i, σ)
  | _ => none
theorem prim_int : PrimN VR W c (fun _ vs => call (.type "int") vs) pInt := by
  intro x ok s σ fps Z Y R a ca ha v σ' e Q E k
  unfold pInt at e
  split at e
  · cases ha with
    | cons h1 h2 => cases h2 with
      | nil =>
        cases e
        obtain ⟨t, rfl⟩ := h1
        exact call_int_int (k.here R ⟨t, rfl⟩)
  · cases e

/-- a list of ints as a tuple -/
noncomputable def pTupOf : List AV → AM AV := fun vs σ => match vs with
  | [.ref k] => match σ.hp[k]? with
    | some (.list l) => match intsOf l with
      | some ns => if ns.length < 1000 then some (.tup ns, σ) else none
      | none => none
    | _ => none
  | _ => none
theorem prim_tupOf : PrimN VR W c (fun _ vs => call (.type "tuple") vs) pTupOf := by
  intro x ok s σ fps Z Y R a ca ha v σ' e Q E k
  unfold pTupOf at e
  split at e
  · cases ha with
    | cons h1 h2 => cases h2 with
      | nil =>
        obtain ⟨ad, hr, rfl⟩ := h1
        split at e
        · rename_i l hl
          split at e
          · rename_i ns hns
            split at e
            · rename_i hll
              cases e
              obtain ⟨a', vs, n, hr', hf, hvs, ho, hL⟩ := R.lst hl
              rw [hr] at hr'; cases hr'
              have hi := intsOf_all hvs hns
              have hlen := hi.length
              refine call_tuple_list hL (fun h' hk => ?_) (by rw [List.size_toArray]; have := sizeLine_eq; omega)
              obtain ⟨R', X⟩ := (R.grow hk).freeze (o := tupOf (List.toArray vs) 0) rfl
              exact k _ _ _ _ _ _ R' X ⟨_, vs, 0, rfl, .head _, hi⟩
            · cases e
          · cases e
        · cases e
  · cases e

noncomputable def pSet0 : List AV → AM AV := fun vs σ => match vs with
  | [] => some (.ref σ.hp.length, { σ with hp := σ.hp ++ [.set []] })
  | _ => none
theorem prim_set0 : PrimN VR W c (fun _ vs => call (.type "set") vs) pSet0 := by
  intro x ok s σ fps Z Y R a ca ha v σ' e Q E k
  unfold pSet0 at e
  split at e
  · cases ha
    cases e
    refine call_set_0 fun led => ?_
    obtain ⟨R', X, hr⟩ := R.alloc (o := { cls := .type "set", dict := none, data := .set #[] 0 (.fresh 0 0 led) }) rfl (A := .set []) ⟨_, _, rfl, by simpa using intSetOf_fresh led⟩
    exact k _ _ _ _ _ _ R' X ⟨_, hr, rfl⟩
  · cases e

noncomputable def pMin2 : List AV → AM AV := fun vs σ => match vs with
  | [.int a, .int b] => some (.int (if b < a then b else a), σ)
  | _ => none
theorem prim_min2 (hl : c.loops = true) : PrimN VR W c (fun _ vs => call (.builtin "min") vs) pMin2 := by
  intro x ok s σ fps Z Y R a ca ha v σ' e Q E k
  unfold pMin2 at e
  split at e
  · rename_i i j
    cases ha with
    | cons h1 h2 => cases h2 with
      | cons h3 h4 => cases h4 with
        | nil =>
          cases e
          obtain ⟨t, rfl⟩ := h1
          obtain ⟨u, rfl⟩ := h3
          refine min_two_ints (ok.hh hl) fun h' tk hk => ?_
          refine k h' tk _ _ _ _ (R.grow hk) Ext.refl ?_
          by_cases hc : j < i
          · rw [if_pos hc, if_pos hc]; exact ⟨u, rfl⟩
          · rw [if_neg hc, if_neg hc]; exact ⟨t, rfl⟩
  · cases e

/-! set.add, in -/
noncomputable def pAdd : List AV → AM AV := fun vs σ => match vs with
  | [.ref k, .int i] => match σ.hp[k]? with
    | some (.set l) => if l.length < 100 then some (.none, { σ with hp := σ.hp.set k (.set (if i ∈ l then l else l ++ [i])) }) else none
    | _ => none
  | _ => none
theorem scan100 : 200 < scanBound := by decide
theorem prim_add : PrimN VR W c (fun _ vs => call (.builtin "set.add") vs) pAdd := by
  intro x ok s σ fps Z Y R a ca ha v σ' e Q E k
  unfold pAdd at e
  split at e
  · rename_i m i
    cases ha with
    | cons h1 h2 => cases h2 with
      | cons h3 h4 => cases h4 with
        | nil =>
          obtain ⟨ad, hr, rfl⟩ := h1
          obtain ⟨t, rfl⟩ := h3
          split at e
          · rename_i l hl
            split at e
            · rename_i hll
              cases e
              obtain ⟨a', o, hr', hf, ho, hs⟩ := R.sts hl
              rw [hr] at hr'; cases hr'
              obtain ⟨mm, rest, F, N, hne, back⟩ := R.turn (pre := []) (post := []) hf
              refine add_sl1 (own := []) F N (fun _ h => nomatch h) hne (hs.kind W.prog W.w) (by have := scan100; omega) (intKind_is W.prog W.w i t) rfl fun h' so' F' N' hs' => ?_
              have hz : so'.IntSetOf (fun k => decide (k ∈ (if i ∈ l then l else l ++ [i]))) (if i ∈ l then l else l ++ [i]).length := by
                refine PySem.Obj.SetObjOf.intSetOf (prog := W.prog) (w := W.w) ?_
                by_cases hi : i ∈ l
                · simp only [hi, if_true, decide_true] at hs' ⊢
                  have e1 : (fun k' => decide (k' ∈ l) || decide (k' = i)) = fun k' => decide (k' ∈ l) := by
                    funext k'
                    by_cases h1 : k' = i
                    · subst h1; simp [hi]
                    · simp [h1]
                  rw [e1] at hs'; exact hs'
                · simp only [hi, if_false, decide_false] at hs' ⊢
                  have e1 : (fun k' => decide (k' ∈ l) || decide (k' = i)) = fun k' => decide (k' ∈ l ++ [i]) := by
                    funext k'
                    by_cases h1 : k' = i
                    · subst h1; simp
                    · simp [h1]
                  rw [e1] at hs'
                  simpa using hs'
              obtain ⟨R', hrho⟩ := back h' so' (.set (if i ∈ l then l else l ++ [i])) F' N' ⟨_, so', rfl, hz⟩
              exact k _ _ _ _ _ _ R' (ext_of_rho hrho) rfl
            · cases e
          · cases e
  · cases e

noncomputable def pIn (a b : AV) : AM AV := match a, b with
  | .int i, .ref k => fun σ => match σ.hp[k]? with
    | some (.set l) => if l.length < 100 then some (.bool (decide (i ∈ l)), σ) else none
    | some (.dict _ d) => some (.bool (dget d i).isSome, σ)
    | _ => none
  | _, _ => no
theorem prim_in : Prim2 VR W c (fun _ a b => compareOp .In a b) pIn := by
  intro x ok s σ fps Z Y R a ca b cb ha hb v σ' e Q E k
  unfold pIn at e
  split at e
  · rename_i i m
    obtain ⟨t, rfl⟩ := ha
    obtain ⟨ad, hr, rfl⟩ := hb
    split at e
    · rename_i l hl
      split at e
      · rename_i hll
        cases e
        obtain ⟨a', o, hr', hf, ho, hs⟩ := R.sts hl
        rw [hr] at hr'; cases hr'
        obtain ⟨mm, rest, F, N, hne, back⟩ := R.turn (pre := []) (post := []) hf
        exact in_sl1 (own := []) N (hs.kind W.prog W.w) (by have := scan100; omega) (intKind_is W.prog W.w i t) rfl (k.same R rfl _)
      · cases e
    · rename_i lk d hl
      cases e
      obtain ⟨a', od, kvs, ep, hr', hf, hs0, he, hvs, ho, hD⟩ := R.dic hl
      rw [hr] at hr'; cases hr'
      refine wpAny_in_of (intKind_is W.prog W.w i t) hs0 hD.dictOf.mapOf ?_
      cases hg : dget d i with
      | none => rw [dget_none hvs hg]; exact k.same R (cv := .bool false) (by rw [hg]; exact rfl) _
      | some u =>
        obtain ⟨cu, hc, hw⟩ := dget_some hvs hg
        rw [hc]; exact k.same R (cv := .bool true) (by rw [hg]; exact rfl) _
    · cases e
  · cases e
end
end Mine

end
section
open PySem PySem.W PySem.Calls PyProof.Rows
set_option Elab.async false
namespace Mine
section
variable {W : Wd} {c : Cx}

/-! the sorter's attributes -/
noncomputable def sNm : Nat → Str
  | 0 => sName1
  | 1 => sName2
  | 2 => sName3
  | _ => sName4
structure AttrS (W : Wd) (nm : Str) : Prop where
  g : plainGet W.K W.Cs nm = true
  h : hasDictIn W.K W.Cs = true
  a : ∃ attr, findIn W.K (.ref W.Cs) nm = some attr ∧ noGet W.K attr = true
  s : findIn W.K (.ref W.Cs) "__setattr__" = some (some (.builtin "object.__setattr__"))
  o : plainOver W.K W.Cs = true
  t : takerIn W.K W.Cs nm = some none
structure AttrN (W : Wd) (nm : Str) (i : Nat) : Prop where
  g : plainGet W.K W.Cn nm = true
  c : isClsIn W.K W.Cn = true
  p : ∃ p, findIn W.K (.ref W.Cn) nm = some (some (.ref p)) ∧ specialIn W.K (.ref p) "__get__" = some (some (.builtin "member_descriptor.__get__")) ∧ takesIn W.K (.ref p) = some true ∧ slotIn W.K p W.Cn = some i ∧
    takerIn W.K W.Cn nm = some (some (.ref p)) ∧ typeIn W.K (.ref p) = some (.type "member_descriptor")
  s : findIn W.K (.ref W.Cn) "__setattr__" = some (some (.builtin "object.__setattr__"))
  o : plainOver W.K W.Cn = true

noncomputable def AO.sget : AO → Nat → Option AV
  | .sorter p _ _ _, 0 => some p
  | .sorter _ q _ _, 1 => some q
  | .sorter _ _ r _, 2 => some r
  | .sorter _ _ _ t, 3 => some t
  | _, _ => none
noncomputable def AO.sput : AO → Nat → AV → Option AO
  | .sorter _ q r t, 0, v => some (.sorter v q r t)
  | .sorter p _ r t, 1, v => some (.sorter p v r t)
  | .sorter p q _ t, 2, v => some (.sorter p q v t)
  | .sorter p q r _, 3, v => some (.sorter p q r v)
  | .part [], 0, v => some (.part [v])
  | .part [p], 1, v => some (.part [p, v])
  | .part [p, q], 2, v => some (.part [p, q, v])
  | .part [p, q, r], 3, v => some (.sorter p q r v)
  | _, _, _ => none
noncomputable def AO.nget : AO → Nat → Option AV
  | .node p _ _, 0 => some p
  | .node _ q _, 1 => some q
  | .node _ _ r, 2 => some r
  | _, _ => none
noncomputable def AO.nput : AO → Nat → AV → Option AO
  | .node _ q r, 0, v => some (.node v q r)
  | .node p _ r, 1, v => some (.node p v r)
  | .node p q _, 2, v => some (.node p q v)
  | .npart [], 0, v => some (.npart [v])
  | .npart [p], 1, v => some (.npart [p, v])
  | .npart [p, q], 2, v => some (.node p q v)
  | _, _, _ => none
noncomputable def pGetS (j : Nat) (a : AV) : AM AV := fun σ => match a with
  | .ref k => match σ.hp[k]? with
    | some o => match o.sget j with
      | some v => some (v, σ)
      | none => none
    | none => none
  | _ => none
noncomputable def pPutS (j : Nat) (v a : AV) : AM Unit := fun σ => match a with
  | .ref k => match σ.hp[k]? with
    | some o => match o.sput j v with
      | some o' => some ((), { σ with hp := σ.hp.set k o' })
      | none => none
    | none => none
  | _ => none
noncomputable def pGetN (j : Nat) (a : AV) : AM AV := fun σ => match a with
  | .ref k => match σ.hp[k]? with
    | some o => match o.nget j with
      | some v => some (v, σ)
      | none => none
    | none => none
  | _ => none
noncomputable def pPutN (j : Nat) (v a : AV) : AM Unit := fun σ => match a with
  | .ref k => match σ.hp[k]? with
    | some o => match o.nput j v with
      | some o' => some ((), { σ with hp := σ.hp.set k o' })
      | none => none
    | none => none
  | _ => none

theorem handed_of {ρ : Nat → Option Addr} {Z : FP} {v : AV} {cv : Value} (h : VR ρ Z v cv) : handedIn cv = true := by
  cases v with
  | none => cases h; rfl
  | bool b => cases h; rfl
  | int i => obtain ⟨t, rfl⟩ := h; rfl
  | ref i => obtain ⟨a, _, rfl⟩ := h; rfl
  | li l => obtain ⟨a, _, _, rfl, _⟩ := h; rfl
  | lli l => obtain ⟨a, _, _, rfl, _⟩ := h; rfl
  | tup l => obtain ⟨a, _, _, rfl, _⟩ := h; rfl
  | pr k i => obtain ⟨a, _, _, _, rfl, _⟩ := h; rfl
  | scr a l => cases h; rfl

theorem prim_getS {j : Nat} (hA : AttrS W (sNm j)) (expr : Bool) : Prim1 VR W c (fun _ a => getAttr a (sNm j) expr) (pGetS j) := by
  intro x ok s σ fps Z Y R a ca ha v σ' e Q E k
  unfold pGetS at e
  split at e
  · rename_i m
    obtain ⟨ad, hr, rfl⟩ := ha
    split at e
    · rename_i o ho
      split at e
      · rename_i u hu
        cases e
        obtain ⟨attr, ha1, ha2⟩ := hA.a
        obtain ⟨mm, F, _⟩ := R.fr
        obtain ⟨f, hf, hO⟩ := R.obj ho
        cases o with
        | sorter p q r t =>
          obtain ⟨a1, b1, n, v1, v2, v3, v4, t1, t2, t3, t4, rfl, h1, h2, h3, h4⟩ := hO
          have hr' := rho_of hf rfl
          rw [hr] at hr'; cases hr'
          have I : InstAt s.heap ad (instObj W.Cs b1) W.Cs (some (dictOf [⟨PyData.keyHash W.w.params sName1, .str sName1 t1, v1⟩, ⟨PyData.keyHash W.w.params sName2, .str sName2 t2, v2⟩, ⟨PyData.keyHash W.w.params sName3, .str sName3 t3, v3⟩, ⟨PyData.keyHash W.w.params sName4, .str sName4 t4, v4⟩] n)) :=
            ⟨(R.at hf (.head _)).1, rfl, rfl, (R.at hf (.tail _ (.head _))).1⟩
          match j, hu with
          | 0, hu => cases hu; exact get_own F ok.X I hA.g hA.h ha1 ha2 (v := v1) (by rfl) (handed_of h1) (k.same R h1 _)
          | 1, hu => cases hu; exact get_own F ok.X I hA.g hA.h ha1 ha2 (v := v2) (by rfl) (handed_of h2) (k.same R h2 _)
          | 2, hu => cases hu; exact get_own F ok.X I hA.g hA.h ha1 ha2 (v := v3) (by rfl) (handed_of h3) (k.same R h3 _)
          | 3, hu => cases hu; exact get_own F ok.X I hA.g hA.h ha1 ha2 (v := v4) (by rfl) (handed_of h4) (k.same R h4 _)
        | _ => cases hu
      · cases e
    · cases e
  · cases e

theorem findObj_dataN {K : Frag} {C : Addr} {od : Option Obj} {name : Str} {a g : Value} (hc : isClsIn K C = true) (ha : findIn K (.ref C) name = some (some a)) (hg : specialIn K a "__get__" = some (some g)) (ht : takesIn K a = some true) : findObj K C od name = some (.bind g a) := by
  obtain ⟨cd, hc⟩ := Option.isSome_iff_exists.mp hc
  unfold findObj
  rw [hc, Option.bind_some, ha, Option.bind_some]
  simp [hg, ht]

theorem prim_getN {nm : Str} {j : Nat} (hA : AttrN W nm j) (expr : Bool) : Prim1 VR W c (fun _ a => getAttr a nm expr) (pGetN j) := by
  intro x ok s σ fps Z Y R a ca ha v σ' e Q E k
  unfold pGetN at e
  split at e
  · rename_i m
    obtain ⟨ad, hr, rfl⟩ := ha
    split at e
    · rename_i o ho
      split at e
      · rename_i u hu
        cases e
        obtain ⟨p, ha1, ha2, ha3, ha4, _, _⟩ := hA.p
        have X := R.K ok
        obtain ⟨f, hf, hO⟩ := R.obj ho
        cases o with
        | node q0 q1 q2 =>
          obtain ⟨a1, b1, v1, v2, v3, rfl, h1, h2, h3⟩ := hO
          have hr' := rho_of hf rfl
          rw [hr] at hr'; cases hr'
          have I : InstAt s.heap ad ⟨.ref W.Cn, some b1, .plain, #[some v1, some v2, some v3]⟩ W.Cn (some emptyDict) := ⟨(R.at hf (.head _)).1, rfl, rfl, (R.at hf (.tail _ (.head _))).1⟩
          have go : ∀ (cv : Value), ((#[some v1, some v2, some v3] : Array (Option Value))[j]?).join = some cv → VR (rho fps) Z v cv → wpAny (model W.prog W.w) x.A (getAttr (.ref ad) nm expr) Q E s := fun cv hv hw =>
            get_bind X I (plainGet_of hA.g).1 (findObj_dataN hA.c ha1 ha2 ha3) (plainGet_of hA.g).2 (wpAny_call (slot_get (s := { s with toks := s.toks + 1 }) X I ha4 hv (handed_on (handed_of hw) (k.same R hw _))))
          match j, hu, ha4, go with
          | 0, hu, _, go => cases hu; exact go _ (by rfl) h1
          | 1, hu, _, go => cases hu; exact go _ (by rfl) h2
          | 2, hu, _, go => cases hu; exact go _ (by rfl) h3
        | _ => cases hu
      · cases e
    · cases e
  · cases e

theorem all2_one {α β : Type} {R : α → β → Prop} {p : α} {vs : List β} (h : All2 R [p] vs) : ∃ v, vs = [v] ∧ R p v := by
  cases h with
  | cons h1 h2 => cases h2; exact ⟨_, rfl, h1⟩
theorem all2_two {α β : Type} {R : α → β → Prop} {p q : α} {vs : List β} (h : All2 R [p, q] vs) : ∃ v u, vs = [v, u] ∧ R p v ∧ R q u := by
  cases h with
  | cons h1 h2 => obtain ⟨u, rfl, h3⟩ := all2_one h2; exact ⟨_, _, rfl, h1, h3⟩
theorem all2_three {α β : Type} {R : α → β → Prop} {p q r : α} {vs : List β} (h : All2 R [p, q, r] vs) : ∃ v u w, vs = [v, u, w] ∧ R p v ∧ R q u ∧ R r w := by
  cases h with
  | cons h1 h2 => obtain ⟨u, w, rfl, h3⟩ := all2_two h2; exact ⟨_, _, _, rfl, h1, h3⟩
theorem one_of {α : Type} {l : List α} (h : l.length = 1) : ∃ a, l = [a] := by
  cases l with
  | nil => cases h
  | cons a l => cases l with
    | nil => exact ⟨a, rfl⟩
    | cons _ _ => cases h
theorem two_of {α : Type} {l : List α} (h : l.length = 2) : ∃ a b, l = [a, b] := by
  cases l with
  | nil => cases h
  | cons a l => obtain ⟨b, rfl⟩ := one_of (Nat.succ.inj h); exact ⟨a, b, rfl⟩
theorem three_of {α : Type} {l : List α} (h : l.length = 3) : ∃ a b c, l = [a, b, c] := by
  cases l with
  | nil => cases h
  | cons a l => obtain ⟨b, c, rfl⟩ := two_of (Nat.succ.inj h); exact ⟨a, b, c, rfl⟩
inductive SputP (l : List AV) (j : Nat) (v : AV) (o : AO) : Prop
  | c0 (e1 : l = []) (e2 : j = 0) (e3 : o = .part [v])
  | c1 (p : AV) (e1 : l = [p]) (e2 : j = 1) (e3 : o = .part [p, v])
  | c2 (p q : AV) (e1 : l = [p, q]) (e2 : j = 2) (e3 : o = .part [p, q, v])
  | c3 (p q r : AV) (e1 : l = [p, q, r]) (e2 : j = 3) (e3 : o = .sorter p q r v)
inductive NputP (l : List AV) (j : Nat) (v : AV) (o : AO) : Prop
  | c0 (e1 : l = []) (e2 : j = 0) (e3 : o = .npart [v])
  | c1 (p : AV) (e1 : l = [p]) (e2 : j = 1) (e3 : o = .npart [p, v])
  | c2 (p q : AV) (e1 : l = [p, q]) (e2 : j = 2) (e3 : o = .node p q v)
theorem sput_part {l : List AV} {j : Nat} {v : AV} {o : AO} (h : (AO.part l).sput j v = some o) : SputP l j v o := by
  refine Classical.byContradiction fun hn => ?_
  rcases l with _ | ⟨p, _ | ⟨q, _ | ⟨r, _ | ⟨t, l⟩⟩⟩⟩
  · cases j with
    | zero => exact hn (.c0 rfl rfl (Option.some.inj h).symm)
    | succ j => exact nomatch h
  · rcases j with _ | _ | j
    · exact nomatch h
    · exact hn (.c1 p rfl rfl (Option.some.inj h).symm)
    · exact nomatch h
  · rcases j with _ | _ | _ | j
    · exact nomatch h
    · exact nomatch h
    · exact hn (.c2 p q rfl rfl (Option.some.inj h).symm)
    · exact nomatch h
  · rcases j with _ | _ | _ | _ | j
    · exact nomatch h
    · exact nomatch h
    · exact nomatch h
    · exact hn (.c3 p q r rfl rfl (Option.some.inj h).symm)
    · exact nomatch h
  · rcases j with _ | _ | _ | _ | j <;> exact nomatch h
theorem nput_part {l : List AV} {j : Nat} {v : AV} {o : AO} (h : (AO.npart l).nput j v = some o) : NputP l j v o := by
  refine Classical.byContradiction fun hn => ?_
  rcases l with _ | ⟨p, _ | ⟨q, _ | ⟨r, l⟩⟩⟩
  · cases j with
    | zero => exact hn (.c0 rfl rfl (Option.some.inj h).symm)
    | succ j => exact nomatch h
  · rcases j with _ | _ | j
    · exact nomatch h
    · exact hn (.c1 p rfl rfl (Option.some.inj h).symm)
    · exact nomatch h
  · rcases j with _ | _ | _ | j
    · exact nomatch h
    · exact nomatch h
    · exact hn (.c2 p q rfl rfl (Option.some.inj h).symm)
    · exact nomatch h
  · rcases j with _ | _ | _ | j <;> exact nomatch h
theorem prim_putN {nm : Str} {j : Nat} (hA : AttrN W nm j) {x : Fx} (ok : FxOk W c x) {s : Shared} {σ σ' : AS} {fps : List FP} {Z Y : FP} (R : Rel W c x s.heap σ fps Z Y) {v a : AV} {cv ca : Value} (hv : VR (rho fps) Z v cv) (ha : VR (rho fps) Z a ca)
    (e : pPutN j v a σ = some ((), σ')) {Q : Unit → Shared → Prop} {E : Value → Shared → Prop} (k : Then UR W c x fps Z s () σ' Q) : wpAny (model W.prog W.w) x.A (setAttr ca nm cv) Q E s := by
  unfold pPutN at e
  split at e
  · rename_i m
    obtain ⟨ad, hr, rfl⟩ := ha
    split at e
    · rename_i o ho
      split at e
      · rename_i o' hu
        cases e
        obtain ⟨p, _, _, _, ha4, ha5, ha6⟩ := hA.p
        have X := R.K ok
        obtain ⟨f, hf, hO⟩ := R.obj ho
        have go : ∀ (b1 : Addr) (s0 sl : Array (Option Value)), fps[m]? = some [(ad, ⟨.ref W.Cn, some b1, .plain, s0⟩), (b1, emptyDict)] → (({ cls := .ref W.Cn, dict := some b1, data := .plain, slots := (s0 ++ Array.replicate (j + 1 - s0.size) none).setIfInBounds j (some cv) } : Obj) = ⟨.ref W.Cn, some b1, .plain, sl⟩) → j < 1000 →
            OR W x.ep (rho fps) Z o' [(ad, ⟨.ref W.Cn, some b1, .plain, sl⟩), (b1, emptyDict)] → wpAny (model W.prog W.w) x.A (setAttr (.ref ad) nm cv) Q E s := fun b1 s0 sl hf he hj hO' => by
          have I : InstAt s.heap ad ⟨.ref W.Cn, some b1, .plain, s0⟩ W.Cn (some emptyDict) := ⟨(R.at hf (.head _)).1, rfl, rfl, (R.at hf (.tail _ (.head _))).1⟩
          obtain ⟨mm, rest, F, N, hne, back⟩ := R.turn (pre := []) (post := [(b1, emptyDict)]) hf
          exact set_plain X I hA.s (osa_descr (s := { s with toks := s.toks + 1 }) KF.slot_mset X I hA.o ha5 ha6 (slot_set (s := { s with toks := s.toks + 1 }) (pre := []) F N X I ha4 hj (fun _ h => nomatch h) hne he rfl fun h' F' N' => by
            obtain ⟨R', hrho⟩ := back h' _ o' F' N' hO'
            exact k _ _ _ _ _ () R' (ext_of_rho hrho) trivial))
        cases o with
        | node q0 q1 q2 =>
          obtain ⟨a1, b1, v1, v2, v3, rfl, h1, h2, h3⟩ := hO
          have hr' := rho_of hf rfl
          rw [hr] at hr'; cases hr'
          match j, hu, ha4, go with
          | 0, hu, _, go => cases hu; exact go b1 _ #[some cv, some v2, some v3] hf (by rfl) (by omega) ⟨ad, b1, cv, v2, v3, rfl, hv, h2, h3⟩
          | 1, hu, _, go => cases hu; exact go b1 _ #[some v1, some cv, some v3] hf (by rfl) (by omega) ⟨ad, b1, v1, cv, v3, rfl, h1, hv, h3⟩
          | 2, hu, _, go => cases hu; exact go b1 _ #[some v1, some v2, some cv] hf (by rfl) (by omega) ⟨ad, b1, v1, v2, cv, rfl, h1, h2, hv⟩
        | npart l =>
          obtain ⟨a1, b1, vs, rfl, hvs⟩ := hO
          have hr' := rho_of hf rfl
          rw [hr] at hr'; cases hr'
          rcases nput_part hu with ⟨rfl, rfl, rfl⟩ | ⟨p, rfl, rfl, rfl⟩ | ⟨p, q, rfl, rfl, rfl⟩
          · cases hvs
            exact go b1 _ #[some cv] hf (by rfl) (by omega) ⟨ad, b1, [cv], rfl, .cons hv .nil⟩
          · obtain ⟨v1, rfl, h1⟩ := all2_one hvs
            exact go b1 _ #[some v1, some cv] hf (by rfl) (by omega) ⟨ad, b1, [v1, cv], rfl, .cons h1 (.cons hv .nil)⟩
          · obtain ⟨v1, v2, rfl, h1, h2⟩ := all2_two hvs
            exact go b1 _ #[some v1, some v2, some cv] hf (by rfl) (by omega) ⟨ad, b1, v1, v2, cv, rfl, h1, h2, hv⟩
        | _ => cases hu
      · cases e
    · cases e
  · cases e

theorem prim_putS {j : Nat} (hA : AttrS W (sNm j)) {x : Fx} (ok : FxOk W c x) {s : Shared} {σ σ' : AS} {fps : List FP} {Z Y : FP} (R : Rel W c x s.heap σ fps Z Y) {v a : AV} {cv ca : Value} (hv : VR (rho fps) Z v cv) (ha : VR (rho fps) Z a ca)
    (e : pPutS j v a σ = some ((), σ')) {Q : Unit → Shared → Prop} {E : Value → Shared → Prop} (k : Then UR W c x fps Z s () σ' Q) : wpAny (model W.prog W.w) x.A (setAttr ca (sNm j) cv) Q E s := by
  unfold pPutS at e
  split at e
  · rename_i m
    obtain ⟨ad, hr, rfl⟩ := ha
    split at e
    · rename_i o ho
      split at e
      · rename_i o' hu
        cases e
        obtain ⟨f, hf, hO⟩ := R.obj ho
        have go : ∀ (b1 : Addr) (es es' : List DictEntry) (n n' : Nat), fps[m]? = some [(ad, instObj W.Cs b1), (b1, dictOf es n)] → (putL (sNm j) (PyData.keyHash W.w.params (sNm j)) (.str (sNm j) (s.toks + 1)) cv es, putN (sNm j) es n) = (es', n') →
            (getL (sNm j) es).isSome = true → es'.length ≤ 1000 → OR W x.ep (rho fps) Z o' [(ad, instObj W.Cs b1), (b1, dictOf es' n')] → wpAny (model W.prog W.w) x.A (setAttr (.ref ad) (sNm j) cv) Q E s := fun b1 es es' n n' hf he hl hz hO' => by
          have I : InstAt s.heap ad (instObj W.Cs b1) W.Cs (some (dictOf es n)) := ⟨(R.at hf (.head _)).1, rfl, rfl, (R.at hf (.tail _ (.head _))).1⟩
          obtain ⟨mm, rest, F, N, hne, back⟩ := R.turn (pre := [(ad, instObj W.Cs b1)]) (post := []) hf
          exact set_dict F ok.X N I rfl hA.s hA.o hA.t hA.h hl he (.head hne) hz fun h' F' N' => by
              obtain ⟨R', hrho⟩ := back h' _ o' F' N' hO'
              exact k _ _ _ _ _ () R' (ext_of_rho hrho) trivial
        cases o with
        | sorter p q r t =>
          obtain ⟨a1, b1, n, v1, v2, v3, v4, t1, t2, t3, t4, rfl, h1, h2, h3, h4⟩ := hO
          have hr' := rho_of hf rfl
          rw [hr] at hr'; cases hr'
          match j, hu, go with
          | 0, hu, go => cases hu; exact go b1 _ _ n n hf (by rfl) (by rfl) (Nat.le_of_ble_eq_true rfl) ⟨_, _, _, cv, v2, v3, v4, _, _, _, _, rfl, hv, h2, h3, h4⟩
          | 1, hu, go => cases hu; exact go b1 _ _ n n hf (by rfl) (by rfl) (Nat.le_of_ble_eq_true rfl) ⟨_, _, _, v1, cv, v3, v4, _, _, _, _, rfl, h1, hv, h3, h4⟩
          | 2, hu, go => cases hu; exact go b1 _ _ n n hf (by rfl) (by rfl) (Nat.le_of_ble_eq_true rfl) ⟨_, _, _, v1, v2, cv, v4, _, _, _, _, rfl, h1, h2, hv, h4⟩
          | 3, hu, go => cases hu; exact go b1 _ _ n n hf (by rfl) (by rfl) (Nat.le_of_ble_eq_true rfl) ⟨_, _, _, v1, v2, v3, cv, _, _, _, _, rfl, h1, h2, h3, hv⟩
        | part l =>
          obtain ⟨a1, b1, n, vs, ts, rfl, hvs, hts⟩ := hO
          have hr' := rho_of hf rfl
          rw [hr] at hr'; cases hr'
          rcases sput_part hu with ⟨rfl, rfl, rfl⟩ | ⟨p, rfl, rfl, rfl⟩ | ⟨p, q, rfl, rfl, rfl⟩ | ⟨p, q, r, rfl, rfl, rfl⟩
          · cases hvs
            cases ts with
            | nil => exact go b1 [] _ n _ hf (by rfl) (by rfl) (Nat.le_of_ble_eq_true rfl) ⟨_, _, _, [cv], [s.toks + 1], rfl, .cons hv .nil, rfl⟩
            | cons _ _ => cases hts
          · obtain ⟨v1, rfl, h1⟩ := all2_one hvs
            obtain ⟨t1, rfl⟩ := one_of hts
            exact go b1 [⟨PyData.keyHash W.w.params sName1, .str sName1 t1, v1⟩] _ n _ hf (by rfl) (by rfl) (Nat.le_of_ble_eq_true rfl) ⟨_, _, _, [v1, cv], [t1, s.toks + 1], rfl, .cons h1 (.cons hv .nil), rfl⟩
          · obtain ⟨v1, v2, rfl, h1, h2⟩ := all2_two hvs
            obtain ⟨t1, t2, rfl⟩ := two_of hts
            exact go b1 [⟨PyData.keyHash W.w.params sName1, .str sName1 t1, v1⟩, ⟨PyData.keyHash W.w.params sName2, .str sName2 t2, v2⟩] _ n _ hf (by rfl) (by rfl) (Nat.le_of_ble_eq_true rfl) ⟨_, _, _, [v1, v2, cv], [t1, t2, s.toks + 1], rfl, .cons h1 (.cons h2 (.cons hv .nil)), rfl⟩
          · obtain ⟨v1, v2, v3, rfl, h1, h2, h3⟩ := all2_three hvs
            obtain ⟨t1, t2, t3, rfl⟩ := three_of hts
            exact go b1 [⟨PyData.keyHash W.w.params sName1, .str sName1 t1, v1⟩, ⟨PyData.keyHash W.w.params sName2, .str sName2 t2, v2⟩, ⟨PyData.keyHash W.w.params sName3, .str sName3 t3, v3⟩] _ n _ hf (by rfl) (by rfl) (Nat.le_of_ble_eq_true rfl) ⟨_, _, _, v1, v2, v3, cv, t1, t2, t3, s.toks + 1, rfl, h1, h2, h3, hv⟩
        | _ => cases hu
      · cases e
    · cases e
  · cases e

/-! attribute expressions and statements; P: the step that reads, S: the step that stores -/
noncomputable def PutOk (W : Wd) (c : Cx) (nm : Str) (S : AV → AV → AM Unit) : Prop :=
  ∀ x, FxOk W c x → ∀ (s : Shared) σ σ' fps Z Y, Rel W c x s.heap σ fps Z Y → ∀ v a cv ca, VR (rho fps) Z v cv → VR (rho fps) Z a ca → S v a σ = some ((), σ') → ∀ Q E, Then UR W c x fps Z s () σ' Q → wpAny (model W.prog W.w) x.A (setAttr ca nm cv) Q E s
theorem put_N {nm : Str} {j : Nat} (hA : AttrN W nm j) : PutOk W c nm (pPutN j) := fun _ ok _ _ _ _ _ _ R _ _ _ _ hv ha e _ _ k => prim_putN hA ok R hv ha e k
theorem put_S {j : Nat} (hA : AttrS W (sNm j)) : PutOk W c (sNm j) (pPutS j) := fun _ ok _ _ _ _ _ _ R _ _ _ _ hv ha e _ _ k => prim_putS hA ok R hv ha e k

theorem se_attr {value : Expr} {nm : Str} {pos : Pos} {f : AM AV} {G : AV → AM AV} (h : SE W c value f) (hG : Prim1 VR W c (fun _ a => getAttr a nm true) G)
    (he : ∀ env, eval (.Attribute value nm pos) env = (do
      let o ← eval value env
      standAt pos.atName
      let r ← holding [o] (getAttr o nm true)
      letTemporaryGo value o r
      pure r)) : SE W c (.Attribute value nm pos) (bnd f G) := by
  intro x ok s σ fps Z Y R v σ' e Q E k
  refine Attribute_any_ (h.bind ok R e fun a σ₁ h₁ tk₁ fps₁ Z₁ Y₁ ca _ e₁ R₁ X₁ p₁ => ?_) (he _)
  exact hG x ok _ σ₁ fps₁ Z₁ Y₁ R₁ a ca p₁ v σ' e₁ Q E (k.ext X₁ h₁ tk₁)
theorem sx_assignAttr {o value : Expr} {nm : Str} {p' pos : Pos} {f g : AM AV} {S : AV → AV → AM Unit} (hf : SE W c value f) (hg : SE W c o g) (hS : PutOk W c nm S) (hs : ∀ env, swapsWith value (some (.Attribute o nm p')) pos.line env = pure false) :
    SX W c (.Assign [.Attribute o nm p'] value pos) (bnd f fun v => bnd g fun a => bnd (S v a) fun _ => ok .next) := by
  intro x ok s σ fps Z Y R v σ' e Q E k
  refine plainObj_wpAny_Assign_Attribute (hf.bind ok R e fun u σ₁ h₁ tk₁ fps₁ Z₁ Y₁ cu _ e₁ R₁ X₁ p₁ => ?_) (hs _)
  refine hg.bind (s := { s with heap := h₁, toks := tk₁ }) ok R₁ e₁ fun a σ₂ h₂ tk₂ fps₂ Z₂ Y₂ ca _ e₂ R₂ X₂ p₂ => ?_
  obtain ⟨_, σ₃, e₃, e₄⟩ := bnd_some e₂
  cases e₄
  exact hS x ok { s with heap := h₂, toks := tk₂ } σ₂ _ fps₂ Z₂ Y₂ R₂ u a cu ca (VR.ext X₂ p₁) p₂ e₃ _ E fun h₃ tk₃ fps₃ Z₃ Y₃ _ R₃ X₃ _ => k h₃ tk₃ fps₃ Z₃ Y₃ _ R₃ ((X₁.trans X₂).trans X₃) rfl
theorem sx_augAttr {op : Operator} {o value : Expr} {nm : Str} {p' pos : Pos} {f g : AM AV} {P : AV → AM AV} {G : AV → AV → AM AV} {S : AV → AV → AM Unit} (hg : SE W c o g) (hP : Prim1 VR W c (fun _ a => getAttr a nm true) P) (hf : SE W c value f)
    (hG : Prim2 VR W c (fun _ a b => inplaceOp op a b) G) (hS : PutOk W c nm S) :
    SX W c (.AugAssign (.Attribute o nm p') op value pos) (bnd g fun a => bnd (P a) fun old => bnd f fun v => bnd (G old v) fun new => bnd (S new a) fun _ => ok .next) := by
  intro x ok s σ fps Z Y R v σ' e Q E k
  refine wpAny_AugAssign_AttributeAny (hg.bind ok R e fun a σ₁ h₁ tk₁ fps₁ Z₁ Y₁ ca _ e₁ R₁ X₁ p₁ => ?_)
  obtain ⟨old, σ₂, e₂, e₃⟩ := bnd_some e₁
  refine hP x ok { s with heap := h₁, toks := tk₁ } σ₁ fps₁ Z₁ Y₁ R₁ a ca p₁ old σ₂ e₂ _ E fun h₂ tk₂ fps₂ Z₂ Y₂ co R₂ X₂ p₂ => ?_
  refine hf.bind (s := { s with heap := h₂, toks := tk₂ }) ok R₂ e₃ fun u σ₃ h₃ tk₃ fps₃ Z₃ Y₃ cu _ e₄ R₃ X₃ p₃ => ?_
  obtain ⟨new, σ₄, e₅, e₆⟩ := bnd_some e₄
  refine hG x ok { s with heap := h₃, toks := tk₃ } σ₃ fps₃ Z₃ Y₃ R₃ old co u cu (VR.ext X₃ p₂) p₃ new σ₄ e₅ _ E fun h₄ tk₄ fps₄ Z₄ Y₄ cn R₄ X₄ p₄ => ?_
  obtain ⟨_, σ₅, e₇, e₈⟩ := bnd_some e₆
  cases e₈
  exact hS x ok { s with heap := h₄, toks := tk₄ } σ₄ _ fps₄ Z₄ Y₄ R₄ new a cn ca p₄ (VR.ext ((X₂.trans X₃).trans X₄) p₁) e₇ _ E fun h₅ tk₅ fps₅ Z₅ Y₅ _ R₅ X₅ _ => k h₅ tk₅ fps₅ Z₅ Y₅ _ R₅ ((((X₁.trans X₂).trans X₃).trans X₄).trans X₅) rfl
noncomputable def IIntOk (W : Wd) (op : Operator) (G : Int → Int → Option Int) : Prop :=
  ∀ (A : Around) (E : Value → Shared → Prop) (s : Shared) (i j r : Int) (t u : Tok) (Q : Value → Shared → Prop), G i j = some r → Q (.int r s.toks) { s with toks := s.toks + 1 } → wpAny (model W.prog W.w) A (inplaceOp op (.int i t) (.int j u)) Q E s
theorem prim_iint2 {op : Operator} {G : Int → Int → Option Int} (h : IIntOk W op G) : Prim2 VR W c (fun _ a b => inplaceOp op a b) (pInt2 G) := by
  intro x _ s σ fps Z Y R a ca b cb ha hb v σ' e Q E k
  unfold pInt2 at e
  split at e
  · obtain ⟨t, rfl⟩ := ha
    obtain ⟨u, rfl⟩ := hb
    split at e
    · rename_i r hr
      cases e
      exact h _ _ _ _ _ _ _ _ _ hr (k.same R ⟨_, rfl⟩ _)
    · cases e
  · cases e
theorem iadd_ok : IIntOk W .Add gAdd := fun _ _ _ _ _ _ _ _ _ e k => by cases e; exact iadd_int k
theorem isub_ok : IIntOk W .Sub gSub := fun _ _ _ _ _ _ _ _ _ e k => by cases e; exact PyProof.Rows.isub_int k
end
end Mine

end
section
open PySem PySem.W PySem.Calls PyProof.Rows
set_option Elab.async false
namespace Mine
section
variable {W : Wd} {c : Cx}

noncomputable def SrcThen (W : Wd) (c : Cx) (x : Fx) (fps : List FP) (Z : FP) (s : Shared) (src : Src) (σ' : AS) (Q : Value → Shared → Prop) : Prop :=
  ∀ h' tk' fps' Z' Y' I o ep, Rel W c { x with U := (I, o) :: x.U, ep := ep } h' σ' fps' Z' Y' → Ext (rho fps) Z (rho fps') Z' → J ep (rho fps') Z' src 0 o → Q (.ref I) { s with heap := h', toks := tk' }

noncomputable def pIter (a : AV) : AM Src := fun σ => match a with
  | .li l => some (.items (l.map .int), σ)
  | .tup l => some (.items (l.map .int), σ)
  | .ref k => match σ.hp[k]? with
    | some (.list _) => some (.mlist k, σ)
    | some (.dict _ d) => if σ.hp.all AO.free then some (.mdict k d.length, { σ with hp := σ.hp.set k (.dict true d) }) else none
    | _ => none
  | _ => none
noncomputable def pVals (a : AV) : AM Src := fun σ => match a with
  | .ref k => match σ.hp[k]? with
    | some (.dict _ d) => if σ.hp.all AO.free then some (.mvals k d.length, { σ with hp := σ.hp.set k (.dict true d) }) else none
    | _ => none
  | _ => none

theorem map_all2 {ρ : Nat → Option Addr} {Z : FP} {l : List Int} {vs : List Value} (h : IntsAre vs l) : All2 (VR ρ Z) (l.map AV.int) vs := by
  induction h with
  | nil => exact .nil
  | cons n t _ ih => exact .cons ⟨t, rfl⟩ ih

/-- a dict locked -/
theorem Rel.lock {x : Fx} {h : Heap} {σ : AS} {fps : List FP} {Z Y : FP} (R : Rel W c x h σ fps Z Y) {i : Nat} {lk : Bool} {d : List (Int × AV)} (e : σ.hp[i]? = some (.dict lk d)) (hf : σ.hp.all AO.free = true) :
    ∃ a kvs ep, rho fps i = some a ∧ (a == sysModules) = false ∧ d.length = kvs.length ∧ h.DictAt (intKind W.prog W.w) a kvs ep ∧ Rel W c { x with ep := ep } h { σ with hp := σ.hp.set i (.dict true d) } fps Z Y := by
  obtain ⟨f, hfp, a, o, kvs, ep, rfl, hs, hd, hl, hv⟩ := R.obj e
  have ha := R.at hfp (.head _)
  refine ⟨a, kvs, ep, rho_of hfp rfl, hs, hv.length, hd.at ha.1, ⟨R.fr, R.ce, R.N, R.D, ?_, R.G, R.V⟩⟩
  have O := all2_free (ep' := ep) R.O hf
  have O2 := O.set i (a := .dict true d) (b := [(a, o)]) ⟨a, o, kvs, ep, rfl, hs, hd, fun _ => rfl, hv⟩
  have : fps.set i [(a, o)] = fps := by
    obtain ⟨hi, hx⟩ := List.getElem?_eq_some_iff.mp hfp
    rw [← hx]; simp
  rw [this] at O2
  exact O2

theorem prim_iter {x : Fx} {s : Shared} {σ σ' : AS} {fps : List FP} {Z Y : FP} (R : Rel W c x s.heap σ fps Z Y) {a : AV} {ca : Value} (ha : VR (rho fps) Z a ca) {src : Src} (e : pIter a σ = some (src, σ')) {Q : Value → Shared → Prop} {E : Value → Shared → Prop}
    (k : SrcThen W c x fps Z s src σ' Q) : wpAny (model W.prog W.w) x.A (pyIter ca) Q E s := by
  unfold pIter at e
  split at e
  · cases e
    obtain ⟨ad, vs, n, rfl, hm, hi⟩ := ha
    refine wpAny_pyIter_list (items := List.toArray vs) ⟨_, (R.frozen hm).1, rfl, n, rfl⟩ ?_
    exact k _ _ fps Z Y _ _ x.ep (R.aside rfl) Ext.refl (.inl ⟨ad, vs, n, rfl, rfl, hm, map_all2 hi⟩)
  · cases e
    obtain ⟨ad, vs, n, rfl, hm, hi⟩ := ha
    refine wpAny_pyIter_tuple (items := List.toArray vs) ⟨_, (R.frozen hm).1, rfl, n, rfl⟩ ?_
    exact k _ _ fps Z Y _ _ x.ep (R.aside rfl) Ext.refl (.inr (.inl ⟨ad, vs, n, rfl, rfl, hm, map_all2 hi⟩))
  · obtain ⟨ad, hr, rfl⟩ := ha
    split at e
    · rename_i l hl
      cases e
      obtain ⟨a', vs, n, hr', hf, hvs, ho, hL⟩ := R.lst hl
      rw [hr] at hr'; cases hr'
      exact wpAny_pyIter_list hL (k _ _ fps Z Y _ _ x.ep (R.aside rfl) Ext.refl ⟨ad, hr, rfl, rfl⟩)
    · rename_i lk d hl
      split at e
      · rename_i hf
        cases e
        obtain ⟨a', kvs, ep, hr', hs0, hlen, hD, R'⟩ := R.lock hl hf
        rw [hr] at hr'; cases hr'
        refine wpAny_pyIter_dict hs0 hD ?_
        exact k _ _ fps Z Y _ _ ep (R'.aside rfl) Ext.refl ⟨ad, hr, rfl, by rw [hlen]; rfl⟩
      · cases e
    · cases e
  · cases e
theorem si_val {e : Expr} {f : AM AV} (h : SE W c e f) : SI W c e (bnd f pIter) := by
  intro x ok s σ fps Z Y R src σ' e Q E k
  refine h.bind ok R e fun a σ₁ h₁ tk₁ fps₁ Z₁ Y₁ ca _ e₁ R₁ X₁ p₁ => ?_
  exact prim_iter (s := { s with heap := h₁, toks := tk₁ }) R₁ p₁ e₁ fun h₂ tk₂ fps₂ Z₂ Y₂ I o ep R₂ X₂ j₂ => k h₂ tk₂ fps₂ Z₂ Y₂ I o ep R₂ (X₁.trans X₂) j₂

/-! ranges -/
noncomputable def pRange1 : List AV → AM Src := fun vs σ => match vs with
  | [.int n] => if -1000000 < n ∧ n < 1000000 then some (.items ((List.range n.toNat).map fun (j : Nat) => AV.int (0 + (j : Int) * 1)), σ) else none
  | _ => none
theorem range1_ok {x : Fx} {s : Shared} {σ σ' : AS} {fps : List FP} {Z Y : FP} (R : Rel W c x s.heap σ fps Z Y) {vs : List AV} {cvs : List Value} (ha : LR (rho fps) Z vs cvs) {src : Src} (e : pRange1 vs σ = some (src, σ')) {Q : Value → Shared → Prop} {E : Value → Shared → Prop}
    (k : SrcThen W c x fps Z s src σ' Q) : wpAny (model W.prog W.w) x.A (call (.type "range") cvs) (fun v s₁ => wpAny (model W.prog W.w) x.A (pyIter v) Q E s₁) E s := by
  unfold pRange1 at e
  split at e
  · rename_i n
    cases ha with
    | cons h1 h2 => cases h2 with
      | nil =>
        obtain ⟨t, rfl⟩ := h1
        split at e
        · rename_i hb
          cases e
          refine call_range_1 (wpAny_pyIter_range (a := 0) (b := n) (c := 1) (IsRange.new _ _ _ _ _ _ _) (small_one (by omega) (by omega) (by omega) (by omega)) ?_)
          have R1 := R.grow (h' := s.heap.push { cls := .type "range", data := .fields #[.int 0 s.toks, .int n t, .int 1 (s.toks + 1)] }) fun b o e => Heap.get?_push_of_some _ e
          refine k _ _ fps Z Y _ _ x.ep (R1.aside rfl) Ext.refl (.inr (.inr ⟨0, 1, n.toNat, ?_, rfl⟩))
          have e1 : Builtin.Range.rangeSize 0 n 1 = ((n.toNat : Nat) : Int) := by rw [rangeSize_one]; split <;> omega
          rw [e1]; simp
        · cases e
  · cases e
noncomputable def pRange3 : List AV → AM Src := fun vs σ => match vs with
  | [.int a, .int b, .int d] => if d = -1 ∧ -1000 ≤ b ∧ b ≤ a ∧ a < 1000000 then some (.items ((List.range (a - b).toNat).map fun (j : Nat) => AV.int (a + (j : Int) * (-1))), σ) else none
  | _ => none
theorem small_down {a b : Int} (h1 : -1000 ≤ b) (h2 : b ≤ a) (h3 : a < 1000000) : Builtin.Range.small a b (-1) = true ∧ Builtin.Range.rangeSize a b (-1) = a - b := by
  have e : Builtin.Range.rangeSize a b (-1) = a - b := by
    unfold Builtin.Range.rangeSize
    simp only [show ¬ ((-1 : Int) > 0) by decide, if_false]
    split
    · rw [show (a - b - 1) / - -1 = a - b - 1 by rw [show (- -1 : Int) = 1 by decide, Int.ediv_one]]; omega
    · omega
  refine ⟨?_, e⟩
  unfold Builtin.Range.small
  rw [e]
  simp only [Builtin.Range.rangeFitsLong, Bool.and_eq_true, Bool.or_eq_true, decide_eq_true_eq, beq_iff_eq, show ¬ ((-1 : Int) > 0) by decide, if_false]
  omega
theorem range3_ok {x : Fx} {s : Shared} {σ σ' : AS} {fps : List FP} {Z Y : FP} (R : Rel W c x s.heap σ fps Z Y) {vs : List AV} {cvs : List Value} (ha : LR (rho fps) Z vs cvs) {src : Src} (e : pRange3 vs σ = some (src, σ')) {Q : Value → Shared → Prop} {E : Value → Shared → Prop}
    (k : SrcThen W c x fps Z s src σ' Q) : wpAny (model W.prog W.w) x.A (call (.type "range") cvs) (fun v s₁ => wpAny (model W.prog W.w) x.A (pyIter v) Q E s₁) E s := by
  unfold pRange3 at e
  split at e
  · rename_i a b d
    cases ha with
    | cons h1 h2 => cases h2 with
      | cons h3 h4 => cases h4 with
        | cons h5 h6 => cases h6 with
          | nil =>
            obtain ⟨t, rfl⟩ := h1
            obtain ⟨u, rfl⟩ := h3
            obtain ⟨v, rfl⟩ := h5
            split at e
            · rename_i hb
              obtain ⟨rfl, hb1, hb2, hb3⟩ := hb
              cases e
              obtain ⟨sm, sz⟩ := small_down hb1 hb2 hb3
              refine PySem.call_range_3 (by decide) (wpAny_pyIter_range (a := a) (b := b) (c := -1) (IsRange.new _ _ _ _ _ _ _) sm ?_) (Or.inl (PyProof.noPylong_small (by decide)))
              have R1 := R.grow (h' := s.heap.push { cls := .type "range", data := .fields #[.int a t, .int b u, .int (-1) v] }) fun b o e => Heap.get?_push_of_some _ e
              refine k _ _ fps Z Y _ _ x.ep (R1.aside rfl) Ext.refl (.inr (.inr ⟨a, -1, (a - b).toNat, ?_, rfl⟩))
              have e1 : (((a - b).toNat : Nat) : Int) = a - b := by omega
              rw [sz, e1]; simp
            · cases e
  · cases e
theorem si_range {p pos : Pos} {args : List Expr} {f : AM (List AV)} {G : List AV → AM Src} (ha : SA W c pos args f) (hk : c.sc.names.lookup ("range" : Str) = some .globalImplicit) (hn : nsIn W.K mainGlobals "range" = some none)
    (hG : ∀ {x : Fx} {s : Shared} {σ σ' : AS} {fps : List FP} {Z Y : FP}, Rel W c x s.heap σ fps Z Y → ∀ {vs : List AV} {cvs : List Value}, LR (rho fps) Z vs cvs → ∀ {src : Src}, G vs σ = some (src, σ') → ∀ {Q : Value → Shared → Prop} {E : Value → Shared → Prop},
      SrcThen W c x fps Z s src σ' Q → wpAny (model W.prog W.w) x.A (call (.type "range") cvs) (fun v s₁ => wpAny (model W.prog W.w) x.A (pyIter v) Q E s₁) E s)
    (hplain : ∀ env, (backTo pos (starEach args env)).any (·.1) = false) (he : ∀ env, eval (.Call (.Name "range" p) args [] pos) env = (do callWith pos (← eval (.Name "range" p) env) [] (backTo pos (starEach args env)) (backToKw pos (keywordEach [] env)))) :
    SI W c (.Call (.Name "range" p) args [] pos) (bnd f G) := by
  intro x ok s σ fps Z Y R src σ' e Q E k
  have T := R.T ok
  refine Call_ (Name_function_global (by rw [ok.sc, ok.kind]) (by show x.env.scope.names.lookup _ = _; rw [ok.sc, hk]) (loadGlobal_builtin (by rw [ok.glob]; exact T.g) (mg_none_of (R.K ok) T.g hn) (by rw [ok.blt]; exact T.b) ((T.builtins "range" (by decide)).trans (PyProof.Rows.Boot.range)) ?_) (by decide)) (he _)
  refine callWith_of (P := fun _ => True) (by rw [hplain]; rfl) (fun h _ => ⟨.machine, .inr (.inl rfl), looks_type _ h⟩) (evalArgs_of (hplain _) ?_)
  refine ha.bind ok R e fun a σ₁ h₁ tk₁ fps₁ Z₁ Y₁ ca _ e₁ R₁ X₁ p₁ => ⟨trivial, ?_⟩
  exact hG (s := { s with heap := h₁, toks := tk₁ }) R₁ p₁ e₁ fun h₂ tk₂ fps₂ Z₂ Y₂ I o ep R₂ X₂ j₂ => k h₂ tk₂ fps₂ Z₂ Y₂ I o ep R₂ (X₁.trans X₂) j₂
end
end Mine

end
section
open PySem PySem.W PySem.Calls PyProof.Rows
set_option Elab.async false
namespace Mine
section
variable {W : Wd} {c : Cx}

/-! is None -/
noncomputable def AV.isNone : AV → Bool
  | .none => true
  | _ => false
noncomputable def pIs (a b : AV) : AM AV := match b with
  | .none => ok (.bool a.isNone)
  | _ => no
noncomputable def pIsNot (a b : AV) : AM AV := match b with
  | .none => ok (.bool !a.isNone)
  | _ => no
theorem none_beq {ρ : Nat → Option Addr} {Z : FP} {a : AV} {ca : Value} (h : VR ρ Z a ca) : (ca == .none) = a.isNone := by
  cases a with
  | none => cases h; rfl
  | bool b => cases h; rfl
  | int i => obtain ⟨t, rfl⟩ := h; rfl
  | ref i => obtain ⟨a, _, rfl⟩ := h; rfl
  | li l => obtain ⟨a, _, _, rfl, _⟩ := h; rfl
  | lli l => obtain ⟨a, _, _, rfl, _⟩ := h; rfl
  | tup l => obtain ⟨a, _, _, rfl, _⟩ := h; rfl
  | pr k i => obtain ⟨a, _, _, _, rfl, _⟩ := h; rfl
  | scr a l => cases h; rfl
theorem prim_is : Prim2 VR W c (fun _ a b => compareOp .Is a b) pIs := by
  intro x _ s σ fps Z Y R a ca b cb ha hb v σ' e Q E k
  unfold pIs at e
  split at e
  · cases e; cases hb
    exact is_none_gen (k.here R (by rw [none_beq ha]; exact rfl))
  · cases e
theorem prim_isNot : Prim2 VR W c (fun _ a b => compareOp .IsNot a b) pIsNot := by
  intro x _ s σ fps Z Y R a ca b cb ha hb v σ' e Q E k
  unfold pIsNot at e
  split at e
  · cases e; cases hb
    exact isnot_none_gen (k.here R (by rw [none_beq ha]; exact rfl))
  · cases e

/-! lists of ints, wherever they lie -/
noncomputable def listInts (a : AV) (σ : AS) : Option (List Int) := match a with
  | .li l => some l
  | .ref k => match σ.hp[k]? with
    | some (.list l) => intsOf l
    | _ => none
  | _ => none
theorem listInts_ok {x : Fx} {h : Heap} {σ : AS} {fps : List FP} {Z Y : FP} (R : Rel W c x h σ fps Z Y) {a : AV} {ca : Value} (ha : VR (rho fps) Z a ca) {l : List Int} (e : listInts a σ = some l) : ∃ ad vs, ca = .ref ad ∧ h.IsList ad (List.toArray vs) ∧ IntsAre vs l := by
  unfold listInts at e
  split at e
  · cases e; exact IntsL.isList R ha
  · split at e
    · rename_i l' hl
      obtain ⟨ad, hr, rfl⟩ := ha
      obtain ⟨a', vs, n, hr', hf, hvs, ho, hL⟩ := R.lst hl
      rw [hr] at hr'; cases hr'
      exact ⟨ad, vs, rfl, hL, intsOf_all hvs e⟩
    · cases e
  · cases e
noncomputable def pNotIn (a b : AV) : AM AV := fun σ => match a with
  | .int i => match listInts b σ with
    | some l => some (.bool (decide (i ∉ l)), σ)
    | none => none
  | _ => none
theorem any_beq {l : List Int} {i : Int} : l.any (· == i) = decide (i ∈ l) := by
  induction l with
  | nil => rfl
  | cons a r ih =>
    rw [List.any_cons, ih]
    by_cases h : a = i
    · subst h; simp
    · have : (a == i) = false := beq_eq_false_iff_ne.mpr h
      rw [this, Bool.false_or]
      have h' : ¬ i = a := fun e => h e.symm
      simp [h']
theorem prim_notIn : Prim2 VR W c (fun _ a b => compareOp .NotIn a b) pNotIn := by
  intro x _ s σ fps Z Y R a ca b cb ha hb v σ' e Q E k
  unfold pNotIn at e
  split at e
  · rename_i i
    obtain ⟨t, rfl⟩ := ha
    split at e
    · rename_i l hl
      cases e
      obtain ⟨ad, vs, rfl, hL, hI⟩ := listInts_ok R hb hl
      refine notin_list_ints hL hI (k.here R ?_)
      show Value.bool _ = _
      rw [any_beq]
      by_cases h : i ∈ l <;> simp [h]
    · cases e
  · cases e
noncomputable def pEqL (neg : Bool) (a b : AV) : AM AV := fun σ => match listInts a σ, listInts b σ with
  | some l, some l' => some (.bool (if neg then decide (l ≠ l') else decide (l = l')), σ)
  | _, _ => none
theorem prim_eqL (hu : 64 ≤ c.u) : Prim2 VR W c (fun _ a b => compareOp .Eq a b) (pEqL false) := by
  intro x ok s σ fps Z Y R a ca b cb ha hb v σ' e Q E k
  unfold pEqL at e
  split at e
  · rename_i l l' h1 h2
    cases e
    obtain ⟨ad, vs, rfl, hL, hI⟩ := listInts_ok R ha h1
    obtain ⟨bd, us, rfl, hL', hI'⟩ := listInts_ok R hb h2
    exact eq_intsK hL hI hL' hI' (by have := ok.uni; omega) (k.here R rfl)
  · cases e
theorem prim_neL (hu : 64 ≤ c.u) : Prim2 VR W c (fun _ a b => compareOp .NotEq a b) (pEqL true) := by
  intro x ok s σ fps Z Y R a ca b cb ha hb v σ' e Q E k
  unfold pEqL at e
  split at e
  · rename_i l l' h1 h2
    cases e
    obtain ⟨ad, vs, rfl, hL, hI⟩ := listInts_ok R ha h1
    obtain ⟨bd, us, rfl, hL', hI'⟩ := listInts_ok R hb h2
    refine ne_intsK hL hI hL' hI' (by have := ok.uni; omega) (k.here R ?_)
    show Value.bool _ = _
    by_cases h : l = l' <;> simp [h]
  · cases e

/-! tuples of ints compared -/
noncomputable def lexLt : List Int → List Int → Bool
  | [], [] => false
  | [], _ :: _ => true
  | _ :: _, [] => false
  | a :: l, b :: r => if a = b then lexLt l r else decide (a < b)
noncomputable def pLtT (a b : AV) : AM AV := match a, b with
  | .tup l, .tup r => ok (.bool (lexLt l r))
  | _, _ => no
theorem eqBool_int {prog : Program} {w : World} {A : Around} {E : Value → Shared → Prop} {s : Shared} {i j : Int} {t u : Tok} {Q : Bool → Shared → Prop} (h : Q (decide (i = j)) s) : wpAny (model prog w) A (eqBool (.int i t) (.int j u)) Q E s :=
  (intKind prog w).eqBool (intKind_is prog w i t) (intKind_is prog w j u) h
theorem richLt_int {prog : Program} {w : World} {A : Around} {E : Value → Shared → Prop} {s : Shared} {i j : Int} {t u : Tok} {Q : Value → Shared → Prop} (h : Q (.bool (decide (i < j))) s) : wpAny (model prog w) A (richCompare .Lt (.int i t) (.int j u)) Q E s :=
  PyProof.Rows.lt_int h
theorem lexLt_zip : ∀ {vs us : List Value} {l r : List Int}, IntsAre vs l → IntsAre us r → ∀ {P : Prop}, ((∀ p ∈ vs.zip us, ∃ i t u, p = (Value.int i t, Value.int i u)) → lexLt l r = decide (vs.length < us.length) → P) → (∀ A B i j t u, vs.zip us = A ++ (Value.int i t, Value.int j u) :: B → (∀ p ∈ A, ∃ i t u, p = (Value.int i t, Value.int i u)) → i ≠ j → lexLt l r = decide (i < j) → P) → P := by
  intro vs us l r hv hu
  induction hv generalizing us r with
  | nil =>
    intro P h1 h2
    refine h1 (fun p hp => by simp at hp) ?_
    cases hu <;> simp [lexLt]
  | cons n t hv ih =>
    intro P h1 h2
    cases hu with
    | nil => exact h1 (fun p hp => by simp at hp) (by simp [lexLt])
    | cons m u hu =>
      by_cases h : n = m
      · subst h
        refine ih hu ?_ ?_
        · intro q1 q2
          refine h1 (fun p hp => ?_) ?_
          · rw [List.zip_cons_cons] at hp
            rcases List.mem_cons.mp hp with rfl | hp
            · exact ⟨n, t, u, rfl⟩
            · exact q1 p hp
          · simp only [lexLt, if_true, List.length_cons, Nat.add_lt_add_iff_right]; exact q2
        · intro A B i j t' u' q1 q2 q3 q4
          refine h2 ((Value.int n t, Value.int n u) :: A) B i j t' u' ?_ (fun p hp => ?_) q3 ?_
          · rw [List.zip_cons_cons, q1]; rfl
          · rcases List.mem_cons.mp hp with rfl | hp
            · exact ⟨n, t, u, rfl⟩
            · exact q2 p hp
          · simp only [lexLt, if_true]; exact q4
      · exact h2 [] _ n m t u rfl (fun p hp => nomatch hp) h (by simp [lexLt, h])
theorem lt_tree {prog : Program} {w : World} {A : Around} {E : Value → Shared → Prop} {s : Shared} {a b : Addr} {vs us : List Value} {l r : List Int} {P : PySem.Fin → Shared → Prop}
    (ha : IsTup s.heap a (List.toArray vs)) (ia : IntsAre vs l) (hb : IsTup s.heap b (List.toArray us)) (ib : IntsAre us r)
    (h : P (.done (.ret (.bool (lexLt l r)))) s) : wpAny (model prog w) A (Builtin.«tuple.__lt__» ⟨[.ref a, .ref b], []⟩) P E s := by
  show wpAny _ _ (isInstance (.ref b) (.type "tuple") >>= _) _ _ s
  refine wpAny_bind (wpAny_isInstance (T := "tuple") (b := true) hb.typeIs (by rw [isSubtype_type]; kernel_rfl) ?_)
  show wpAny _ _ (Builtin.Tuple.tupleItemsOf (.ref a) >>= _) _ _ s
  refine wpAny_bind (tupleItemsOf_ ha ?_)
  refine wpAny_bind (tupleItemsOf_ hb ?_)
  show wpAny _ _ (forIn (vs.zip us) _ _ >>= _) _ _ s
  refine lexLt_zip ia ib ?_ ?_
  · intro q1 q2
    refine wpAny_bind (wpAny_forIn_list _ (fun rest bb s' => bb.1 = none ∧ s' = s ∧ ∀ p ∈ rest, ∃ i t u, p = (Value.int i t, Value.int i u)) _ ?_ ?_ _ _ ⟨rfl, rfl, q1⟩)
    · rintro y rest bb s' ⟨hbb, rfl, hr⟩
      obtain ⟨i, t, u, rfl⟩ := hr y (.head _)
      refine wpAny_bind (eqBool_int ?_)
      simp only [decide_true]
      exact wpAny_pure ⟨rfl, rfl, fun p hp => hr p (.tail _ hp)⟩
    · rintro ⟨b1, b2⟩ s' ⟨hbb, rfl, _⟩
      simp only at hbb
      subst hbb
      rw [q2] at h
      exact wpAny_pure (by simpa [Builtin.Tuple.tupleCompareSizes] using h)
  · intro Al Bl i j t u q1 q2 q3 q4
    refine wpAny_bind (wpAny_forIn_list _ (fun rest bb s' => bb.1 = none ∧ s' = s ∧ ∃ A', rest = A' ++ (Value.int i t, Value.int j u) :: Bl ∧ ∀ p ∈ A', ∃ i t u, p = (Value.int i t, Value.int i u)) _ ?_ ?_ _ _ ⟨rfl, rfl, Al, q1, q2⟩)
    · rintro y rest bb s' ⟨hbb, rfl, A', hr, hA⟩
      cases A' with
      | nil =>
        cases hr
        refine wpAny_bind (eqBool_int ?_)
        simp only [q3, decide_false]
        refine wpAny_bind (wpAny_rule ?_)
        refine wpAny_bind (richLt_int ?_)
        rw [q4] at h
        exact wpAny_bind (wpAny_pure (wpAny_pure (wpAny_pure (by simpa using h))))
      | cons z A' =>
        cases hr
        obtain ⟨i', t', u', rfl⟩ := hA _ (.head _)
        refine wpAny_bind (eqBool_int ?_)
        simp only [decide_true]
        exact wpAny_pure ⟨rfl, rfl, A', rfl, fun p hp => hA p (.tail _ hp)⟩
    · rintro ⟨b1, b2⟩ s' ⟨hbb, rfl, A', hr, _⟩
      cases A' <;> cases hr
theorem lt_tuples {prog : Program} {w : World} {A : Around} {E : Value → Shared → Prop} {s : Shared} {a b : Addr} {vs us : List Value} {l r : List Int} {Q : Value → Shared → Prop}
    (ha : IsTup s.heap a (List.toArray vs)) (ia : IntsAre vs l) (hb : IsTup s.heap b (List.toArray us)) (ib : IntsAre us r) (hu : A.units < cLine)
    (h : Q (.bool (lexLt l r)) s) : wpAny (model prog w) A (richCompare .Lt (.ref a) (.ref b)) Q E s :=
  wpAny_richCompare_same_room (op := .Lt) (T := "tuple") ha.typeIs hb.typeIs F.slot_tuple_lt (wpAny_call_entry F.slot_tuple_lt ha.typeIs F.entry_tuple_lt (lt_tree ha ia hb ib ⟨_, rfl, ⟨(by intro z; cases z), h⟩⟩) (F.args_tuple_lt_2 _ _)) hu
theorem prim_ltT : Prim2 VR W c (fun _ a b => compareOp .Lt a b) pLtT := by
  intro x ok s σ fps Z Y R a ca b cb ha hb v σ' e Q E k
  unfold pLtT at e
  split at e
  · cases e
    obtain ⟨ad, vs, n, rfl, hm, hi⟩ := ha
    obtain ⟨bd, us, n', rfl, hm', hi'⟩ := hb
    exact cmp_ofLt (lt_tuples ⟨_, (R.frozen hm).1, rfl, n, rfl⟩ hi ⟨_, (R.frozen hm').1, rfl, n', rfl⟩ hi' (by have := ok.uni; omega) (k.here R rfl))
  · cases e
end
end Mine

end
section
open PySem PySem.W PySem.Calls PyProof.Rows
set_option Elab.async false
namespace Mine
section
variable {W : Wd} {c : Cx}
noncomputable def slotOf : List (Str × Bool) → Str → Nat → Option (Nat × Bool)
  | [], _, _ => none
  | p :: r, n, i => if p.1 = n then some (i, p.2) else slotOf r n (i + 1)
theorem slotOf_some : ∀ {l : List (Str × Bool)} {n : Str} {i j : Nat} {b : Bool}, slotOf l n i = some (j, b) → i ≤ j ∧ l[j - i]? = some (n, b)
  | [], _, _, _, _, e => by cases e
  | p :: r, n, i, j, b, e => by
    unfold slotOf at e
    split at e
    · rename_i h
      cases e
      subst h
      exact ⟨Nat.le_refl _, by simp⟩
    · obtain ⟨h1, h2⟩ := slotOf_some e
      refine ⟨Nat.le_of_succ_le h1, ?_⟩
      have : j - i = (j - (i + 1)) + 1 := (Nat.sub_add_cancel (Nat.sub_pos_of_lt h1)).symm.trans (by rw [Nat.sub_sub])
      rw [this]; simpa using h2
theorem slot_at {n : Str} {j : Nat} {b : Bool} (e : slotOf c.vars n 0 = some (j, b)) : c.vars[j]? = some (n, b) := by simpa using (slotOf_some e).2
theorem se_locS {i : Nat} {nm : Str} {pos : Pos} (hi : slotOf c.vars nm 0 = some (i, false)) (hk : c.sc.names.lookup nm = some .local) (hd : (nm == ("__debug__" : Str)) = false) : SE W c (.Name nm pos) (pLoc i) := se_loc (slot_at hi) hk hd
theorem se_cellS {i : Nat} {nm : Str} {pos : Pos} (hi : slotOf c.vars nm 0 = some (i, true)) (hk : c.sc.names.lookup nm = some .cell) (hd : (nm == ("__debug__" : Str)) = false) : SE W c (.Name nm pos) (pLoc i) := se_cell (slot_at hi) hk hd
theorem store_locS {i : Nat} {nm : Str} (hi : slotOf c.vars nm 0 = some (i, false)) (hk : c.sc.names.lookup nm = some .local) : Prim1 UR W c (fun x v => storeName x.env nm v) (pStore i) := store_loc (slot_at hi) hk
theorem store_cellS {i : Nat} {nm : Str} (hi : slotOf c.vars nm 0 = some (i, true)) (ho : i < c.own) (hk : c.sc.names.lookup nm = some .cell) : Prim1 UR W c (fun x v => storeName x.env nm v) (pStore i) := store_cell (slot_at hi) ho hk
end
end Mine

end
section
open PySem PySem.W PySem.Calls PyProof.Rows
set_option Elab.async false
namespace Mine
section
variable {W : Wd} {c : Cx}
/-! one rule for all operators, one for all comparisons -/
noncomputable def opG : Operator → Int → Int → Option Int
  | .Add => gAdd
  | .Sub => gSub
  | .Mult => gMul
  | .Mod => gMod
  | .FloorDiv => gDiv
  | .BitAnd => gAnd
  | .RShift => gShr
  | .Pow => gPow
  | _ => fun _ _ => none
theorem op_ok : ∀ op, IntOk W op (opG op) := by
  intro op
  cases op <;> first | exact add_ok | exact sub_ok | exact mul_ok | exact mod_ok | exact div_ok | exact and_ok | exact shr_ok | exact pow_ok | (intro _ _ _ _ _ _ _ _ _ e; cases e)
theorem se_int2 {op : Operator} {l r : Expr} {pos : Pos} {f g : AM AV} (hl : SE W c l f) (hr : SE W c r g) : SE W c (.BinOp l op r pos) (bnd f fun a => bnd g fun b => pInt2 (opG op) a b) := se_bin hl hr (prim_int2 (op_ok op))

noncomputable def pCmpA (op : CmpOp) (a b : AV) : AM AV := match op with
  | .Lt => match a with
    | .tup _ => pLtT a b
    | _ => pCmp (fun i j => decide (i < j)) a b
  | .Gt => pCmp (fun i j => decide (j < i)) a b
  | .GtE => pCmp (fun i j => decide (j ≤ i)) a b
  | .Eq => match a with
    | .int _ => pCmp (fun i j => decide (i = j)) a b
    | _ => pEqL false a b
  | .NotEq => match a with
    | .int _ => pCmp (fun i j => decide (i ≠ j)) a b
    | _ => pEqL true a b
  | .In => pIn a b
  | .NotIn => pNotIn a b
  | .Is => pIs a b
  | .IsNot => pIsNot a b
  | _ => no
theorem prim_cmpA {op : CmpOp} (hu : 64 ≤ c.u) : Prim2 VR W c (fun _ a b => compareOp op a b) (pCmpA op) := by
  intro x ok s σ fps Z Y R a ca b cb ha hb v σ' e Q E k
  cases op with
  | Lt =>
    unfold pCmpA at e
    dsimp only at e
    split at e
    · exact prim_ltT x ok s σ fps Z Y R _ ca b cb ha hb v σ' e Q E k
    · exact prim_cmp lt_ok x ok s σ fps Z Y R a ca b cb ha hb v σ' e Q E k
  | Gt => exact prim_cmp gt_ok x ok s σ fps Z Y R a ca b cb ha hb v σ' e Q E k
  | GtE => exact prim_cmp ge_ok x ok s σ fps Z Y R a ca b cb ha hb v σ' e Q E k
  | Eq =>
    unfold pCmpA at e
    dsimp only at e
    split at e
    · exact prim_cmp eq_ok x ok s σ fps Z Y R _ ca b cb ha hb v σ' e Q E k
    · exact prim_eqL hu x ok s σ fps Z Y R a ca b cb ha hb v σ' e Q E k
  | NotEq =>
    unfold pCmpA at e
    dsimp only at e
    split at e
    · exact prim_cmp ne_ok x ok s σ fps Z Y R _ ca b cb ha hb v σ' e Q E k
    · exact prim_neL hu x ok s σ fps Z Y R a ca b cb ha hb v σ' e Q E k
  | In => exact prim_in x ok s σ fps Z Y R a ca b cb ha hb v σ' e Q E k
  | NotIn => exact prim_notIn x ok s σ fps Z Y R a ca b cb ha hb v σ' e Q E k
  | Is => exact prim_is x ok s σ fps Z Y R a ca b cb ha hb v σ' e Q E k
  | IsNot => exact prim_isNot x ok s σ fps Z Y R a ca b cb ha hb v σ' e Q E k
  | _ => cases e
theorem se_cmpA {op : CmpOp} {l r : Expr} {pos : Pos} {f g : AM AV} (hl : SE W c l f) (hr : SE W c r g) (hu : 64 ≤ c.u) (hm : behindInMarks op r = false) : SE W c (.Compare l [op] [r] pos) (bnd f fun a => bnd g fun b => pCmpA op a b) := se_cmp hl hr (prim_cmpA hu) hm
theorem st_cmpA {op : CmpOp} {l r : Expr} {pos : Pos} {f g : AM AV} (hl : SE W c l f) (hr : SE W c r g) (hu : 64 ≤ c.u) (hm : behindInMarks op r = false) : ST W c (.Compare l [op] [r] pos) (bnd f fun a => bnd g fun b => bnd (pCmpA op a b) pBool) := st_cmp hl hr (prim_cmpA hu) hm
end
end Mine

end
section
open PySem PySem.W PySem.Calls PyProof.Rows
set_option Elab.async false
namespace Mine
section
variable {W : Wd} {c : Cx}
/-! tuples unpacked -/
noncomputable def TR (ρ : Nat → Option Addr) (Z : FP) (l : List AV) (v : Value) : Prop := ∃ a cvs n, v = .ref a ∧ (a, tupOf (List.toArray cvs) n) ∈ Z ∧ All2 (VR ρ Z) l cvs
noncomputable def SU (W : Wd) (c : Cx) (e : Expr) (f : AM (List AV)) : Prop := Says TR W c (fun x => eval e x.env) f
noncomputable def small {α : Type} (l : List α) : AM (List α) := fun σ => if l.length < 1000 then some (l, σ) else none
theorem su_disp {elts : List Expr} {kk : Nat} {pos : Pos} {f : AM (List AV)} (h : SA W c pos elts f) : SU W c (.Tuple elts kk pos) (bnd f small) := by
  intro x ok s σ fps Z Y R v σ' e Q E k
  refine Tuple_ (h.bind ok R e fun a σ₁ h₁ tk₁ fps₁ Z₁ Y₁ ca _ e₁ R₁ X₁ p₁ => ?_)
  unfold small at e₁
  split at e₁
  · rename_i hl
    cases e₁
    have hlen := All2.length p₁
    obtain ⟨R', X⟩ := R₁.freeze (o := tupOf (List.toArray ca) 0) rfl
    exact wpAny_newObj_type (k _ _ _ _ _ _ R' (X₁.trans X) ⟨_, ca, 0, rfl, .head _, All2.mono (fun _ _ y => VR.ext X y) p₁⟩) (by show (List.toArray ca).size ≤ sizeLine; rw [List.size_toArray]; have := sizeLine_eq; omega)
  · cases e₁
noncomputable def pItems (a : AV) : AM (List AV) := match a with
  | .tup l => ok (l.map .int)
  | .pr k i => ok [.ref k, .int i]
  | _ => no
theorem su_val {e : Expr} {f : AM AV} (h : SE W c e f) : SU W c e (bnd f pItems) := by
  intro x ok s σ fps Z Y R v σ' e Q E k
  refine h.bind ok R e fun a σ₁ h₁ tk₁ fps₁ Z₁ Y₁ ca _ e₁ R₁ X₁ p₁ => ?_
  unfold pItems at e₁
  split at e₁
  · cases e₁
    obtain ⟨ad, vs, n, rfl, hm, hi⟩ := p₁
    exact k _ _ _ _ _ _ R₁ X₁ ⟨ad, vs, n, rfl, hm, map_all2 hi⟩
  · cases e₁
    obtain ⟨ad, n, b, t, rfl, hm, hr⟩ := p₁
    exact k _ _ _ _ _ _ R₁ X₁ ⟨ad, _, n, rfl, hm, .cons ⟨b, hr, rfl⟩ (.cons ⟨t, rfl⟩ .nil)⟩
  · cases e₁

noncomputable def storeL : List Nat → List AV → AM Unit
  | i :: is, v :: vs => bnd (pStore i v) fun _ => storeL is vs
  | [], [] => ok ()
  | _, _ => no
theorem storeL_len : ∀ {is : List Nat} {vs : List AV} {σ σ' : AS}, storeL is vs σ = some ((), σ') → is.length = vs.length
  | [], [], _, _, _ => rfl
  | [], _ :: _, _, _, e => by cases e
  | _ :: _, [], _, _, e => by cases e
  | i :: is, v :: vs, σ, σ', e => by
    obtain ⟨_, σ₁, _, e₂⟩ := bnd_some e
    rw [List.length_cons, List.length_cons, storeL_len e₂]
noncomputable abbrev StOk (W : Wd) (c : Cx) (t : Env → Value → Sem Unit) (i : Nat) : Prop := Prim1 UR W c (fun x v => t x.env v) (pStore i)
/-- stores, one after the other -/
theorem store_all {x : Fx} (ok : FxOk W c x) {E : Value → Shared → Prop} {ts : List (Env → Value → Sem Unit)} {is : List Nat} (hts : All2 (StOk W c) ts is) : ∀ {vs : List AV} {cvs : List Value} {s : Shared} {σ σ' : AS} {fps : List FP} {Z Y : FP},
    Rel W c x s.heap σ fps Z Y → All2 (VR (rho fps) Z) vs cvs → storeL is vs σ = some ((), σ') → ∀ {Q : Unit → Shared → Prop}, Then UR W c x fps Z s () σ' Q → wpAny (model W.prog W.w) x.A (assignInOrder (ts.map fun t => t x.env) cvs) Q E s := by
  induction hts with
  | nil =>
    intro vs cvs s σ σ' fps Z Y R hv e Q k
    cases vs with
    | nil => cases e; exact wpAny_pure (k.here (cv := ()) R trivial)
    | cons v vs => cases e
  | cons ht _ ih =>
    intro vs cvs s σ σ' fps Z Y R hv e Q k
    cases vs with
    | nil => cases e
    | cons v vs =>
      cases hv with
      | cons h1 h2 =>
        obtain ⟨_, σ₁, e₁, e₂⟩ := bnd_some e
        refine wpAny_bind (wpAny_holding (ht x ok s σ fps Z Y R v _ h1 _ σ₁ e₁ _ E fun h₁ tk₁ fps₁ Z₁ Y₁ _ R₁ X₁ _ => ?_))
        exact ih (s := { s with heap := h₁, toks := tk₁ }) R₁ (All2.mono (fun _ _ y => VR.ext X₁ y) h2) e₂ (k.ext X₁ h₁ tk₁)
theorem unpack_ok {x : Fx} (ok : FxOk W c x) (hl : c.loops = true) {s : Shared} {σ : AS} {fps : List FP} {Z Y : FP} (R : Rel W c x s.heap σ fps Z Y) {l : List AV} {v : Value} (ht : TR (rho fps) Z l v) {n : Nat} (hn : n = l.length) {Q : List Value → Shared → Prop} {E : Value → Shared → Prop}
    (k : ∀ h' cvs, Rel W c x h' σ fps Z Y → All2 (VR (rho fps) Z) l cvs → Q cvs { s with heap := h' }) : wpAny (model W.prog W.w) x.A (unpackItems v n none) Q E s := by
  obtain ⟨a, cvs, m, rfl, hm, hv⟩ := ht
  have hlen := hv.length
  have e : n = (List.toArray cvs).size := by rw [List.size_toArray]; omega
  subst e
  refine wpAny_unpackItems_tuple (ok.hh hl) ⟨_, (R.frozen hm).1, rfl, m, rfl⟩ fun h' he => ?_
  exact k h' cvs (R.grow fun b o e => he b o (Nat.ne_of_lt (Heap.lt_size e)) e) hv

theorem sx_tupSwap {elts : List Expr} {kk : Nat} {tpos pos : Pos} {value : Expr} {f : AM (List AV)} {names : List Str} {is : List Nat} (hf : SU W c value f) (hl : c.loops = true)
    (hs : ∀ env, swapsWithSole [.Tuple elts kk tpos] value pos.line env = pure false) (hw : ∀ env, env.scope = c.sc → swappedStores [.Tuple elts kk tpos] value env = pure (some names))
    (hst : All2 (StOk W c) (names.reverse.map fun n env v => bindName env n v) is) :
    SX W c (.Assign [.Tuple elts kk tpos] value pos) (bnd f fun l => bnd (storeL is l.reverse) fun _ => ok .next) := by
  intro x ok s σ fps Z Y R v σ' e Q E k
  refine Assign_Tuple_swapped (names := names) (hf.bind ok R e fun l σ₁ h₁ tk₁ fps₁ Z₁ Y₁ ca _ e₁ R₁ X₁ p₁ => ?_) (hs _) (hw _ ok.sc)
  obtain ⟨_, σ₂, e₂, e₃⟩ := bnd_some e₁
  cases e₃
  have hlen := storeL_len e₂
  have hlen2 := hst.length
  rw [List.length_map, List.length_reverse] at hlen2
  rw [List.length_reverse] at hlen
  refine unpack_ok (s := { s with heap := h₁, toks := tk₁ }) ok hl R₁ p₁ (by omega) fun h₂ cvs R₂ hv => ?_
  have rev : All2 (VR (rho fps₁) Z₁) l.reverse cvs.reverse := by
    have go : ∀ {l : List AV} {cvs : List Value} {l' : List AV} {cvs' : List Value}, All2 (VR (rho fps₁) Z₁) l cvs → All2 (VR (rho fps₁) Z₁) l' cvs' → All2 (VR (rho fps₁) Z₁) (l.reverse ++ l') (cvs.reverse ++ cvs') := by
      intro l cvs l' cvs' h
      induction h generalizing l' cvs' with
      | nil => intro h'; exact h'
      | cons x _ ih => intro h'; simpa using ih (.cons x h')
    simpa using go hv .nil
  have z := store_all (s := { s with heap := h₂, toks := tk₁ }) ok (E := E) hst R₂ rev e₂ (Q := fun _ => Q .next) fun h₃ tk₃ fps₃ Z₃ Y₃ _ R₃ X₃ _ => k h₃ tk₃ fps₃ Z₃ Y₃ _ R₃ (X₁.trans X₃) rfl
  rw [List.map_map] at z
  exact z
theorem bind_of {nm : Str} {i : Nat} (h : Prim1 UR W c (fun x v => storeName x.env nm v) (pStore i)) : StOk W c (fun env v => bindName env nm v) i :=
  fun x ok s σ fps Z Y R a ca ha v σ' e Q E k => wpAny_bindName (h x ok s σ fps Z Y R a ca ha v σ' e Q E k)
theorem assign_of {nm : Str} {p : Pos} {i : Nat} (h : Prim1 UR W c (fun x v => storeName x.env nm v) (pStore i)) : StOk W c (fun env v => assign (.Name nm p) env v) i :=
  fun x ok s σ fps Z Y R a ca ha v σ' e Q E k => wpAny_assign_Name (h x ok s σ fps Z Y R a ca ha v σ' e Q E k)

theorem sx_tupPlain {elts : List Expr} {kk : Nat} {tpos pos : Pos} {value : Expr} {f : AM (List AV)} {ts : List (Env → Value → Sem Unit)} {is : List Nat} (hf : SU W c value f) (hl : c.loops = true)
    (hs : ∀ env, swapsWithSole [.Tuple elts kk tpos] value pos.line env = pure false) (hw : ∀ env, env.scope = c.sc → swappedStores [.Tuple elts kk tpos] value env = pure none)
    (ha : ∀ env, assignEach elts env = ts.map fun t => (false, t env)) (hst : All2 (StOk W c) ts is) :
    SX W c (.Assign [.Tuple elts kk tpos] value pos) (bnd f fun l => bnd (storeL is l) fun _ => ok .next) := by
  intro x ok s σ fps Z Y R v σ' e Q E k
  refine Assign_Tuple (hf.bind ok R e fun l σ₁ h₁ tk₁ fps₁ Z₁ Y₁ ca _ e₁ R₁ X₁ p₁ => ?_) (hs _) (hw _ ok.sc)
  obtain ⟨_, σ₂, e₂, e₃⟩ := bnd_some e₁
  cases e₃
  have hlen := storeL_len e₂
  have hlen2 := hst.length
  show wpAny _ _ (do standAt tpos; unpack ca (assignEach elts x.env)) _ _ _
  refine wpAny_bind (wpAny_standAt ?_)
  rw [ha]
  unfold unpack
  have e1 : ((ts.map fun t => (false, t x.env)).findIdx? (·.1)) = none := by
    rw [List.findIdx?_eq_none_iff]
    intro p hp
    obtain ⟨t, _, rfl⟩ := List.mem_map.mp hp
    rfl
  have e2 : ((ts.map fun t => (false, t x.env)).map (·.2)) = ts.map fun t => t x.env := by rw [List.map_map]; rfl
  rw [e1, e2, List.length_map]
  refine wpAny_bind (wpAny_holding (unpack_ok (s := { s with heap := h₁, toks := tk₁ }) ok hl R₁ p₁ (by omega) fun h₂ cvs R₂ hv => ?_))
  exact store_all (s := { s with heap := h₂, toks := tk₁ }) ok hst R₂ hv e₂ (Q := fun _ => Q .next) fun h₃ tk₃ fps₃ Z₃ Y₃ _ R₃ X₃ _ => k h₃ tk₃ fps₃ Z₃ Y₃ _ R₃ (X₁.trans X₃) rfl
/-- a pair to hand back -/
noncomputable def pPair (l : List AV) : AM AV := fun σ => match l with
  | [.ref k, .int i] => some (.pr k i, σ)
  | _ => none
theorem prim_pair : PrimN VR W c (fun _ vs => newTuple vs) pPair := by
  intro x _ s σ fps Z Y R a ca ha v σ' e Q E k
  unfold pPair at e
  split at e
  · cases e
    cases ha with
    | cons h1 h2 => cases h2 with
      | cons h3 h4 => cases h4 with
        | nil =>
          obtain ⟨ad, hr, rfl⟩ := h1
          obtain ⟨t, rfl⟩ := h3
          obtain ⟨R', X⟩ := R.freeze (o := tupOf (List.toArray [.ref ad, .int _ t]) 0) rfl
          exact wpAny_newObj_type (k _ _ _ _ _ _ R' X ⟨_, 0, ad, t, rfl, .head _, hr⟩) (by show (2 : Nat) ≤ sizeLine; decide)
  · cases e
end
end Mine

end
section
open PySem PySem.W PySem.Calls PyProof.Rows
set_option Elab.async false
namespace Mine
section
variable {W : Wd} {c : Cx}

/-! slices of frozen lists -/
noncomputable def pUpTo (scr : Option (Nat × List Int)) (a b : AV) : AM AV := fun σ => match a, b with
  | .scr ad l, .int i => if 0 ≤ i ∧ l.length < 1000 ∧ scr = some (ad, l) then some (.li (l.take i.toNat), σ) else none
  | _, _ => none
noncomputable def pFrom (a b : AV) : AM AV := fun σ => match a, b with
  | .li l, .int i => if 0 ≤ i ∧ l.length < 1000 then some (.li (l.drop i.toNat), σ) else none
  | _, _ => none
theorem se_upTo {value e : Expr} {p pos : Pos} {f g : AM AV} (hf : SE W c value f) (hg : SE W c e g) (ht : ∀ o r, letTemporaryGo value o r = pure ()) :
    SE W c (.Subscript value (.Slice none (some e) none p) pos) (bnd f fun a => bnd g fun b => pUpTo c.scr a b) := by
  intro x ok s σ fps Z Y R v σ' e Q E k
  refine wpAny_Subscript_Slice slot_list_getitem.lookup (hf.bind ok R e fun a σ₁ h₁ tk₁ fps₁ Z₁ Y₁ ca _ e₁ R₁ X₁ p₁ => ?_) ht
  refine wpAny_Slice (wpAny_pure ?_)
  refine hg.bind (s := { s with heap := h₁, toks := tk₁ }) ok R₁ e₁ fun b σ₂ h₂ tk₂ fps₂ Z₂ Y₂ cb _ e₂ R₂ X₂ p₂ => ?_
  refine wpAny_pure ?_
  unfold pUpTo at e₂
  split at e₂
  · rename_i ad l i _ _
    split at e₂
    · rename_i hi
      cases e₂
      obtain ⟨t, rfl⟩ := p₂
      cases p₁
      obtain ⟨vs, hL0, hI⟩ := ok.scr ad l hi.2.2
      have hL : h₂.IsList ad (List.toArray vs) := by
        obtain ⟨o, q1, q2⟩ := hL0
        exact ⟨o, R₂.keep _ _ q1, q2⟩
      have hlen := hI.length
      refine ⟨(hL.push _).typeIs, wpAny_getItem_list_slice (hL.push _) (Heap.IsSliceOf.new ..) .none (.int _ t) .none (by simp) ?_ (by rw [List.size_toArray]; have := sizeLine_eq; omega)⟩
      have R3 := R₂.grow (h' := h₂.push { cls := .type "slice", data := .fields #[.none, .int i t, .none] }) fun b o e => Heap.get?_push_of_some _ e
      obtain ⟨R', X⟩ := R3.freeze (o := { cls := .type "list", data := .seq (slicePick vs.toArray none (some i) none) }) rfl
      exact k _ _ _ _ _ _ R' ((X₁.trans X₂).trans X) ⟨_, (slicePick vs.toArray none (some i) none).toList, 0, rfl, .head _, slice_ints_uptoW hI hi.1⟩
    · cases e₂
  · cases e₂
/-! frozen lists joined -/
noncomputable def pCat (a b : AV) : AM AV := fun σ => match a, b with
  | .li l, .li k => if l.length + k.length < 1000 then some (.li (l ++ k), σ) else none
  | _, _ => none
theorem prim_cat : Prim2 VR W c (fun _ a b => binaryOp .Add a b) pCat := by
  intro x ok s σ fps Z Y R a ca b cb ha hb v σ' e Q E k
  unfold pCat at e
  split at e
  · rename_i l m
    split at e
    · rename_i hlt
      cases e
      obtain ⟨a1, vs, n, rfl, hm, hI⟩ := ha
      obtain ⟨b1, ws, n', rfl, hm', hI'⟩ := hb
      have l1 := hI.length
      have l2 := hI'.length
      refine PySem.P.add_list (items := vs.toArray) (items2 := ws.toArray) (R.frozen hm).1 (R.frozen hm').1 ?_ (by simp only [List.size_toArray]; have := sizeLine_eq; omega)
      obtain ⟨R', X⟩ := R.freeze (o := { cls := .type "list", data := .seq (vs.toArray ++ ws.toArray) }) rfl
      refine k _ _ _ _ _ _ R' X ⟨_, vs ++ ws, 0, rfl, ?_, hI.append hI'⟩
      have : vs.toArray ++ ws.toArray = (vs ++ ws).toArray := by simp
      rw [this]; exact .head _
    · cases e
  · cases e

/-! the last item -/
noncomputable def pLast (a : AV) : AM AV := fun σ => match a with
  | .ref k => match σ.hp[k]? with
    | some (.list l) => match l.getLast? with
      | some v => if l.length < 1000 then some (v, σ) else none
      | none => none
    | _ => none
  | _ => none
theorem se_last {value : Expr} {pos : Pos} {slice : Expr} {f : AM AV} (hf : SE W c value f) (hg : SE W c slice (ok (.int (-1)))) (hs : ∀ a i t, subscripted slice false (.ref a) (.int i t) = operate [.ref a, .int i t] (getItem (.ref a) (.int i t))) :
    SE W c (.Subscript value slice pos) (bnd f pLast) := by
  intro x ok s σ fps Z Y R v σ' e Q E k
  refine Subscript_ (hf.bind ok R e fun a σ₁ h₁ tk₁ fps₁ Z₁ Y₁ ca _ e₁ R₁ X₁ p₁ => ?_)
  refine hg x ok { s with heap := h₁, toks := tk₁ } σ₁ fps₁ Z₁ Y₁ R₁ _ σ₁ rfl _ _ fun h₂ tk₂ fps₂ Z₂ Y₂ cb R₂ X₂ p₂ => ?_
  obtain ⟨t, rfl⟩ := p₂
  unfold pLast at e₁
  split at e₁
  · split at e₁
    · rename_i l hl
      split at e₁
      · rename_i u hu
        split at e₁
        · rename_i hlt
          cases e₁
          obtain ⟨ad, hr, rfl⟩ := VR.ext X₂ p₁
          obtain ⟨a', vs, n, hr', hf', hvs, ho, hL⟩ := R₂.lst hl
          rw [hr] at hr'; cases hr'
          have hlen := hvs.length
          obtain ⟨cv, hcv, hw⟩ := all2_last hvs hu
          have hne : vs.length ≠ 0 := by intro z; rw [hcv] at z; simp at z
          refine tail_any (s := { s with heap := h₂, toks := tk₂ }) hL.typeIs slot_list_getitem.lookup (wpAny_getItem_list_neg (x := cv) hL (by omega) (by rw [List.size_toArray]; omega) (by omega) ?_ (k h₂ tk₂ fps₂ Z₂ Y₂ _ R₂ (X₁.trans X₂) hw)) (hs _ _ _)
          have e1 : ((-1 : Int) + (vs.toArray.size : Int)).toNat = vs.length - 1 := by rw [List.size_toArray]; omega
          rw [e1]
          have e2 : vs.length - 1 = vs.dropLast.length := by simp
          rw [List.getElem?_toArray, e2, hcv]
          simp
        · cases e₁
      · cases e₁
    · cases e₁
  · cases e₁

/-! an item deleted -/
noncomputable def pDel (a b : AV) : AM Unit := fun σ => match a, b with
  | .ref k, .int i => match σ.hp[k]? with
    | some (.dict _ d) => if d.length < 1000 ∧ (dget d i).isSome then some ((), { σ with hp := σ.hp.set k (.dict false (ddel d i)) }) else none
    | _ => none
  | _, _ => none
theorem sx_del {o i : Expr} {p pos : Pos} {f g : AM AV} (hf : SE W c o f) (hg : SE W c i g) :
    SX W c (.Delete [.Subscript o i p] pos) (bnd f fun a => bnd g fun b => bnd (pDel a b) fun _ => ok .next) := by
  intro x ok s σ fps Z Y R v σ' e Q E k
  refine wpAny_Delete (wpAny_deleteEach_cons (wpAny_delete_Subscript (hf.bind ok R e fun a σ₁ h₁ tk₁ fps₁ Z₁ Y₁ ca _ e₁ R₁ X₁ p₁ => ?_)))
  refine hg.bind (s := { s with heap := h₁, toks := tk₁ }) ok R₁ e₁ fun b σ₂ h₂ tk₂ fps₂ Z₂ Y₂ cb _ e₂ R₂ X₂ p₂ => ?_
  obtain ⟨_, σ₃, e₃, e₄⟩ := bnd_some e₂
  cases e₄
  unfold pDel at e₃
  split at e₃
  · rename_i m i _ _
    split at e₃
    · rename_i lk d hd
      split at e₃
      · rename_i hl
        cases e₃
        obtain ⟨ad, hr, rfl⟩ := VR.ext X₂ p₁
        obtain ⟨t, rfl⟩ := p₂
        obtain ⟨a', od, kvs, ep, hr', hf', hs0, he, hvs, ho, hD⟩ := R₂.dic hd
        rw [hr] at hr'; cases hr'
        have hlen := hvs.length
        have hDD := hD.dictOf
        unfold delItem
        try with_reducible refine wpAny_holding ?_
        refine wpAny_bind (wpAny_sequenceKey (s := { s with heap := h₂, toks := tk₂ }) hDD.typeIs (by decide) ?_)
        refine wpAny_bind (wpAny_callSpecial?_slot (name := Str.ofString "__delitem__") hDD.typeIs PySem.F.slot_dict_delitem
          (call_meetsIn PySem.F.slot_dict_delitem hDD.typeIs PySem.F.entry_dict_delitem (PySem.F.args_dict_delitem_2 _ _) (meets_dict_delitem_pairs (intKind W.prog W.w) ad (intKind_is W.prog W.w i t)) ⟨kvs, hDD, (by have := sizeLine_eq; omega), ?_, fun h' hmm hs' => ?_⟩))
        · obtain ⟨u, hu⟩ := Option.isSome_iff_exists.mp hl.2
          obtain ⟨cu, hc, _⟩ := dget_some hvs hu
          rw [hc]; rfl
        · obtain ⟨o', ep', ho', hd'⟩ := DObj.of hmm
          have R' := R₂.setObj (pre := []) (post := []) hf' hs' ho' (A := .dict false (ddel d i)) ⟨_, o', _, ep', rfl, hs0, hd', (fun z => by cases z), ddel_all hvs⟩
          exact wpAny_pure (wpAny_deleteEach_nil (k _ _ _ _ _ _ R' ((X₁.trans X₂).trans (ext_of_rho (rho_set hf' rfl))) rfl))
      · cases e₃
    · cases e₃
  · cases e₃

/-! an empty dict -/
noncomputable def pDict0 : AM AV := fun σ => some (.ref σ.hp.length, { σ with hp := σ.hp ++ [.dict false []] })
theorem se_dict0 {pos : Pos} (hbig : ∀ x, FxOk W c x → sysModules < x.h₀.objs.size) : SE W c (.Dict [] [] pos) pDict0 := by
  intro x ok s σ fps Z Y R v σ' e Q E k
  cases e
  obtain ⟨m, F, q⟩ := R.fr
  refine wpAny_Dict_empty ?_
  obtain ⟨o, ep, ho, hd⟩ := DObj.of (W := W) (Heap.DictOf.new (knd := intKind W.prog W.w) s.heap)
  rw [Heap.get?_push_size _ rfl] at ho
  cases ho
  obtain ⟨R', X, hr⟩ := R.alloc (o := { cls := .type "dict", data := .dict #[] }) rfl (A := .dict false []) ⟨_, _, [], ep, rfl, F.notModules (hbig x ok), hd, (fun z => by cases z), .nil⟩
  exact k _ _ _ _ _ _ R' X ⟨_, hr, rfl⟩

/-! sum -/
noncomputable def pSum : List AV → AM AV := fun vs σ => match vs with
  | [.li l] => if l.length < 1000 ∧ l.all (fun i => decide (0 ≤ i) && decide (i < 1000000)) = true then some (.int l.sum, σ) else none
  | _ => none
theorem sum_bound : ∀ {l : List Int}, (∀ i ∈ l, 0 ≤ i ∧ i < 1000000) → 0 ≤ l.sum ∧ l.sum ≤ l.length * 1000000
  | [], _ => by simp
  | a :: l, h => by
    have := sum_bound (l := l) fun i hi => h i (.tail _ hi)
    have := h a (.head _)
    simp only [List.sum_cons, List.length_cons]
    omega
theorem prim_sum (hl : c.loops = true) : PrimN VR W c (fun _ vs => call (.builtin "sum") vs) pSum := by
  intro x ok s σ fps Z Y R a ca ha v σ' e Q E k
  unfold pSum at e
  split at e
  · rename_i l
    cases ha with
    | cons h1 h2 => cases h2 with
      | nil =>
        split at e
        · rename_i hb
          cases e
          obtain ⟨a1, vs, n, rfl, hm, hI⟩ := h1
          have hlen := hI.length
          have hall : ∀ i ∈ l, 0 ≤ i ∧ i < 1000000 := by
            have := List.all_eq_true.mp hb.2
            intro i hi
            simpa using this i hi
          have hL : s.heap.IsList a1 vs.toArray := ⟨_, (R.frozen hm).1, rfl, n, rfl⟩
          have hA : AllInts vs.toArray := hI.allInts
          have hN : numsOf vs.toArray.toList = l := by rw [show vs.toArray.toList = vs from rfl, hI.numsOf]
          obtain ⟨xs, hxs⟩ := hA.items
          rw [hxs] at hL hN
          rw [nums_intItems] at hN
          have hfit : PySem.SumFits l := by
            intro j hj
            have b1 := hall (l.getD j 0) (by rw [getD_at hj]; exact List.getElem_mem hj)
            have b2 := sum_bound (l := l.take (j + 1)) fun i hi => hall i (List.mem_of_mem_take hi)
            have b3 : (l.take (j + 1)).length ≤ 1000 := by rw [List.length_take]; omega
            unfold InLong
            omega
          rw [← hN] at hfit k
          refine sum_intList (ok.hh hl) hL (fun j hj => ?_) fun h' tk t' hk => ?_
          · rw [numAt_eq, preSum_eq]; exact hfit j (by simpa using hj)
          · rw [preSum_eq, List.take_of_length_le (by simp)]
            exact k h' tk _ _ _ _ (R.grow hk) Ext.refl ⟨t', rfl⟩
        · cases e
  · cases e

/-! bool of a list -/
theorem meets_bool_list (a : Addr) (its : Array Value) (hsz : its.size < 2 ^ 63) : Meets (Builtin.«bool.__new__» ⟨[.type "bool", .ref a], []⟩) (fun _ R s => s.heap.IsList a its ∧ R (.ok (.ret (.bool (!its.isEmpty)))) { s with toks := s.toks + 1 + 1 }) :=
  Meets.of_wp fun prog w A R s hs => by
    obtain ⟨hp, g, d, tk, os⟩ := s
    have f1 := PySem.F.conv_sub_bool
    obtain ⟨hL, hs⟩ := hs
    repeat (any_goals (first | assumption | (with_reducible refine wpAny_truthy_list hL (by omega) ?_) | wp_step))
    all_goals first | exact ⟨_, rfl, hs⟩ | exact hs | skip
end
end Mine

end
section
open PySem PySem.W PySem.Calls PyProof.Rows
set_option Elab.async false
namespace Mine
section
variable {W : Wd} {c : Cx}

noncomputable def pBoolC : List AV → AM AV := fun vs σ => match vs with
  | [.ref k] => match σ.hp[k]? with
    | some (.list l) => if l.length < 1000 then some (.bool (decide (l ≠ [])), σ) else none
    | _ => none
  | _ => none
theorem prim_bool : PrimN VR W c (fun _ vs => call (.type "bool") vs) pBoolC := by
  intro x ok s σ fps Z Y R a ca ha v σ' e Q E k
  unfold pBoolC at e
  split at e
  · cases ha with
    | cons h1 h2 => cases h2 with
      | nil =>
        obtain ⟨ad, hr, rfl⟩ := h1
        split at e
        · rename_i l hl
          split at e
          · rename_i hlt
            cases e
            obtain ⟨a', vs, n, hr', hf, hvs, ho, hL⟩ := R.lst hl
            rw [hr] at hr'; cases hr'
            have hlen := hvs.length
            refine call_bool_1 (meets_bool_list ad vs.toArray (by rw [List.size_toArray]; omega)) ⟨hL, ?_⟩
            have : (!(List.toArray vs).isEmpty) = decide (l ≠ []) := by cases hvs <;> simp
            rw [this]
            exact ⟨rfl, k.same R rfl _⟩
          · cases e
        · cases e
  · cases e

theorem si_values {o : Expr} {apos pos : Pos} {f : AM AV} (ho : SE W c o f)
    (he : ∀ env, ∃ pl, eval (.Call (.Attribute o "values" apos) [] [] pos) env = (do
      let ov ← eval o env
      standAt apos.atName
      let (f, first) ← holding [ov] (getMethod ov "values" pl)
      callWith pos f first (backTo pos (starEach [] env)) [])) :
    SI W c (.Call (.Attribute o "values" apos) [] [] pos) (bnd f pVals) := by
  intro x ok s σ fps Z Y R src σ' e Q E k
  obtain ⟨pl, hev⟩ := he x.env
  refine MethodCall_ (pl := pl) (ho.bind ok R e fun a σ₁ h₁ tk₁ fps₁ Z₁ Y₁ ca _ e₁ R₁ X₁ p₁ => ?_) hev
  unfold pVals at e₁
  split at e₁
  · split at e₁
    · rename_i lk d hl
      split at e₁
      · rename_i hf
        cases e₁
        obtain ⟨ad, hr, rfl⟩ := p₁
        obtain ⟨a', od, kvs', ep', hr2, _, _, _, _, hob, hD2⟩ := R₁.dic hl
        obtain ⟨a', kvs, ep, hr', hs0, hlen, hD, R'⟩ := R₁.lock hl hf
        rw [hr] at hr' hr2; cases hr'; cases hr2
        obtain ⟨o', es, ho', hx, _⟩ := hD2
        rw [hob] at ho'; cases ho'
        refine getMethod_builtin (s := { s with heap := h₁, toks := tk₁ }) hD.dictOf.typeIs PySem.F.plainAttrs_dict PySem.F.slot_dict_values PySem.F.type_dict_values (fun b hb => by cases hb; exact ⟨od, hob, hx.2.1⟩) ?_
        refine callWith_builtin rfl (evalArgs_of rfl (args_nil ?_))
        refine call_meetsIn PySem.F.slot_dict_values (s := { s with heap := h₁, toks := tk₁ }) hD.dictOf.typeIs PySem.F.entry_dict_values (PySem.F.args_dict_values_1 _) (meets_dict_values (intKind W.prog W.w) ad hs0) ⟨⟨kvs, hD.dictOf⟩, ?_⟩
        refine wpAny_pyIter_values (d := ad) (kvs := kvs) (ep := ep) (knd := intKind W.prog W.w) ⟨_, Heap.get?_push_size _ rfl, rfl, rfl⟩ ?_ ?_
        · obtain ⟨o1, es1, q1, q2⟩ := hD
          exact ⟨o1, es1, Heap.get?_push_of_some _ q1, q2⟩
        · have R2 := R'.grow (h' := h₁.push { cls := .type "dict_values", data := .fields #[.ref ad] }) fun b o e => Heap.get?_push_of_some _ e
          exact k _ _ fps₁ Z₁ Y₁ _ _ ep (R2.aside rfl) X₁ ⟨ad, hr, rfl, by rw [hlen]; rfl⟩
      · cases e₁
    · cases e₁
  · cases e₁
end
end Mine

end
section
open PySem PySem.W PySem.Calls PyProof.Rows
set_option Elab.async false
set_option maxRecDepth 100000
namespace Mine

/-! min over a list of tuples: the comparison may look at the heap -/
section
variable {prog : Program} {w : World} {A : Around} {R : Result → Shared → Prop} {I : Addr} {fp wr : List Addr} {n : Nat} {P : Nat → Value → Prop} {St : Nat → Heap → Prop}
noncomputable def CmpAt (prog : Program) (w : World) (A : Around) (P : Nat → Value → Prop) (St : Nat → Heap → Prop) (bt : Nat → Nat → Bool) : Prop :=
  ∀ i j k vi vj (s : Shared) (Q : Value → Shared → Prop) (E : Value → Shared → Prop), St k s.heap → P i vi → P j vj → Q (.bool (bt i j)) s → wpAny (model prog w) A (richCompare .Lt vi vj) Q E s

theorem min_loop (W : Walks prog w A.in1 I fp wr n P St) (bt : Nat → Nat → Bool) (hcmp : CmpAt prog w A.in1 P St bt) (S : Addr) (hSf : S ∉ fp) :
    ∀ (k j : Nat) (s : Shared) (vb : Value) (c : Nat), n - (j + 1) = k → j + 1 ≤ n → St (j + 1) s.heap → P (argBest bt j) vb →
    s.heap.get? S = some { cls := .type "list", dict := none, data := .seq #[vb, vb] c, slots := #[] } →
    (∀ v h' tk, P (argBest bt (n - 1)) v → (∀ b o, b ∉ wr → b ≠ S → s.heap.get? b = some o → h'.get? b = some o) → R (.ok (.ret v)) { s with heap := h', toks := tk }) →
    codeAny (model prog w) A (.builtin "min.loop" ⟨[.ref I, .none, .ref S], []⟩) R s := by
  have hSw : S ∉ wr := fun h => hSf (W.sub _ h)
  have hname : (toString "min" ++ toString ".loop" : String) = "min.loop" := by decide
  intro k
  induction k with
  | zero =>
    intro j s vb c hk hj hst hPb hS hR
    have hin : j + 1 = n := by omega
    refine codeAny_builtin PySem.F.entry_min_loop ?_
    rw [Around.under_plainId PySem.F.plain_min_loop _]
    show wpAny _ A.in1 (seqItems? (.ref S) >>= _) _ _ s
    refine wpAny_bind (wpAny_seqItems hS rfl ?_)
    show wpAny _ A.in1 (tryCatch (pyNext (.ref I)) _ >>= _) _ _ s
    refine wpAny_bind (wpAny_tryCatch (W.done s _ _ (hin ▸ hst) fun h' tk hk' => ?_))
    have hS' := hk' S _ hSw hS
    show wpAny _ A.in1 (updateSeq S (fun _ => #[]) >>= _) _ _ _
    refine wpAny_bind ?_
    refine wpAny_updateSeq hS' rfl (wpAny_bind (wpAny_letGo (wpAny_pure ?_)))
    refine hR vb _ tk (by rw [← hin]; exact hPb) fun b o hbw hbS e => (Heap.get?_update_other _ _ (Ne.symm hbS)).trans (hk' b o hbw e)
  | succ k ih =>
    intro j s vb c hk hj hst hPb hS hR
    have hlt : j + 1 < n := by omega
    refine codeAny_builtin PySem.F.entry_min_loop ?_
    rw [Around.under_plainId PySem.F.plain_min_loop _]
    show wpAny _ A.in1 (seqItems? (.ref S) >>= _) _ _ s
    refine wpAny_bind (wpAny_seqItems hS rfl ?_)
    show wpAny _ A.in1 (tryCatch (pyNext (.ref I)) _ >>= _) _ _ s
    refine wpAny_bind (wpAny_tryCatch (W.item (j + 1) s _ _ hlt hst fun v h' tk hP hst' hk' => ?_))
    have hS' := hk' S _ hSw hS
    show wpAny _ A.in1 (tryCatch (holding [v, v] (richCompare .Lt v vb >>= _)) _ >>= _) _ _ _
    refine wpAny_bind (wpAny_tryCatch (wpAny_holding (wpAny_bind (hcmp (j + 1) (argBest bt j) _ v vb _ _ _ hst' hP hPb ?_))))
    refine wpAny_bind (wpAny_holding (wpAny_truthy_bool ?_))
    refine wpAny_bind (wpAny_letGo (wpAny_pure ?_))
    cases hb : bt (j + 1) (argBest bt j) with
    | true =>
      simp only [if_true]
      refine wpAny_bind ?_
      refine wpAny_updateSeq hS' rfl (wpAny_bind (wpAny_letGo ?_))
      rw [hname]
      refine wpAny_pure ⟨plainId_quiet PySem.F.plain_min_loop _, ih (j + 1) _ v _ (by omega) hlt (W.frame _ _ _ hst' fun b hbf o e => ?_) (by simp only [argBest, hb, if_true]; exact hP) (Heap.get?_update_self _ hS' rfl)
        fun v' h'' tk'' hP' hk'' => ?_⟩
      · exact (Heap.get?_update_other _ _ (fun h : S = b => hSf (by rw [h]; exact hbf))).trans e
      · exact hR v' h'' tk'' hP' fun b o hbw hbS e => hk'' b o hbw hbS ((Heap.get?_update_other _ _ (Ne.symm hbS)).trans (hk' b o hbw e))
    | false =>
      simp only [Bool.false_eq_true, if_false]
      refine wpAny_bind (wpAny_letGo ?_)
      rw [hname]
      refine wpAny_pure ⟨plainId_quiet PySem.F.plain_min_loop _, ih (j + 1) _ vb c (by omega) hlt hst' (by simp only [argBest, hb, Bool.false_eq_true, if_false]; exact hPb) hS' fun v' h'' tk'' hP' hk'' => ?_⟩
      exact hR v' h'' tk'' hP' fun b o hbw hbS e => hk'' b o hbw hbS (hk' b o hbw e)

theorem min_loop_first (W : Walks prog w A.in1 I fp wr n P St) (bt : Nat → Nat → Bool) (hcmp : CmpAt prog w A.in1 P St bt) (S : Addr) (hSf : S ∉ fp) (hn : 0 < n) {s : Shared} {c : Nat} (hst : St 0 s.heap)
    (hS : s.heap.get? S = some { cls := .type "list", dict := none, data := .seq #[] c, slots := #[] })
    (hR : ∀ v h' tk, P (argBest bt (n - 1)) v → (∀ b o, b ∉ wr → b ≠ S → s.heap.get? b = some o → h'.get? b = some o) → R (.ok (.ret v)) { s with heap := h', toks := tk }) :
    codeAny (model prog w) A (.builtin "min.loop" ⟨[.ref I, .none, .ref S], []⟩) R s := by
  have hSw : S ∉ wr := fun h => hSf (W.sub _ h)
  have hname : (toString "min" ++ toString ".loop" : String) = "min.loop" := by decide
  refine codeAny_builtin PySem.F.entry_min_loop ?_
  rw [Around.under_plainId PySem.F.plain_min_loop _]
  show wpAny _ A.in1 (seqItems? (.ref S) >>= _) _ _ s
  refine wpAny_bind (wpAny_seqItems hS rfl ?_)
  show wpAny _ A.in1 (tryCatch (pyNext (.ref I)) _ >>= _) _ _ s
  refine wpAny_bind (wpAny_tryCatch (W.item 0 s _ _ hn hst fun v h' tk hP hst' hk' => ?_))
  have hS' := hk' S _ hSw hS
  show wpAny _ A.in1 (updateSeq S (fun _ => #[v, v]) >>= _) _ _ _
  refine wpAny_bind ?_
  refine wpAny_updateSeq hS' rfl ?_
  rw [hname]
  refine wpAny_pure ⟨plainId_quiet PySem.F.plain_min_loop _, min_loop W bt hcmp S hSf _ 0 _ v _ rfl hn (W.frame _ _ _ hst' fun b hbf o e => ?_) hP (Heap.get?_update_self _ hS' rfl) fun v' h'' tk'' hP' hk'' => ?_⟩
  · exact (Heap.get?_update_other _ _ (fun h : S = b => hSf (by rw [h]; exact hbf))).trans e
  · exact hR v' h'' tk'' hP' fun b o hbw hbS e => hk'' b o hbw hbS ((Heap.get?_update_other _ _ (Ne.symm hbS)).trans (hk' b o hbw e))
end

section
variable {prog : Program} {w : World} {A : Around} {E : Value → Shared → Prop} {s : Shared}
theorem min_walk {x : Value} {Q : Value → Shared → Prop}
    (h : wpAny (model prog w) A.in1 (pyIter x) (fun it s₂ => ∃ I fp wr n P St bt, it = .ref I ∧ Walks prog w A.in1 I fp wr n P St ∧ St 0 s₂.heap ∧ (∀ b ∈ fp, b < s₂.heap.objs.size) ∧ 0 < n ∧ CmpAt prog w A.in1 P St bt ∧
      ∀ v h' tk, P (argBest bt (n - 1)) v → (∀ b o, b ∉ wr → s₂.heap.get? b = some o → h'.get? b = some o) → Q v { s₂ with heap := h', toks := tk }) E s) :
    wpAny (model prog w) A (call (.builtin "min") [x]) Q E s := by
  have hname : (toString "min" ++ toString ".loop" : String) = "min.loop" := by decide
  refine call_function_tree PySem.F.kind_min PySem.F.plain_min PySem.F.entry_min (PySem.F.args_min1 _) ?_
  show wpAny _ A.in1 (Builtin.Builtins.bindParams "min" ["key", "default"] 0 ⟨[], []⟩ >>= _) _ _ s
  refine wpAny_bind (wpAny_of_eq (show Builtin.Builtins.bindParams "min" ["key", "default"] 0 ⟨[], []⟩ = pure [none, none] from rfl) ?_)
  refine wpAny_bind (wpAny_pure ?_)
  refine wpAny_bind (wpAny_mono h (fun it s₂ h₂ => ?_) fun _ _ e => e)
  obtain ⟨I, fp, wr, n, P, St, bt, rfl, W, hst, hfp, hn, hcmp, hQ⟩ := h₂
  refine wpAny_bind (wpAny_newObj_type ?_)
  have hSf : s₂.heap.objs.size ∉ fp := fun hm => Nat.lt_irrefl _ (hfp _ hm)
  rw [hname]
  refine wpAny_pure ⟨plainId_quiet PySem.F.plain_min_loop _, min_loop_first W bt hcmp s₂.heap.objs.size hSf hn (W.frame _ _ _ hst fun b _ o e => Heap.get?_push_of_some _ e) (Heap.get?_push_size _ rfl) fun v h' tk hP hk => ?_⟩
  exact hQ v h' tk hP fun b o hbw e => hk b o hbw (Nat.ne_of_lt (Heap.lt_size e)) (Heap.get?_push_of_some _ e)

/-- a walk with facts more that its own writes do not touch -/
theorem walks_with {I : Addr} {fp wr : List Addr} {n : Nat} {P : Nat → Value → Prop} {St : Nat → Heap → Prop} (W : Walks prog w A I fp wr n P St) (fp2 : List Addr) (G : Heap → Prop) (hG : ∀ h h', G h → (∀ b ∈ fp2, ∀ o, h.get? b = some o → h'.get? b = some o) → G h') (hd : ∀ b ∈ fp2, b ∉ wr) :
    Walks prog w A I (fp ++ fp2) wr n P (fun i h => St i h ∧ G h) where
  sub := fun b hb => List.mem_append_left _ (W.sub b hb)
  frame := fun i h h' st hk => ⟨W.frame i h h' st.1 fun b hb => hk b (List.mem_append_left _ hb), hG _ _ st.2 fun b hb => hk b (List.mem_append_right _ hb)⟩
  item := fun i s Q E hi st hQ => W.item i s Q E hi st.1 fun v h' tk hP hst hk => hQ v h' tk hP ⟨hst, hG _ _ st.2 fun b hb o e => hk b o (hd b hb) e⟩ hk
  done := fun s Q E st hQ => W.done s Q E st.1 hQ
  self := fun i s Q E st hQ => W.self i s Q E st.1 hQ
end

section
variable {W : Wd} {c : Cx}
noncomputable def tupsOf : List AV → Option (List (List Int))
  | [] => some []
  | .tup i :: r => match tupsOf r with
    | some l => some (i :: l)
    | none => none
  | _ => none
theorem tupsOf_get : ∀ {a : List AV} {l : List (List Int)}, tupsOf a = some l → ∀ {j : Nat} {v : AV}, a[j]? = some v → ∃ t, l[j]? = some t ∧ v = .tup t
  | [], _, e, j, v, h => by cases h
  | .tup i :: r, l, e, j, v, h => by
    unfold tupsOf at e
    split at e
    · rename_i l' e'
      cases e
      cases j with
      | zero => cases h; exact ⟨i, rfl, rfl⟩
      | succ j => exact tupsOf_get e' (by simpa using h)
    · cases e
  | .none :: _, _, e, _, _, _ => by cases e
  | .bool _ :: _, _, e, _, _, _ => by cases e
  | .int _ :: _, _, e, _, _, _ => by cases e
  | .ref _ :: _, _, e, _, _, _ => by cases e
  | .li _ :: _, _, e, _, _, _ => by cases e
  | .lli _ :: _, _, e, _, _, _ => by cases e
  | .pr _ _ :: _, _, e, _, _, _ => by cases e
/-- the place of the least tuple -/
noncomputable def leastAt (ts : List (List Int)) : Nat := argBest (fun i j => lexLt (ts.getD i []) (ts.getD j [])) (ts.length - 1)
noncomputable def pMinT : List AV → AM AV := fun vs σ => match vs with
  | [.ref k] => match σ.hp[k]? with
    | some (.list l) => match tupsOf l with
      | some ts => if 0 < ts.length ∧ ts.length = l.length then some (.tup (ts.getD (leastAt ts) []), σ) else none
      | none => none
    | _ => none
  | _ => none
theorem prim_minT (hl : c.loops = true) (hu : 64 ≤ c.u) : PrimN VR W c (fun _ vs => call (.builtin "min") vs) pMinT := by
  intro x ok s σ fps Z Y R a ca ha v σ' e Q E k
  unfold pMinT at e
  split at e
  · cases ha with
    | cons h1 h2 => cases h2 with
      | nil =>
        obtain ⟨ad, hr, rfl⟩ := h1
        split at e
        · rename_i l hll
          split at e
          · rename_i ts hts
            split at e
            · rename_i hlen
              cases e
              obtain ⟨a', vs, n, hr', hf, hvs, ho, hL⟩ := R.lst hll
              rw [hr] at hr'; cases hr'
              have hvl := hvs.length
              have key : ∀ (j : Nat) cv, vs.toArray[j]? = some cv → ∃ b us m, cv = .ref b ∧ (b, tupOf (List.toArray us) m) ∈ Z ∧ IntsAre us (ts.getD j []) := by
                intro j cv hj
                obtain ⟨u, hu, hw⟩ := hvs.get' (i := j) (by simpa using hj)
                obtain ⟨t, ht, rfl⟩ := tupsOf_get hts hu
                obtain ⟨b, us, m, q1, q2, q3⟩ := hw
                refine ⟨b, us, m, q1, q2, ?_⟩
                rw [List.getD_eq_getElem?_getD, ht]; exact q3
              refine min_walk (wpAny_pyIter_list hL ?_)
              have hlt : ad < s.heap.objs.size := Heap.lt_size ho
              refine ⟨_, _, _, _, _, _, fun i j => lexLt (ts.getD i []) (ts.getD j []), rfl, walks_with (Walks.list (A := x.A.in1) (ok.hh hl) s.heap.objs.size ad (Nat.ne_of_lt hlt) vs.toArray) (Z.map (·.1)) (fun h => ∀ p ∈ Z, h.get? p.1 = some p.2) ?_ ?_, ?_, ?_, ?_, ?_, ?_⟩
              · intro h h' g hk p hp
                exact hk _ (List.mem_map_of_mem hp) _ (g p hp)
              · intro b hb hb'
                obtain ⟨p, hp, rfl⟩ := List.mem_map.mp hb
                have := Heap.lt_size (R.frozen hp).1
                exact Nat.ne_of_lt this (List.mem_singleton.mp hb')
              · refine ⟨⟨⟨_, Heap.get?_push_size _ rfl, rfl, rfl⟩, hL.push _⟩, fun p hp => Heap.get?_push_of_some _ (R.frozen hp).1⟩
              · intro b hb
                have hs : (s.heap.push ({ cls := .type "list_iterator", data := .fields #[.ref ad, .int 0 0] } : Obj)).objs.size = s.heap.objs.size + 1 := by simp [Heap.push]
                show b < (s.heap.push ({ cls := .type "list_iterator", data := .fields #[.ref ad, .int 0 0] } : Obj)).objs.size
                rw [hs]
                rcases List.mem_append.mp hb with hb | hb
                · rcases List.mem_cons.mp hb with rfl | hb
                  · exact Nat.lt_succ_self _
                  · rw [List.mem_singleton.mp hb]; exact Nat.lt_succ_of_lt hlt
                · obtain ⟨p, hp, rfl⟩ := List.mem_map.mp hb
                  exact Nat.lt_succ_of_lt (Heap.lt_size (R.frozen hp).1)
              · rw [List.size_toArray]; omega
              · intro i j kk vi vj s' Q' E' st hi hj hq
                obtain ⟨b, us, m, rfl, q2, q3⟩ := key i vi hi
                obtain ⟨b', us', m', rfl, q2', q3'⟩ := key j vj hj
                exact lt_tuples ⟨_, st.2 _ q2, rfl, m, rfl⟩ q3 ⟨_, st.2 _ q2', rfl, m', rfl⟩ q3' (by have := ok.uni; show x.A.units + 1 < _; omega) hq
              · intro cv h' tk hv hk
                obtain ⟨b, us, m, rfl, q2, q3⟩ := key _ cv hv
                refine k h' tk fps Z Y _ (R.grow fun b o e => hk b o ?_ (Heap.get?_push_of_some _ e)) Ext.refl ⟨b, us, m, rfl, q2, ?_⟩
                · intro hb
                  exact Nat.ne_of_lt (Heap.lt_size e) (List.mem_singleton.mp hb)
                · have e1 : vs.toArray.size - 1 = ts.length - 1 := by rw [List.size_toArray]; omega
                  rw [e1] at q3; exact q3
            · cases e
          · cases e
        · cases e
  · cases e
end
end Mine

end
section
open PySem PySem.W PySem.Calls PyProof.Rows
set_option Elab.async false
namespace Mine

/-! what a comprehension's block captures -/
theorem cellOf_some {env : Env} {nm : Str} {a : Addr} (h : env.cells.lookup nm = some a) : cellOf env nm = pure a := by
  delta cellOf
  rw [h]
theorem closure_from {env : Env} : ∀ (names : List (Str × NameKind)) (acc : List (Str × Addr)), (∀ n a, (n, a) ∈ acc → env.cells.lookup n = some a) → (∀ n, (n, NameKind.free) ∈ names → ∃ a, env.cells.lookup n = some a) →
    ∃ cl, (forIn names acc fun (x : Str × NameKind) (cs : List (Str × Addr)) => match x with
        | (name, kind) => if (kind == NameKind.free) = true then (do let a ← cellOf env name; pure (ForInStep.yield ((name, a) :: cs))) else pure (ForInStep.yield cs)) = (pure cl : Sem _) ∧
      (∀ n a, (n, a) ∈ cl → env.cells.lookup n = some a) ∧ (∀ n, (n, NameKind.free) ∈ names → ∃ a, (n, a) ∈ cl) ∧ (∀ p ∈ acc, p ∈ cl) ∧ ∀ p ∈ cl, p ∈ acc ∨ (p.1, NameKind.free) ∈ names
  | [], acc, h, _ => ⟨acc, rfl, h, (fun n hn => absurd hn List.not_mem_nil), (fun _ h => h), fun _ h => .inl h⟩
  | (y, k) :: r, acc, h, hf => by
    by_cases hk : (k == NameKind.free) = true
    · have hk' : k = .free := by simpa using hk
      subst hk'
      obtain ⟨a, ha⟩ := hf y (.head _)
      obtain ⟨cl, e, g1, g2, g3, g4⟩ := closure_from r ((y, a) :: acc) (fun n b hm => by
        rcases List.mem_cons.mp hm with z | z
        · cases z; exact ha
        · exact h n b z) fun n hn => hf n (.tail _ hn)
      refine ⟨cl, ?_, g1, fun n hn => ?_, fun p hp => g3 p (.tail _ hp), fun p hp => ?_⟩
      · rw [List.forIn_cons]
        simp only [cellOf_some ha, hk, if_true]
        exact e
      · rcases List.mem_cons.mp hn with z | z
        · cases z; exact ⟨a, g3 _ (.head _)⟩
        · exact g2 n z
      · rcases g4 p hp with z | z
        · rcases List.mem_cons.mp z with z | z
          · subst z; exact .inr (.head _)
          · exact .inl z
        · exact .inr (.tail _ z)
    · obtain ⟨cl, e, g1, g2, g3, g4⟩ := closure_from r acc h fun n hn => hf n (.tail _ hn)
      refine ⟨cl, ?_, g1, fun n hn => ?_, g3, fun p hp => (g4 p hp).imp id fun z => .tail _ z⟩
      · rw [List.forIn_cons]
        simp only [hk]
        exact e
      · rcases List.mem_cons.mp hn with z | z
        · cases z; exact absurd rfl hk
        · exact g2 n z
theorem lookup_some_of_mem {l : List (Str × Addr)} {n : Str} {a : Addr} (h : (n, a) ∈ l) : ∃ b, l.lookup n = some b ∧ (n, b) ∈ l := by
  induction l with
  | nil => cases h
  | cons p r ih =>
    obtain ⟨y, b⟩ := p
    rw [List.lookup_cons]
    cases hy : n == y with
    | true => exact ⟨b, rfl, by rw [beq_iff_eq.mp hy]; exact .head _⟩
    | false =>
      rcases List.mem_cons.mp h with z | z
      · cases z; simp at hy
      · obtain ⟨b', e1, e2⟩ := ih z; exact ⟨b', e1, .tail _ e2⟩
theorem closure_of {scope : Scope} {env : Env} (h : ∀ n, (n, NameKind.free) ∈ scope.names → ∃ a, env.cells.lookup n = some a) :
    ∃ cl, closureFor scope env = pure cl ∧ (∀ n a, (n, a) ∈ cl → (n, NameKind.free) ∈ scope.names ∧ env.cells.lookup n = some a) ∧ ∀ n, (n, NameKind.free) ∈ scope.names → cl.lookup n = env.cells.lookup n := by
  obtain ⟨cl, e, g1, g2, _, g4⟩ := closure_from scope.names [] (fun _ _ h => nomatch h) h
  refine ⟨cl, ?_, fun n a hm => ⟨(g4 _ hm).elim (fun z => absurd z List.not_mem_nil) id, g1 n a hm⟩, fun n hn => ?_⟩
  · unfold closureFor
    exact (congrArg (fun m => m >>= fun cs => (pure cs : Sem (List (Str × Addr)))) e).trans rfl
  · obtain ⟨a, ha⟩ := g2 n hn
    obtain ⟨b, hb, hm⟩ := lookup_some_of_mem ha
    rw [hb, g1 n b hm]

noncomputable abbrev cell0 : Obj := { cls := .type "cell", data := .cell none }
noncomputable abbrev dict0 : Obj := { cls := .type "dict", data := .dict #[] }
noncomputable def ownC (own : Bool) (nm : Str) (n : Addr) (acc : List (Str × Addr)) : List (Str × Addr) := if own then (nm, n) :: acc else acc
noncomputable def ownH (own : Bool) (h : Heap) : Heap := if own then h.push cell0 else h
/-- the block's own cells -/
noncomputable def OwnIs (own : Bool) (nm : Str) (scope : Scope) : Prop := ∀ h n acc, pushCells h scope.names = ownH own h ∧ cellsFrom n scope.names acc = ownC own nm n acc

theorem comp_env {M : Model} {A : Around} {E : Value → Shared → Prop} {s : Shared} {scope : Scope} {cl : List (Str × Addr)} {env : Env} {own : Bool} {nm : Str} {Q : Env → Shared → Prop} (hown : OwnIs own nm scope)
    (h : Q (newEnv scope s.heap.objs.size env.globals (ownC own nm (s.heap.objs.size + 1) cl) env.qual none .none (some env) builtinsNs) { s with heap := ownH own (s.heap.push dict0) }) :
    wpAny M A (newFunctionEnv scope env.globals cl [] env.qual none .none (some env)) Q E s := by
  simp only [newFunctionEnv, Option.isSome_some, if_true]
  refine wpAny_bind (wpAny_alloc ?_)
  refine wpAny_bind (wpAny_layCells _ (fun name kind cells => by cases hkc : kind == NameKind.cell <;> simp []) _ _ _ _ ?_)
  rw [(hown _ 0 []).1, (hown s.heap _ _).2]
  rw [show ({ s with heap := s.heap.push dict0 } : Shared).heap.objs.size = s.heap.objs.size + 1 from Heap.size_push ..]
  exact wpAny_bind (wpAny_pure (wpAny_pure h))
end Mine

end
section
open PySem PySem.W PySem.Calls PyProof.Rows
set_option Elab.async false
namespace Mine
section
variable {W : Wd} {c c' : Cx}

theorem Rel.swapU {x : Fx} {h : Heap} {σ : AS} {fps : List FP} {Z Y U : FP} {p q : Addr × Obj} (R : Rel W c { x with U := p :: q :: U } h σ fps Z Y) : Rel W c { x with U := q :: p :: U } h σ fps Z Y := by
  have H := R.led.perm (l' := fps.flatten ++ (Z ++ (Y ++ q :: p :: U))) (List.Perm.append_left _ (List.Perm.append_left _ (List.Perm.append_left _ (List.Perm.swap _ _ _))))
  exact ⟨R.fr, R.ce, H.N, H.D, R.O, R.G, R.V⟩

/-- out of a comprehension's block -/
theorem Rel.leave {x x' : Fx} {h₁ h h' : Heap} {σ₁ τ : AS} {fps₁ fps : List FP} {Z₁ Z Y₁ Y' : FP} {i : Addr × Obj} {d : Addr × Obj} (R : Rel W c { x with U := i :: x.U } h₁ σ₁ fps₁ Z₁ Y₁)
    (hg : x'.h₀ = hideAll h₁ ((fps₁.flatten ++ (Z₁ ++ (i :: x.U))).map (·.1))) (hL : h₁.objs.size ≤ x'.L) (hU : x'.U = d :: x.U) (hep : x'.ep = x.ep) (R' : Rel W c' x' h τ fps Z Y') (hs : Heap.SameBut x'.L h h') (X : Ext (rho fps₁) Z₁ (rho fps) Z) :
    Rel W c { x with U := d :: x.U } h' ⟨σ₁.loc, τ.hp⟩ fps Z Y₁ := by
  obtain ⟨m, F, q⟩ := R.fr
  have hid : ∀ {b o}, h₁.get? b = some o → b ∉ (fps₁.flatten ++ (Z₁ ++ (i :: x.U))).map (·.1) → x'.h₀.get? b = some o := fun e n => by rw [hg]; exact hideAll_get _ e n
  have kg : ∀ {b o}, x'.h₀.get? b = some o → h'.get? b = some o := fun {b o} e => by
    have e1 : h₁.get? b = some o := of_hideAll _ (by rw [← hg]; exact e)
    have hne : b ≠ x'.L := fun z => absurd (Heap.lt_size e1) (Nat.not_lt.mpr (z ▸ hL))
    exact (hs.2 b hne).trans (R'.keep _ _ e)
  have sub : ∀ p ∈ fps₁.flatten ++ (Z₁ ++ (i :: x.U)), p ∈ fps₁.flatten ++ (Z₁ ++ (Y₁ ++ (i :: x.U))) := fun p hp => by
    simp only [List.mem_append] at hp ⊢
    rcases hp with a | a | a
    · exact .inl a
    · exact .inr (.inl a)
    · exact .inr (.inr (.inr a))
  have old : ∀ {b o}, x.h₀.get? b = some o → x'.h₀.get? b = some o := fun {b o} e => hid (F.keep _ _ e) fun z => by
    obtain ⟨p, hp, rfl⟩ := List.mem_map.mp z
    rw [(R.N p (sub p hp)).2.2] at e; cases e
  obtain ⟨oL, es, ep, hoL, rL⟩ := F.ns
  have hLg : x'.h₀.get? x.L = some oL := hid hoL fun z => by
    obtain ⟨p, hp, e⟩ := List.mem_map.mp z
    exact (R.N p (sub p hp)).2.1 e
  have pY : (fps₁.flatten ++ (Z₁ ++ (Y₁ ++ (i :: x.U)))).Perm (Y₁ ++ (fps₁.flatten ++ (Z₁ ++ (i :: x.U)))) := perm_front
  have HY := R.led.perm pY
  have ndY := HY.D
  rw [List.map_append, List.nodup_append] at ndY
  have hYg : ∀ p ∈ Y₁, x'.h₀.get? p.1 = some p.2 := fun p hp => hid (HY.N p (List.mem_append_left _ hp)).1 fun z => ndY.2.2 _ (List.mem_map_of_mem hp) _ z rfl
  have hN' : ∀ p ∈ fps.flatten ++ (Z ++ (d :: x.U)), h'.get? p.1 = some p.2 ∧ p.1 ≠ x.L ∧ x.h₀.get? p.1 = none ∧ x'.h₀.get? p.1 = none := fun p hp => by
    have z := R'.N p (by
      rw [hU]
      simp only [List.mem_append] at hp ⊢
      rcases hp with a | a | a
      · exact .inl a
      · exact .inr (.inl a)
      · exact .inr (.inr (.inr a)))
    refine ⟨(hs.2 _ z.2.1).trans z.1, fun e => ?_, ?_, z.2.2⟩
    · have := z.2.2; rw [e, hLg] at this; cases this
    · cases e : x.h₀.get? p.1 with
      | none => rfl
      | some o => have := z.2.2; rw [old e] at this; cases this
  have ND' : ((fps.flatten ++ (Z ++ (d :: x.U))).map (·.1)).Nodup := by
    have := R'.D
    rw [hU] at this
    refine this.sublist (List.Sublist.map _ (List.Sublist.append (List.Sublist.refl _) (List.Sublist.append (List.Sublist.refl _) (List.sublist_append_right _ _))))
  have pY' : (Y₁ ++ (fps.flatten ++ (Z ++ (d :: x.U)))).Perm (fps.flatten ++ (Z ++ (Y₁ ++ (d :: x.U)))) := perm_front.symm
  have H2 : Led x.h₀ x.L h' (Y₁ ++ (fps.flatten ++ (Z ++ (d :: x.U)))) := by
    refine ⟨fun p hp => ?_, ?_⟩
    · rcases List.mem_append.mp hp with hp | hp
      · exact ⟨kg (hYg p hp), (HY.N p (List.mem_append_left _ hp)).2⟩
      · have := hN' p hp; exact ⟨this.1, this.2.1, this.2.2.1⟩
    · rw [List.map_append, List.nodup_append]
      refine ⟨ndY.1, ND', fun a ha b hb e => ?_⟩
      obtain ⟨p, hp, rfl⟩ := List.mem_map.mp ha
      obtain ⟨r, hr, rfl⟩ := List.mem_map.mp hb
      have e1 := hYg p hp
      have e2 := (hN' r hr).2.2.2
      rw [e, e2] at e1; cases e1
  have H3 := H2.perm pY'
  refine ⟨⟨m, ⟨⟨oL, es, ep, kg hLg, rL⟩, fun b o e => kg (old e), F.above⟩, fun j nm v h1 h2 => ?_⟩, fun j nm h1 => ?_, H3.N, H3.D, ?_, R.G, R.V⟩
  · obtain ⟨cv, a, b⟩ := q j nm v h1 h2
    exact ⟨cv, a, VR.ext X b⟩
  · obtain ⟨a, o, co, p1, p2, p3, p4⟩ := R.ce j nm h1
    refine ⟨a, o, co, p1, p2, p3, fun v hv => ?_⟩
    obtain ⟨cv, p5, p6⟩ := p4 v hv
    exact ⟨cv, p5, VR.ext X p6⟩
  · have := R'.O
    rw [hep] at this
    exact this
end
end Mine

end
section
open PySem PySem.W PySem.Calls PyProof.Rows
set_option Elab.async false
namespace Mine
section
variable {W : Wd} {c : Cx}

noncomputable def relabelS (scope : Scope) (sc : Scope) : Scope :=
  { scope with names := scope.names.map fun (n, k) => if (k == .free && sc.kind == .function && sc.names.lookup n == some .cell) then (n, .cell) else (n, k) }
/-- a comprehension's block -/
noncomputable def compCx (c : Cx) (scope : Scope) (nm : Str) (own : Bool) (caps : List (Str × Nat)) : Cx := ⟨relabelS scope c.sc, (nm, own) :: caps.map fun p => (p.1, true), c.d, c.u, false, c.loops, 1, none⟩
noncomputable def compLoc (caps : List (Str × Nat)) (σ : AS) : List (Option AV) := none :: caps.map fun p => (σ.loc[p.2]?).join

/-- into a comprehension's block -/
theorem Rel.enter {x : Fx} {h₁ : Heap} {σ₁ : AS} {fps₁ : List FP} {Z₁ Y₁ : FP} {i : Addr × Obj} {scope : Scope} {nm : Str} {own : Bool} {caps : List (Str × Nat)} {cl : List (Str × Addr)} (ok : FxOk W c x) (R : Rel W c { x with U := i :: x.U } h₁ σ₁ fps₁ Z₁ Y₁)
    (hkind : scope.kind = .function) (hcaps : ∀ p ∈ caps, c.vars[p.2]? = some (p.1, true)) (hcl : ∀ p ∈ caps, cl.lookup p.1 = x.env.cells.lookup p.1) (hgood : ∀ n a, (n, a) ∈ cl → n ∈ caps.map (·.1) ∧ x.env.cells.lookup n = some a) (hnd : (nm :: caps.map (·.1)).Nodup)
    {x' : Fx} (hx : x' = { A := x.A, A₀ := x.A₀, env := compEnvC scope (ownC own nm (h₁.objs.size + 2) cl) (h₁.objs.size + 1) x.env, base := x.base, h₀ := hideAll h₁ ((fps₁.flatten ++ (Z₁ ++ (i :: x.U))).map (·.1)), L := h₁.objs.size + 1, outer := x.outer, U := i :: (h₁.objs.size, listOf #[] 0) :: x.U, ep := x.ep, Fs := [] }) :
    FxOk W (compCx c scope nm own caps) x' ∧ ∃ Y', Rel W (compCx c scope nm own caps) x' (ownH own ((h₁.push (listOf #[] 0)).push dict0)) ⟨compLoc caps σ₁, σ₁.hp⟩ fps₁ Z₁ Y' := by
  subst hx
  obtain ⟨m, F, q⟩ := R.fr
  have sub : ∀ p ∈ fps₁.flatten ++ (Z₁ ++ (i :: x.U)), p ∈ fps₁.flatten ++ (Z₁ ++ (Y₁ ++ (i :: x.U))) := fun p hp => by
    simp only [List.mem_append] at hp ⊢
    rcases hp with a | a | a
    · exact .inl a
    · exact .inr (.inl a)
    · exact .inr (.inr (.inr a))
  have hid : ∀ {b o}, h₁.get? b = some o → b ∉ (fps₁.flatten ++ (Z₁ ++ (i :: x.U))).map (·.1) → (hideAll h₁ ((fps₁.flatten ++ (Z₁ ++ (i :: x.U))).map (·.1))).get? b = some o := fun e n => hideAll_get _ e n
  have old : ∀ b o, x.h₀.get? b = some o → (hideAll h₁ ((fps₁.flatten ++ (Z₁ ++ (i :: x.U))).map (·.1))).get? b = some o := fun b o e => hid (F.keep _ _ e) fun z => by
    obtain ⟨p, hp, rfl⟩ := List.mem_map.mp z
    rw [(R.N p (sub p hp)).2.2] at e; cases e
  have HY := R.led.perm perm_front
  have ndY := HY.D
  rw [List.map_append, List.nodup_append] at ndY
  have hYg : ∀ p ∈ Y₁, (hideAll h₁ ((fps₁.flatten ++ (Z₁ ++ (i :: x.U))).map (·.1))).get? p.1 = some p.2 := fun p hp => hid (HY.N p (List.mem_append_left _ hp)).1 fun z => ndY.2.2 _ (List.mem_map_of_mem hp) _ z rfl
  have capG : ∀ p ∈ caps, ∃ a o co, x.env.cells.lookup p.1 = some a ∧ (hideAll h₁ ((fps₁.flatten ++ (Z₁ ++ (i :: x.U))).map (·.1))).get? a = some o ∧ o.data = .cell co ∧ ∀ v, σ₁.loc[p.2]? = some (some v) → ∃ cv, co = some cv ∧ VR (rho fps₁) Z₁ v cv := fun p hp => by
    obtain ⟨a, o, co, p1, p2, p3, p4⟩ := R.ce p.2 p.1 (hcaps p hp)
    refine ⟨a, o, co, p1, ?_, p3, p4⟩
    rcases p2 with p2 | p2
    · exact hYg (a, o) p2
    · exact old _ _ p2.2
  have clt : ∀ n a, (n, a) ∈ cl → a < h₁.objs.size := fun n a hm => by
    obtain ⟨h1, h2⟩ := hgood n a hm
    obtain ⟨p, hp, rfl⟩ := List.mem_map.mp h1
    obtain ⟨a', o, co, p1, p2, _⟩ := capG p hp
    rw [p1] at h2; cases h2
    exact Heap.lt_size (of_hideAll _ p2)
  have hck : ∀ p ∈ caps, (ownC own nm (h₁.objs.size + 2) cl).lookup p.1 = x.env.cells.lookup p.1 := fun p hp => by
    unfold ownC
    cases own with
    | false => exact hcl p hp
    | true =>
      have hne : p.1 ≠ nm := fun z => (List.nodup_cons.mp hnd).1 (z ▸ List.mem_map_of_mem hp)
      have : (p.1 == nm) = false := by simpa using hne
      rw [if_pos rfl, List.lookup_cons, this]; exact hcl p hp
  refine ⟨⟨by show relabelS scope x.env.scope = relabelS scope c.sc; rw [ok.sc], hkind, rfl, ok.glob, ok.blt, ?_, ?_, ok.X.keeps old, ok.T.keeps old, ok.dep, ok.uni, ok.hh, (fun z => by cases z), (fun _ _ _ _ hp => nomatch hp), (fun _ _ e => nomatch e)⟩, ?_⟩
  · have : (compCx c scope nm own caps).vars.map (·.1) = nm :: caps.map (·.1) := by simp [compCx, List.map_map, Function.comp_def]
    rw [this]; exact hnd
  · intro y z a h1 h2
    have inCl : ∀ {y}, cl.lookup y = some a → x.env.cells.lookup y = some a ∧ a < h₁.objs.size := fun {y} e => ⟨(hgood _ _ (mem_of_lookup e)).2, clt _ _ (mem_of_lookup e)⟩
    have key : ∀ {y}, (ownC own nm (h₁.objs.size + 2) cl).lookup y = some a → (own = true ∧ y = nm ∧ a = h₁.objs.size + 2) ∨ (x.env.cells.lookup y = some a ∧ a < h₁.objs.size) := fun {y} e => by
      unfold ownC at e
      cases own with
      | false => exact .inr (inCl e)
      | true =>
        rw [if_pos rfl, List.lookup_cons] at e
        cases hy : y == nm with
        | true => rw [hy] at e; cases e; exact .inl ⟨rfl, beq_iff_eq.mp hy, rfl⟩
        | false => rw [hy] at e; exact .inr (inCl e)
    rcases key h1 with ⟨_, a1, a2⟩ | ⟨a1, a2⟩ <;> rcases key h2 with ⟨_, b1, b2⟩ | ⟨b1, b2⟩
    · rw [a1, b1]
    · exact absurd b2 (by rw [a2]; exact Nat.not_lt.mpr (Nat.le_add_right _ _))
    · exact absurd a2 (by rw [b2]; exact Nat.not_lt.mpr (Nat.le_add_right _ _))
    · exact ok.cinj _ _ _ a1 b1
  · have s1 : (h₁.push (listOf #[] 0)).objs.size = h₁.objs.size + 1 := Heap.size_push ..
    have s2 : ((h₁.push (listOf #[] 0)).push dict0).objs.size = h₁.objs.size + 2 := by rw [Heap.size_push, s1]
    have up : ∀ {b o}, ((h₁.push (listOf #[] 0)).push dict0).get? b = some o → (ownH own ((h₁.push (listOf #[] 0)).push dict0)).get? b = some o := fun {b o} e => by
      unfold ownH; cases own with
      | false => exact e
      | true => exact Heap.get?_push_of_some _ e
    have up1 : ∀ {b o}, h₁.get? b = some o → (ownH own ((h₁.push (listOf #[] 0)).push dict0)).get? b = some o := fun e => up (Heap.get?_push_of_some _ (Heap.get?_push_of_some _ e))
    have hD : (ownH own ((h₁.push (listOf #[] 0)).push dict0)).get? h₁.objs.size = some (listOf #[] 0) := up (Heap.get?_push_of_some _ (Heap.get?_push_size _ rfl))
    have hns : (ownH own ((h₁.push (listOf #[] 0)).push dict0)).Ns (h₁.objs.size + 1) fun _ => none := by
      have := Heap.Ns.new (h₁.push (listOf #[] 0)) (.type "dict")
      rw [s1] at this
      exact this.keeps fun b o e => up e
    have big : ∀ {b}, h₁.objs.size ≤ b → (hideAll h₁ ((fps₁.flatten ++ (Z₁ ++ (i :: x.U))).map (·.1))).get? b = none := fun {b} hb => by
      cases e : (hideAll h₁ ((fps₁.flatten ++ (Z₁ ++ (i :: x.U))).map (·.1))).get? b with
      | none => rfl
      | some o => exact absurd (Heap.lt_size (of_hideAll _ e)) (Nat.not_lt.mpr hb)
    have hO : own = true → (ownH own ((h₁.push (listOf #[] 0)).push dict0)).get? (h₁.objs.size + 2) = some cell0 := fun z => by
      subst z
      have := Heap.get?_push_size ((h₁.push (listOf #[] 0)).push dict0) (o := cell0) rfl
      rw [s2] at this
      exact this
    have H0 : Led (hideAll h₁ ((fps₁.flatten ++ (Z₁ ++ (i :: x.U))).map (·.1))) (h₁.objs.size + 1) (ownH own ((h₁.push (listOf #[] 0)).push dict0)) ((h₁.objs.size, listOf #[] 0) :: (fps₁.flatten ++ (Z₁ ++ (i :: x.U)))) := by
      refine ⟨fun p hp => ?_, ?_⟩
      · rcases List.mem_cons.mp hp with rfl | hp
        · exact ⟨hD, Nat.ne_of_lt (Nat.lt_succ_self _), big (Nat.le_refl _)⟩
        · have z := (R.N p (sub p hp)).1
          exact ⟨up1 z, Nat.ne_of_lt (Nat.lt_succ_of_lt (Heap.lt_size z)), hideAll_none _ (List.mem_map_of_mem hp)⟩
      · rw [List.map_cons, List.nodup_cons]
        refine ⟨fun z => ?_, ndY.2.1⟩
        obtain ⟨p, hp, e⟩ := List.mem_map.mp z
        exact absurd (Heap.lt_size (R.N p (sub p hp)).1) (by rw [e]; exact Nat.lt_irrefl _)
    have P1 : ((h₁.objs.size, listOf #[] 0) :: (fps₁.flatten ++ (Z₁ ++ (i :: x.U)))).Perm (fps₁.flatten ++ (Z₁ ++ (i :: (h₁.objs.size, listOf #[] 0) :: x.U))) := (pm2 (Y := [i])).symm
    have H1 := H0.perm P1
    have H2 : Led (hideAll h₁ ((fps₁.flatten ++ (Z₁ ++ (i :: x.U))).map (·.1))) (h₁.objs.size + 1) (ownH own ((h₁.push (listOf #[] 0)).push dict0)) ((if own then [(h₁.objs.size + 2, cell0)] else []) ++ (fps₁.flatten ++ (Z₁ ++ (i :: (h₁.objs.size, listOf #[] 0) :: x.U)))) := by
      cases hown : own with
      | false => rw [hown] at H1; simpa using H1
      | true =>
        rw [hown] at H1 hO
        refine ⟨fun p hp => ?_, ?_⟩
        · rcases List.mem_cons.mp hp with rfl | hp
          · exact ⟨hO rfl, (fun z => absurd z (by show h₁.objs.size + 2 ≠ h₁.objs.size + 1; omega)), big (Nat.le_add_right _ _)⟩
          · exact H1.N p hp
        · show ((h₁.objs.size + 2, cell0) :: _ |>.map (·.1)).Nodup
          rw [List.map_cons, List.nodup_cons]
          refine ⟨fun z => ?_, H1.D⟩
          obtain ⟨p, hp, e⟩ := List.mem_map.mp z
          rcases List.mem_cons.mp (P1.mem_iff.mpr hp) with w | w
          · subst w; have e' : h₁.objs.size = h₁.objs.size + 2 := e; omega
          · have := Heap.lt_size (R.N p (sub p w)).1; rw [e] at this; exact absurd this (Nat.not_lt.mpr (Nat.le_add_right _ _))
    have H3 := H2.perm perm_front.symm
    refine ⟨_, ⟨⟨_, ⟨hns, fun b o e => up1 (of_hideAll _ e), by show (hideAll _ _).objs.size ≤ _; rw [hideAll_size]; exact Nat.le_succ _⟩, fun j n v h1 h2 => ?_⟩, fun j n h1 => ?_, H3.N, H3.D, R.O, by simp [compLoc, compCx], (fun _ hp => nomatch hp)⟩⟩
    · cases j with
      | zero => simp [compLoc] at h2
      | succ j =>
        have h1' : (caps.map fun p => (p.1, true))[j]? = some (n, false) := by simpa [compCx] using h1
        rw [List.getElem?_map] at h1'
        cases e : caps[j]? with
        | none => rw [e] at h1'; cases h1'
        | some p => rw [e] at h1'; cases h1'
    · cases j with
      | zero =>
        have h1' : nm = n ∧ own = true := by simpa [compCx] using h1
        obtain ⟨rfl, rfl⟩ := h1'
        refine ⟨h₁.objs.size + 2, cell0, none, by simp [compEnvC, ownC], .inl (by simp), rfl, fun v hv => by simp [compLoc] at hv⟩
      | succ j =>
        have h1' : (caps.map fun p => (p.1, true))[j]? = some (n, true) := by simpa [compCx] using h1
        rw [List.getElem?_map] at h1'
        cases e : caps[j]? with
        | none => rw [e] at h1'; cases h1'
        | some p =>
          rw [e] at h1'
          cases h1'
          have hp : p ∈ caps := List.mem_of_getElem? e
          obtain ⟨a, o, co, q1, q2, q3, q4⟩ := capG p hp
          refine ⟨a, o, co, (hck p hp).trans q1, .inr ⟨Nat.succ_le_succ (Nat.zero_le _), q2⟩, q3, fun v hv => q4 v ?_⟩
          have : (caps.map fun p => (σ₁.loc[p.2]?).join)[j]? = some (some v) := by simpa [compLoc] using hv
          rw [List.getElem?_map, e] at this
          have t2 : (σ₁.loc[p.2]?).join = some v := by simpa using this
          cases w : σ₁.loc[p.2]? with
          | none => rw [w] at t2; cases t2
          | some ov => rw [w] at t2; cases ov with
            | none => cases t2
            | some u => cases t2; rfl
end
end Mine

end
section
open PySem PySem.W PySem.Calls PyProof.Rows
set_option Elab.async false
namespace Mine
section
variable {W : Wd} {c : Cx}

/-- how the list that a comprehension made is taken up -/
noncomputable def EndOp (W : Wd) (c : Cx) (G : List AV → AM AV) : Prop :=
  ∀ x h σ fps Z Y D cvs n l v σ', Rel W c { x with U := (D, listOf (List.toArray cvs) n) :: x.U } h σ fps Z Y → All2 (VR (rho fps) Z) l cvs → G l σ = some (v, σ') →
    ∃ fps' Z', Rel W c x h σ' fps' Z' Y ∧ Ext (rho fps) Z (rho fps') Z' ∧ VR (rho fps') Z' v (.ref D)
theorem Rel.freezeAside {x : Fx} {h : Heap} {σ : AS} {fps : List FP} {Z Y : FP} {p : Addr × Obj} (R : Rel W c { x with U := p :: x.U } h σ fps Z Y) : Rel W c x h σ fps (p :: Z) Y ∧ Ext (rho fps) Z (rho fps) (p :: Z) := by
  have X : Ext (rho fps) Z (rho fps) (p :: Z) := ⟨fun i a e => e, fun _ e => .tail _ e⟩
  have H := R.led.perm (l' := fps.flatten ++ ((p :: Z) ++ (Y ++ x.U))) ((pm2 (U := x.U)).trans List.perm_middle.symm)
  have R1 := R.dropAside
  exact ⟨R1.ext (hp' := σ.hp) X (fun _ _ e => e) (R.O.mono fun _ _ y => OR.ext X y) H, X⟩
theorem end_li : EndOp W c pLi := by
  intro x h σ fps Z Y D cvs n l v σ' R hl e
  unfold pLi at e
  split at e
  · rename_i ns hns
    split at e
    · cases e
      obtain ⟨R', X⟩ := R.freezeAside
      exact ⟨fps, _, R', X, ⟨D, cvs, n, rfl, .head _, intsOf_all hl hns⟩⟩
    · cases e
  · cases e
theorem end_list : EndOp W c pNewList := by
  intro x h σ fps Z Y D cvs n l v σ' R hl e
  unfold pNewList at e
  split at e
  · cases e
    have X : Ext (rho fps) Z (rho (fps ++ [[(D, listOf (List.toArray cvs) n)]])) Z := ⟨fun i a e => rho_app e, fun _ e => e⟩
    have H := R.led.perm (l' := (fps ++ [[(D, listOf (List.toArray cvs) n)]]).flatten ++ (Z ++ (Y ++ x.U))) (by
      have : (fps ++ [[(D, listOf (List.toArray cvs) n)]]).flatten ++ (Z ++ (Y ++ x.U)) = fps.flatten ++ (D, listOf (List.toArray cvs) n) :: (Z ++ (Y ++ x.U)) := by simp
      rw [this]
      exact (pm2 (U := x.U)).trans List.perm_middle.symm)
    have R1 := R.dropAside
    refine ⟨_, Z, R1.ext X (fun _ _ e => e) ((R.O.mono fun _ _ y => OR.ext X y).append (.cons ⟨D, cvs, n, rfl, hl.mono fun _ _ y => VR.ext X y⟩ .nil)) H, X, ⟨D, ?_, rfl⟩⟩
    unfold rho
    rw [R.O.length, List.getElem?_append_right (Nat.le_refl _)]
    simp
  · cases e

noncomputable def lisOf : List AV → Option (List (List Int))
  | [] => some []
  | .li i :: r => match lisOf r with
    | some l => some (i :: l)
    | none => none
  | _ => none
theorem lisOf_all {ρ : Nat → Option Addr} {Z : FP} : ∀ {a : List AV} {ca : List Value} {l : List (List Int)}, All2 (VR ρ Z) a ca → lisOf a = some l → All2 (IntsL Z) l ca
  | _, _, _, .nil, e => by cases e; exact .nil
  | _, _, _, .cons (a := a) x h, e => by
    cases a with
    | li i =>
      unfold lisOf at e
      split at e
      · rename_i l' e'
        cases e
        exact .cons x (lisOf_all h e')
      · cases e
    | _ => cases e
noncomputable def pLli (a : List AV) : AM AV := fun σ => match lisOf a with
  | some l => if l.length < 1000 then some (.lli l, σ) else none
  | none => none
theorem end_lli : EndOp W c pLli := by
  intro x h σ fps Z Y D cvs n l v σ' R hl e
  unfold pLli at e
  split at e
  · rename_i ns hns
    split at e
    · cases e
      obtain ⟨R', X⟩ := R.freezeAside
      exact ⟨fps, _, R', X, ⟨D, cvs, n, rfl, .head _, (lisOf_all hl hns).mono fun _ _ y => IntsL.ext X y⟩⟩
    · cases e
  · cases e

/-! the loop, abstractly -/
noncomputable def aComp (t : AM Bool) (f : AM AV) (src : Src) : Nat → Nat → List AV → AM (List AV)
  | 0, _, _ => no
  | k + 1, i, acc => fun σ => match nxt src i σ with
    | none => none
    | some none => some (acc, σ)
    | some (some v) => bnd (pStore 0 v) (fun _ => bnd t fun b => if b then bnd f (fun y => if acc.length < 1000 then aComp t f src k (i + 1) (acc ++ [y]) else no) else aComp t f src k (i + 1) acc) σ
noncomputable def pComp (caps : List (Str × Nat)) (t : AM Bool) (f : AM AV) (k : Nat) (G : List AV → AM AV) (src : Src) : AM AV := fun σ =>
  match aComp t f src k 0 [] ⟨compLoc caps σ, σ.hp⟩ with
  | some (l, σ') => G l (unlock ⟨σ.loc, σ'.hp⟩)
  | none => none
noncomputable def STs (W : Wd) (c : Cx) (ifs : List Expr) (t : AM Bool) : Prop := Says EqB W c (fun x => forIn ifs true fun c r => if r = true then do let ok ← isTrue c x.env (eval c x.env); pure (ForInStep.yield ok) else pure (ForInStep.yield r)) t
theorem sts_nil : STs W c [] (ok true) := by
  intro x _ s σ fps Z Y R v σ' e Q E k
  cases e
  exact wpAny_pure (k s.heap s.toks fps Z Y _ R Ext.refl rfl)
theorem sts_one {e : Expr} {t : AM Bool} (h : ST W c e t) : STs W c [e] t := by
  intro x ok s σ fps Z Y R v σ' e Q E k
  refine wpAny_bind ?_
  show wpAny _ _ (isTrue _ _ _ >>= _) _ _ _
  refine wpAny_bind (h x ok s σ fps Z Y R v σ' e _ E fun h' tk' fps' Z' Y' cv R' X' p' => ?_)
  exact wpAny_pure (wpAny_pure (k h' tk' fps' Z' Y' cv R' X' p'))
end
end Mine

end
section
open PySem PySem.W PySem.Calls PyProof.Rows
set_option Elab.async false
namespace Mine
section
variable {W : Wd} {c : Cx}

theorem iter_self {x : Fx} {s : Shared} {σ : AS} {fps : List FP} {Z Y U : FP} {I : Addr} {o : Obj} {src : Src} {i ep : Nat} {ρ₁ : Nat → Option Addr} {Z₁ : FP} (R : Rel W c { x with U := (I, o) :: U } s.heap σ fps Z Y) (hJ : J ep ρ₁ Z₁ src i o) {A : Around} {Q : Value → Shared → Prop} {E : Value → Shared → Prop}
    (k : Q (.ref I) s) : wpAny (model W.prog W.w) A (pyIter (.ref I)) Q E s := by
  have hI : s.heap.get? I = some o := R.asideAt
  cases src with
  | items l =>
    rcases hJ with ⟨a, vs, n, h1, h2, h3, h4⟩ | ⟨a, vs, n, h1, h2, h3, h4⟩ | ⟨a, b, n, h1, h2⟩
    · exact wpAny_pyIter_listiter (l := a) (i := i) ⟨o, hI, h1, h2⟩ k
    · exact wpAny_pyIter_tupleiter (t := a) (i := i) ⟨o, hI, h1, h2⟩ k
    · subst h1; exact wpAny_pyIter_rangeiter hI k
  | mlist m => obtain ⟨a, hr, h1, h2⟩ := hJ; exact wpAny_pyIter_listiter (l := a) (i := i) ⟨o, hI, h1, h2⟩ k
  | mdict m n => obtain ⟨a, hr, h1, h2⟩ := hJ; exact wpAny_pyIter_keyiter (d := a) (i := i) (n := n) (ep := ep) ⟨o, hI, h1, h2⟩ k
  | mvals m n => obtain ⟨a, hr, h1, h2⟩ := hJ; exact wpAny_pyIter_valiter (d := a) (i := i) (n := n) (ep := ep) ⟨o, hI, h1, h2⟩ k

inductive CoI (W : Wd) (c' : Cx) (x : Fx) (I D : Addr) (U : FP) (src : Src) (t : AM Bool) (f : AM AV) (fps : List FP) (Z : FP) (s : Shared) (l : List AV) (σ' : AS) (m : Nat) (s' : Shared) : Prop
  | mk (h : Heap) (tk : Tok) (τ : AS) (fps₂ : List FP) (Z₂ Y₂ : FP) (i : Nat) (o' : Obj) (cvs : List Value) (n : Nat) (acc : List AV) (es : s' = { s with heap := h, toks := tk }) (R : Rel W c' { x with U := (I, o') :: (D, listOf (List.toArray cvs) n) :: U } h τ fps₂ Z₂ Y₂)
      (X : Ext (rho fps) Z (rho fps₂) Z₂) (j : J x.ep (rho fps) Z src i o') (a : All2 (VR (rho fps₂) Z₂) acc cvs) (e : aComp t f src m i acc τ = some (l, σ'))
theorem comp_loop {c' : Cx} {x : Fx} {elt iter : Expr} {nm : Str} {px pos : Pos} {ifs : List Expr} {scope : Scope} {t : AM Bool} {f : AM AV} {src : Src} {k : Nat} {I D : Addr} {U : FP} (ok' : ∀ U, FxOk W c' { x with U := U }) (hl : c'.loops = true)
    (ht : STs W c' ifs t) (hf : SE W c' elt f) (hst : Prim1 UR W c' (fun x v => storeName x.env nm v) (pStore 0)) {Rr : Result → Shared → Prop} {s : Shared} {σ σ' : AS} {fps : List FP} {Z Y : FP} {o : Obj} {l : List AV}
    (R : Rel W c' { x with U := (I, o) :: (D, listOf #[] 0) :: U } s.heap σ fps Z Y) (hJ : J x.ep (rho fps) Z src 0 o) (e : aComp t f src k 0 [] σ = some (l, σ'))
    (kk : ∀ h' tk' fps' Z' Y' cvs n, Rel W c' { x with U := (D, listOf (List.toArray cvs) n) :: U } h' σ' fps' Z' Y' → Ext (rho fps) Z (rho fps') Z' → All2 (VR (rho fps') Z') l cvs → Rr (.ok .next) { s with heap := h', toks := tk' }) :
    codeAny (model W.prog W.w) x.A (.compLoop (.ListComp elt [⟨.Name nm px, iter, ifs, 0⟩] scope pos) 0 (.ref I) (.ref D) x.env) Rr s := by
  refine codeAny_compLoop_tests (CoI W c' x I D U src t f fps Z s l σ') ?_ k ⟨s.heap, s.toks, σ, fps, Z, Y, 0, o, [], 0, [], rfl, R, Ext.refl, hJ, .nil, e⟩
  rintro m s' ⟨h, tk, τ, fps₂, Z₂, Y₂, i, o', cvs, n, acc, rfl, R₂, X₂, j₂, a₂, e₂⟩
  cases m with
  | zero => cases e₂
  | succ m =>
    unfold aComp at e₂
    split at e₂
    · cases e₂
    · rename_i hn
      cases e₂
      exact next_end (x := x) ((ok' x.U).hh hl) R₂ (j₂.ext X₂) hn fun h₃ tk₃ R₃ => kk h₃ tk₃ fps₂ Z₂ Y₂ cvs n R₃ X₂ a₂
    · rename_i u hn
      refine next_item (x := x) R₂ X₂ j₂ hn fun h₃ tk₃ o₃ cu R₃ j₃ pu => ?_
      obtain ⟨_, τ₃, e₃, e₄⟩ := bnd_some e₂
      refine wpAny_assign_Name (hst _ (ok' _) { s with heap := h₃, toks := tk₃ } τ fps₂ Z₂ Y₂ R₃ u cu pu _ τ₃ e₃ _ _ fun h₄ tk₄ fps₄ Z₄ Y₄ _ R₄ X₄ _ => ?_)
      refine ht.bind (s := { s with heap := h₄, toks := tk₄ }) (ok' _) R₄ e₄ fun b τ₅ h₅ tk₅ fps₅ Z₅ Y₅ cb _ e₅ R₅ X₅ p₅ => ?_
      cases p₅
      have X45 := X₄.trans X₅
      cases b with
      | false =>
        rw [if_neg (by simp)]
        exact ⟨m, Nat.lt_succ_self m, ⟨h₅, tk₅, τ₅, fps₅, Z₅, Y₅, i + 1, o₃, cvs, n, acc, rfl, R₅, X₂.trans X45, j₃, a₂.mono fun _ _ y => VR.ext X45 y, e₅⟩⟩
      | true =>
        rw [if_pos rfl]
        refine hf.bind (s := { s with heap := h₅, toks := tk₅ }) (ok' _) R₅ e₅ fun y τ₆ h₆ tk₆ fps₆ Z₆ Y₆ cy _ e₆ R₆ X₆ p₆ => ?_
        split at e₆
        · rename_i hlen
          have a₆ := a₂.mono fun _ _ y => VR.ext (X45.trans X₆) y
          have hal := a₆.length
          have R₇ := R₆.swapU
          refine append_at (s := { s with heap := h₆, toks := tk₆ }) R₇.asideAt (fun h' hs ho' => ?_) (by rw [List.size_toArray]; have := sizeLine_eq; omega)
          rw [List.push_toArray] at ho'
          have R₈ := (R₇.turnAside hs ho').swapU
          exact ⟨m, Nat.lt_succ_self m, ⟨h', _, τ₆, fps₆, Z₆, Y₆, i + 1, o₃, cvs ++ [cy], _, acc ++ [y], rfl, R₈, (X₂.trans X45).trans X₆, j₃, a₆.append (.cons p₆ .nil), e₆⟩⟩
        · cases e₆

theorem Rel.addAside {x : Fx} {h : Heap} {σ : AS} {fps : List FP} {Z Y : FP} {p : Addr × Obj} (R : Rel W c x h σ fps Z Y) (h1 : h.get? p.1 = some p.2) (h2 : p.1 ≠ x.L) (h3 : x.h₀.get? p.1 = none) (h4 : ∀ q ∈ fps.flatten ++ (Z ++ (Y ++ x.U)), q.1 ≠ p.1) :
    Rel W c { x with U := p :: x.U } h σ fps Z Y := by
  have H : Led x.h₀ x.L h (p :: (fps.flatten ++ (Z ++ (Y ++ x.U)))) := by
    refine ⟨fun q hq => ?_, ?_⟩
    · rcases List.mem_cons.mp hq with rfl | hq
      · exact ⟨h1, h2, h3⟩
      · exact R.N q hq
    · rw [List.map_cons, List.nodup_cons]
      refine ⟨fun z => ?_, R.D⟩
      obtain ⟨q, hq, e⟩ := List.mem_map.mp z
      exact h4 q hq e
  have H2 := H.perm pm2.symm
  exact ⟨R.fr, R.ce, H2.N, H2.D, R.O, R.G, R.V⟩

theorem comp_core {elt iter : Expr} {nm : Str} {px pos : Pos} {ifs : List Expr} {scope : Scope} {g : AM Src} {t : AM Bool} {f : AM AV} (own : Bool) (caps : List (Str × Nat)) (k : Nat)
    (hg : SI W c iter g) (ht : STs W (compCx c scope nm own caps) ifs t) (hf : SE W (compCx c scope nm own caps) elt f) (hst : Prim1 UR W (compCx c scope nm own caps) (fun x v => storeName x.env nm v) (pStore 0))
    (hl : c.loops = true) (hkind : scope.kind = .function)
    (hown : OwnIs own nm scope) (hcaps : ∀ p ∈ caps, c.vars[p.2]? = some (p.1, true)) (hfree : ∀ n, (n, NameKind.free) ∈ scope.names ↔ n ∈ caps.map (·.1)) (hnd : (nm :: caps.map (·.1)).Nodup)
    {x : Fx} (ok : FxOk W c x) {s : Shared} {σ σ₁ τ : AS} {fps : List FP} {Z Y : FP} (R : Rel W c x s.heap σ fps Z Y) {src : Src} (e₁ : g σ = some (src, σ₁)) {l : List AV} (e₂ : aComp t f src k 0 [] ⟨compLoc caps σ₁, σ₁.hp⟩ = some (l, τ))
    {E : Value → Shared → Prop} {cl : List (Str × Addr)} (hgood : ∀ n a, (n, a) ∈ cl → (n, NameKind.free) ∈ scope.names ∧ x.env.cells.lookup n = some a) (hcl : ∀ n, (n, NameKind.free) ∈ scope.names → cl.lookup n = x.env.cells.lookup n)
    {Rr : Value → Addr → Result → Shared → Prop}
    (kk : ∀ h₂ tk₂ fps₂ Z₂ Y₂ C oC D cvs n m, Rel W c { x with U := (C, oC) :: (D, listOf (List.toArray cvs) n) :: x.U } h₂ (unlock ⟨σ₁.loc, τ.hp⟩) fps₂ Z₂ Y₂ → Ext (rho fps) Z (rho fps₂) Z₂ → All2 (VR (rho fps₂) Z₂) l cvs → (∀ h' : Heap, h'.get? C = some oC → h'.Ns C m) →
      Rr (.ref D) C (.ok .next) { s with heap := h₂, toks := tk₂ }) :
    wpAny (model W.prog W.w) x.A (eval iter x.env) (fun v s₁ => wpAny (model W.prog W.w) x.A (pyIter v) (fun it s₂ => wpAny (model W.prog W.w) x.A (newList []) (fun acc s₃ =>
      wpAny (model W.prog W.w) x.A (newFunctionEnv scope x.env.globals cl [] x.env.qual none .none (some x.env)) (fun cenv s₄ =>
        codeAny (model W.prog W.w) x.A (.compStart (.ListComp elt [⟨.Name nm px, iter, ifs, 0⟩] scope pos) 0 it acc { cenv with scope := relabel scope x.env }) (Rr acc cenv.locals) s₄) E s₃) E s₂) E s₁) E s := by
  refine hg x ok s σ fps Z Y R src σ₁ e₁ _ E fun h₁ tk₁ fps₁ Z₁ Y₁ I o ep R₁ X₁ j₁ => ?_
  refine wpAny_newObj_type (comp_env hown ?_)
  have okep : FxOk W c { x with ep := ep } := ⟨ok.sc, ok.kind, ok.loc, ok.glob, ok.blt, ok.nd, ok.cinj, ok.X, ok.T, ok.dep, ok.uni, ok.hh, ok.call, ok.ap, ok.scr⟩
  obtain ⟨ok', Y', R'⟩ := Rel.enter (x := { x with ep := ep }) (i := (I, o)) (scope := scope) (nm := nm) (own := own) (caps := caps) (cl := cl) okep R₁ hkind hcaps (fun p hp => hcl _ ((hfree _).mpr (List.mem_map_of_mem hp))) (fun n a hm => ⟨(hfree n).mp (hgood n a hm).1, (hgood n a hm).2⟩) hnd rfl
  have okU : ∀ U, FxOk W (compCx c scope nm own caps) { A := x.A, A₀ := x.A₀, env := compEnvC scope (ownC own nm (h₁.objs.size + 2) cl) (h₁.objs.size + 1) x.env, base := x.base, h₀ := hideAll h₁ ((fps₁.flatten ++ (Z₁ ++ ((I, o) :: x.U))).map (·.1)), L := h₁.objs.size + 1, outer := x.outer, U := U, ep := ep, Fs := [] } :=
    fun U => ⟨ok'.sc, ok'.kind, ok'.loc, ok'.glob, ok'.blt, ok'.nd, ok'.cinj, ok'.X, ok'.T, ok'.dep, ok'.uni, ok'.hh, ok'.call, ok'.ap, ok'.scr⟩
  have s1' : (h₁.push { cls := Value.type "list", data := Data.seq #[] }).objs.size = h₁.objs.size + 1 := Heap.size_push ..
  dsimp only
  rw [s1']
  have key := comp_loop (iter := iter) (px := px) (scope := scope) (pos := pos) (c' := compCx c scope nm own caps) (x := { A := x.A, A₀ := x.A₀, env := compEnvC scope (ownC own nm (h₁.objs.size + 2) cl) (h₁.objs.size + 1) x.env, base := x.base, h₀ := hideAll h₁ ((fps₁.flatten ++ (Z₁ ++ ((I, o) :: x.U))).map (·.1)), L := h₁.objs.size + 1, outer := x.outer, U := x.U, ep := ep, Fs := [] })
    (U := x.U) okU hl ht hf hst (Rr := Rr (.ref h₁.objs.size) (h₁.objs.size + 1)) (s := { s with heap := ownH own ((h₁.push (listOf #[] 0)).push dict0), toks := tk₁ }) R' j₁ e₂ ?_
  · exact codeAny_compStart_list key (iter_self (x := { A := x.A, A₀ := x.A₀, env := compEnvC scope (ownC own nm (h₁.objs.size + 2) cl) (h₁.objs.size + 1) x.env, base := x.base, h₀ := hideAll h₁ ((fps₁.flatten ++ (Z₁ ++ ((I, o) :: x.U))).map (·.1)), L := h₁.objs.size + 1, outer := x.outer, U := x.U, ep := ep, Fs := [] }) (s := { s with heap := ownH own ((h₁.push (listOf #[] 0)).push dict0), toks := tk₁ }) R' j₁ key)
  · intro h₂ tk₂ fps₂ Z₂ Y₂ cvs n R₂ X₂ a₂
    obtain ⟨m₂, F₂, _⟩ := R₂.fr
    obtain ⟨oC, es, epC, hoC, rC⟩ := F₂.ns
    have R₃ := Rel.leave (x := { x with ep := ep }) (x' := { A := x.A, A₀ := x.A₀, env := compEnvC scope (ownC own nm (h₁.objs.size + 2) cl) (h₁.objs.size + 1) x.env, base := x.base, h₀ := hideAll h₁ ((fps₁.flatten ++ (Z₁ ++ ((I, o) :: x.U))).map (·.1)), L := h₁.objs.size + 1, outer := x.outer, U := (h₁.objs.size, listOf (List.toArray cvs) n) :: x.U, ep := ep, Fs := [] }) R₁ rfl (Nat.le_succ _) rfl rfl R₂ (Heap.SameBut.refl _ _) X₂
    obtain ⟨m₁, F₁, _⟩ := R₁.fr
    obtain ⟨oL, esL, epL, hoL, _⟩ := F₁.ns
    have R₄ : Rel W c { x with U := (h₁.objs.size, listOf (List.toArray cvs) n) :: x.U } h₂ (unlock ⟨σ₁.loc, τ.hp⟩) fps₂ Z₂ Y₁ := ⟨R₃.fr, R₃.ce, R₃.N, R₃.D, all2_unlock R₃.O, R₃.G, R₃.V⟩
    have lL : x.L < h₁.objs.size := Heap.lt_size hoL
    refine kk h₂ tk₂ fps₂ Z₂ Y₁ (h₁.objs.size + 1) oC h₁.objs.size cvs n m₂ (Rel.addAside (x := { x with U := (h₁.objs.size, listOf (List.toArray cvs) n) :: x.U }) (p := (h₁.objs.size + 1, oC)) R₄ hoC ?_ ?_ ?_) (X₁.trans X₂) a₂ (fun h' e => ⟨oC, es, epC, e, rC⟩)
    · exact Nat.ne_of_gt (Nat.lt_succ_of_lt lL)
    · show x.h₀.get? (h₁.objs.size + 1) = none
      cases e : x.h₀.get? (h₁.objs.size + 1) with
      | none => rfl
      | some oo => exact absurd (Heap.lt_size (F₁.keep _ _ e)) (Nat.not_lt.mpr (Nat.le_succ _))
    · intro q hq
      by_cases hY : q ∈ Y₁
      · have := Heap.lt_size (R₁.N q (by simp [hY])).1
        exact Nat.ne_of_lt (Nat.lt_succ_of_lt this)
      · refine (R₂.N q ?_).2.1
        simp only [List.mem_append] at hq ⊢
        rcases hq with a | a | a | a
        · exact .inl a
        · exact .inr (.inl a)
        · exact absurd a hY
        · exact .inr (.inr (.inr a))

theorem se_comp {elt iter : Expr} {nm : Str} {px pos : Pos} {ifs : List Expr} {scope : Scope} {g : AM Src} {t : AM Bool} {f : AM AV} {G : List AV → AM AV} (own : Bool) (caps : List (Str × Nat)) (k : Nat)
    (hg : SI W c iter g) (ht : STs W (compCx c scope nm own caps) ifs t) (hf : SE W (compCx c scope nm own caps) elt f) (hst : Prim1 UR W (compCx c scope nm own caps) (fun x v => storeName x.env nm v) (pStore 0)) (hG : EndOp W c G)
    (hs : ∀ env x, foldedSetIterable iter env x = pure x) (hl : c.loops = true) (hkind : scope.kind = .function) (hnames : ∀ y ∈ scope.names, y.2 = .local → scope.names.lookup y.1 = some .local)
    (hown : OwnIs own nm scope) (hcaps : ∀ p ∈ caps, c.vars[p.2]? = some (p.1, true)) (hfree : ∀ n, (n, NameKind.free) ∈ scope.names ↔ n ∈ caps.map (·.1)) (hnd : (nm :: caps.map (·.1)).Nodup) :
    SE W c (.ListComp elt [⟨.Name nm px, iter, ifs, 0⟩] scope pos) (bnd g (pComp caps t f k G)) := by
  intro x ok s σ fps Z Y R v σ' e Q E kk
  obtain ⟨src, σ₁, e₁, e₂⟩ := bnd_some e
  have hlook : ∀ n, (n, NameKind.free) ∈ scope.names → ∃ a, x.env.cells.lookup n = some a := fun n hn => by
    obtain ⟨p, hp, rfl⟩ := List.mem_map.mp ((hfree n).mp hn)
    obtain ⟨a, o, co, p1, _⟩ := R.ce p.2 p.1 (hcaps p hp)
    exact ⟨a, p1⟩
  obtain ⟨cl, hclos, hgood, hcl⟩ := closure_of hlook
  unfold pComp at e₂
  split at e₂
  · rename_i l τ hcomp
    show wpAny _ _ (eval _ _) _ _ _
    rw [eval_ListComp]
    refine wpAny_comprehension_free (use := none) rfl (hs _) hclos hkind hnames ?_
    refine comp_core (Rr := fun acc C => compPost (model W.prog W.w) x.A E none Q acc C) own caps k hg ht hf hst hl hkind hown hcaps hfree hnd ok R e₁ hcomp hgood hcl fun h₂ tk₂ fps₂ Z₂ Y₂ C oC D cvs n m R₂ X₂ a₂ hns => ?_
    refine ⟨m, hns _ R₂.asideAt, fun h₃ hs₃ => ?_⟩
    have R₃ := Rel.endAside (h' := h₃) R₂ fun b o hb e => (hs₃.2 b hb).trans e
    obtain ⟨fps₅, Z₅, R₅, X₅, p₅⟩ := hG x h₃ _ fps₂ Z₂ Y₂ _ cvs n l v σ' R₃ a₂ e₂
    exact kk h₃ tk₂ fps₅ Z₅ Y₂ _ R₅ (X₂.trans X₅) p₅
  · cases e₂

/-- a comprehension whose list is stored before its block goes -/
theorem sx_assignComp {elt iter : Expr} {nm y : Str} {px py pos spos : Pos} {ifs : List Expr} {scope : Scope} {g : AM Src} {t : AM Bool} {f : AM AV} {G : List AV → AM AV} {i : Nat} (own : Bool) (caps : List (Str × Nat)) (k : Nat)
    (hg : SI W c iter g) (ht : STs W (compCx c scope nm own caps) ifs t) (hf : SE W (compCx c scope nm own caps) elt f) (hst : Prim1 UR W (compCx c scope nm own caps) (fun x v => storeName x.env nm v) (pStore 0)) (hG : EndOp W c G)
    (hst' : Prim1 UR W c (fun x v => storeName x.env y v) (pStore i))
    (hsw : ∀ env, env.scope = c.sc → swapsWith (.ListComp elt [⟨.Name nm px, iter, ifs, 0⟩] scope pos) (some (.Name y py)) spos.line env = pure true)
    (hs : ∀ env x, foldedSetIterable iter env x = pure x) (hl : c.loops = true) (hkind : scope.kind = .function) (hnames : ∀ y ∈ scope.names, y.2 = .local → scope.names.lookup y.1 = some .local)
    (hown : OwnIs own nm scope) (hcaps : ∀ p ∈ caps, c.vars[p.2]? = some (p.1, true)) (hfree : ∀ n, (n, NameKind.free) ∈ scope.names ↔ n ∈ caps.map (·.1)) (hnd : (nm :: caps.map (·.1)).Nodup) :
    SX W c (.Assign [.Name y py] (.ListComp elt [⟨.Name nm px, iter, ifs, 0⟩] scope pos) spos) (bnd (bnd g (pComp caps t f k G)) fun v => bnd (pStore i v) fun _ => ok .next) := by
  intro x ok s σ fps Z Y R v σ' e Q E kk
  obtain ⟨u, σ₃, e₀, e₃⟩ := bnd_some e
  obtain ⟨_, σ₄, e₄, e₅⟩ := bnd_some e₃
  cases e₅
  obtain ⟨src, σ₁, e₁, e₂⟩ := bnd_some e₀
  have hlook : ∀ n, (n, NameKind.free) ∈ scope.names → ∃ a, x.env.cells.lookup n = some a := fun n hn => by
    obtain ⟨p, hp, rfl⟩ := List.mem_map.mp ((hfree n).mp hn)
    obtain ⟨a, o, co, p1, _⟩ := R.ce p.2 p.1 (hcaps p hp)
    exact ⟨a, p1⟩
  obtain ⟨cl, hclos, hgood, hcl⟩ := closure_of hlook
  unfold pComp at e₂
  split at e₂
  · rename_i l τ hcomp
    show wpAny _ _ (exec _ _) _ _ _
    rw [exec_Assign_Name_used _ _ _ _ (hsw _ ok.sc)]
    refine wpAny_bind (wpAny_standAt (wpAny_bind ?_))
    show wpAny _ x.A (do let _ ← comprehension (.ListComp elt [⟨.Name nm px, iter, ifs, 0⟩] scope pos) scope x.env _ (newList []) false (eval iter x.env) (some (assign (.Name y py) x.env))) _ _ s
    refine wpAny_bind (wpAny_mono (wpAny_comprehension_free (use := some (assign (.Name y py) x.env)) (Q := fun _ s' => Q .next s') rfl (hs _) hclos hkind hnames ?_) (fun _ s' hq => wpAny_pure (wpAny_pure hq)) fun _ _ e => e)
    refine comp_core (Rr := fun acc C => compPost (model W.prog W.w) x.A E (some (assign (.Name y py) x.env)) (fun _ s' => Q .next s') acc C) own caps k hg ht hf hst hl hkind hown hcaps hfree hnd ok R e₁ hcomp hgood hcl fun h₂ tk₂ fps₂ Z₂ Y₂ C oC D cvs n m R₂ X₂ a₂ hns => ?_
    have R₃ := R₂.swapU
    have okU : ∀ U, FxOk W c { x with U := U } := fun U => ⟨ok.sc, ok.kind, ok.loc, ok.glob, ok.blt, ok.nd, ok.cinj, ok.X, ok.T, ok.dep, ok.uni, ok.hh, ok.call, ok.ap, ok.scr⟩
    obtain ⟨fps₅, Z₅, R₅, X₅, p₅⟩ := hG { x with U := (C, oC) :: x.U } h₂ _ fps₂ Z₂ Y₂ _ cvs n l u σ₃ R₃ a₂ e₂
    show wpAny _ x.A (assign (.Name y py) x.env (.ref D)) _ _ _
    refine wpAny_assign_Name (hst' { x with U := (C, oC) :: x.U } (okU _) { s with heap := h₂, toks := tk₂ } σ₃ fps₅ Z₅ Y₂ R₅ u _ p₅ _ σ' e₄ _ _ fun h₆ tk₆ fps₆ Z₆ Y₆ _ R₆ X₆ _ => ?_)
    refine ⟨m, hns _ R₆.asideAt, fun h₇ hs₇ => ?_⟩
    have R₇ := Rel.endAside (h' := h₇) R₆ fun b o hb e => (hs₇.2 b hb).trans e
    exact kk h₇ tk₆ fps₆ Z₆ Y₆ _ R₇ ((X₂.trans X₅).trans X₆) rfl
  · cases e₂
end
end Mine

end
section
open PySem PySem.W PySem.Calls PyProof.Rows
set_option Elab.async false
namespace Mine
section
variable {W : Wd} {c : Cx}

/-! a def that gathers: its last parameter is a tuple -/
noncomputable def runRest (n : Nat) (k : Nat) (f : AM AF) : HF := fun vs hp =>
  if k ≤ vs.length ∧ vs.length ≤ k + 4 then match intsOf (vs.drop k) with
    | some l => finish (f ⟨((vs.take k) ++ [AV.tup l]).map some ++ List.replicate (n - (k + 1)) none, hp⟩)
    | none => none
  else none

theorem fc_rest {fa : Addr} {name qual : Str} {params : Arguments} {body : List Stmt} {scope : Scope} {dV kV doc pm cdv ct oc : Value} {an od : Option Addr} {osl : Array (Option Value)} (loc : List Str) (k d u : Nat) (rn : Str) {f : AM AF}
    (ho : W.K.lookup fa = some ⟨oc, od, .func (fnOf name qual params body scope dV kV doc pm an cdv ct), osl⟩) (hcd : codeIn W.K cdv qual = true)
    (hbind : ∀ (cvs rest : List Value), cvs.length = k → rest.length ≤ 4 → (cvs ++ rest).drop (params.posonlyargs.length + params.args.length) = rest ∧ ∃ g₁, peek1 W.K ⟨W.prog, W.w.params⟩ (bindArgs (fnX name qual params body scope [] dV kV doc pm an cdv ct) ⟨cvs ++ rest, []⟩) = some (({ cls := .type "tuple", data := .seq rest.toArray } : Obj), g₁) ∧
      ∀ D, g₁ D = some ((loc.take k).zip cvs ++ [(rn, .ref D)]))
    (hk : scope.kind = .function) (hco : scope.isCoroutine = false) (hgen : scope.isGenerator = false)
    (hchk : (decide loc.Nodup && (loc.take k).all (fun y => decide (scope.names.lookup y = some .local)) && scope.names.all (fun x => decide (x.2 ≠ .cell)) && decide (loc[k]? = some rn) && decide (scope.names.lookup rn = some .local)) = true)
    (hf : SB W (cxOf scope loc d u) body f) : FC W fa (d + 1) (u + 3) (runRest loc.length k f) := by
  simp only [Bool.and_eq_true, decide_eq_true_eq, List.all_eq_true] at hchk
  obtain ⟨⟨⟨⟨h1, h2⟩, h3⟩, h4⟩, h5⟩ := hchk
  have hkl : k < loc.length := (List.getElem?_eq_some_iff.mp h4).1
  have hvl : (cxOf scope loc d u).vars.length = loc.length := by simp [cxOf]
  have hvn : (cxOf scope loc d u).vars.map (·.1) = loc := by simp [cxOf, List.map_map, Function.comp_def]
  intro c hc hl hd hu x ok s σ fps Z Y R vs cvs hvs v σ' e Rr kk
  obtain ⟨hp', e', rfl⟩ := lift_some e
  unfold runRest at e'
  split at e'
  · rename_i hlen
    split at e'
    · rename_i l hints
      obtain ⟨fl, σ₂, hfl, rfl, hv⟩ := finish_some e'
      obtain ⟨m, F, q⟩ := R.fr
      have hcl := All2.length hvs
      have htk : (cvs.take k).length = k := List.length_take_of_le (hcl ▸ hlen.1)
      have hdr : (cvs.drop k).length ≤ 4 := by rw [List.length_drop, ← hcl]; exact Nat.sub_le_of_le_add (by rw [Nat.add_comm]; exact hlen.2)
      obtain ⟨hdrop, g₁, hp, hg⟩ := hbind (cvs.take k) (cvs.drop k) htk hdr
      rw [List.take_append_drop] at hdrop hp
      have hi : IntsAre (cvs.drop k) l := intsOf_all (All2.drop k hvs) hints
      refine codeAny_call_function (fd := fnX name qual params body scope [] dV kV doc pm an cdv ct) (body := body) (Nat.lt_of_le_of_lt (Nat.le_add_right _ _) ok.dep) ((R.K ok) _ _ ho) rfl hco hgen rfl (codeRec_of (R.K ok) hcd) ?_
      refine wp_of_peek1 (o := ({ cls := .type "tuple", data := .seq (cvs.drop k).toArray } : Obj)) F R.N (R.K ok) rfl (r := fun D => (loc.take k).zip (cvs.take k) ++ [(rn, .ref D)]) (fun D h' F' N' hlt => ?_) _ g₁ hp hg
      have X : Ext (rho fps) Z (rho fps) ((D, tupOf (cvs.drop k).toArray 0) :: Z) := ⟨fun i a e => e, fun _ e => .tail _ e⟩
      have hD : (D, tupOf (cvs.drop k).toArray 0) ∈ (D, tupOf (cvs.drop k).toArray 0) :: Z := .head _
      have R1 : Rel W c x h' σ fps ((D, tupOf (cvs.drop k).toArray 0) :: Z) Y := by
        have H : Led x.h₀ x.L h' ((D, tupOf (cvs.drop k).toArray 0) :: (fps.flatten ++ (Z ++ (Y ++ x.U)))) := by
          refine ⟨N', ?_⟩
          rw [List.map_cons, List.nodup_cons]
          refine ⟨fun z => ?_, R.D⟩
          obtain ⟨p, hp, e⟩ := List.mem_map.mp z
          exact absurd (hlt p hp) (by rw [e]; exact Nat.lt_irrefl _)
        have H2 := H.perm (l' := fps.flatten ++ (((D, tupOf (cvs.drop k).toArray 0) :: Z) ++ (Y ++ x.U))) List.perm_middle.symm
        refine ⟨⟨m, F', fun j nm w a b => ?_⟩, fun j nm a => ?_, H2.N, H2.D, R.O.mono fun _ _ y => OR.ext X y, R.G, R.V⟩
        · obtain ⟨cv, p1, p2⟩ := q j nm w a b
          exact ⟨cv, p1, VR.ext X p2⟩
        · obtain ⟨a, o, co, p1, p2, p3, p4⟩ := R.ce j nm a
          refine ⟨a, o, co, p1, p2, p3, fun v hv => ?_⟩
          obtain ⟨cv, p5, p6⟩ := p4 v hv
          exact ⟨cv, p5, VR.ext X p6⟩
      obtain ⟨oL, hoL⟩ := R1.here
      refine wpAny_newFunctionEnv h3 ?_ (fun h₁ hns₁ hsb => ⟨(R1.T ok).nolimit.fresh _ hsb, codeAny_func ?_⟩) hk
      · intro y hy
        rcases List.mem_append.mp hy with hy | hy
        · obtain ⟨a, b⟩ := y
          exact h2 a (List.of_mem_zip hy).1
        · rcases List.mem_cons.mp hy with rfl | hy
          · exact h5
          · cases hy
      · have hk₁ : ∀ b o, h'.get? b = some o → h₁.get? b = some o := fun b o e => hsb.extBut b o (Nat.ne_of_lt (Heap.lt_size e)) (Heap.get?_push_of_some _ e)
        have ok' : FxOk W (cxOf scope loc d u) (x.callee (envX qual scope h'.objs.size fa cdv []) (ground x h' fps ((D, tupOf (cvs.drop k).toArray 0) :: Z) Y) h'.objs.size oL Y) := callee_ok ok R1 hoL hc hl hd hu rfl hk rfl rfl rfl rfl (by rw [hvn]; exact h1) (fun y z a e => by cases e) (fun y a e => by cases e) (ground_keep R1) rfl
        have F₁ : Fr (ground x h' fps ((D, tupOf (cvs.drop k).toArray 0) :: Z) Y) h'.objs.size h₁ (fun y => ((loc.take k).zip (cvs.take k) ++ [(rn, Value.ref D)]).reverse.lookup y) := ⟨hns₁, fun b o e => hk₁ b o (of_hideAll _ e), Nat.le_of_eq (hideAll_size _ _)⟩
        have hkl : k + 1 ≤ loc.length := (List.getElem?_eq_some_iff.mp h4).1
        have e1 : (loc.take (k + 1)).length = k + 1 := List.length_take_of_le hkl
        have e2 : loc.take (k + 1) = loc.take k ++ [rn] := by rw [List.take_add_one, h4]; rfl
        have e3 : (loc.take k).length = k := List.length_take_of_le (Nat.le_of_succ_le hkl)
        have R' : Rel W (cxOf scope loc d u) (x.callee (envX qual scope h'.objs.size fa cdv []) (ground x h' fps ((D, tupOf (cvs.drop k).toArray 0) :: Z) Y) h'.objs.size oL Y) h₁ ⟨((vs.take k) ++ [AV.tup l]).map some ++ List.replicate ((cxOf scope loc d u).vars.length - (loc.take (k + 1)).length) none, σ.hp⟩ fps ((D, tupOf (cvs.drop k).toArray 0) :: Z) ((x.L, oL) :: Y) := by
          refine rel_args (x' := x.callee (envX qual scope h'.objs.size fa cdv []) (ground x h' fps ((D, tupOf (cvs.drop k).toArray 0) :: Z) Y) h'.objs.size oL Y) (ns := loc.take (k + 1)) (cvs := cvs.take k ++ [.ref D]) F₁ (ground_led R1 hoL hk₁ (Nat.le_refl _)) R1.O ?_ ?_ ?_ ?_ ?_ ?_ (fun p hp => hp)
          · exact (All2.mono (fun _ _ y => VR.ext X y) (All2.take k hvs)).append (.cons ⟨D, _, 0, rfl, hD, hi⟩ .nil)
          · rw [e1]; simp [htk]
          · intro i nm h
            rw [List.getElem?_take] at h
            split at h
            · exact ⟨false, by simp [cxOf, h]⟩
            · cases h
          · rw [e1, hvl]; exact hkl
          · intro i nm cv g1 g2 _
            have z := lookup_zip (ns := loc.take (k + 1)) (vs := cvs.take k ++ [.ref D]) (h1.sublist (List.take_sublist _ _)) (by rw [e1]; simp [htk]) g1 g2
            rw [e2, List.zip_append (by rw [e3, htk])] at z
            exact z
          · intro i nm h
            simp only [cxOf, List.getElem?_map] at h
            cases e : loc[i]? with
            | none => rw [e] at h; cases h
            | some n => rw [e] at h; cases h
        have e4 : ((cxOf scope loc d u).vars.length - (loc.take (k + 1)).length) = loc.length - (k + 1) := by rw [hvl, e1]
        rw [e4] at R'
        exact run_body (x := x) (s := { s with heap := h' }) hf ok' rfl rfl rfl hoL R1 (ground_keep R1) R' Ext.refl hfl hv (kk.ext X _ s.toks)
    · cases e'
  · cases e'

/-! a def with cells -/
theorem cellsFrom_snd : ∀ (names : List (Str × NameKind)) (n : Nat) (acc : List (Str × Addr)), (acc.map (·.2)).Nodup → (∀ p ∈ acc, p.2 < n) → ((cellsFrom n names acc).map (·.2)).Nodup ∧ ∀ p ∈ cellsFrom n names acc, p ∈ acc ∨ n ≤ p.2
  | [], n, acc, h1, h2 => ⟨h1, fun p hp => .inl hp⟩
  | (name, kind) :: r, n, acc, h1, h2 => by
    unfold cellsFrom
    split
    · have z := cellsFrom_snd r (n + 1) ((name, n) :: acc) (by
        rw [List.map_cons, List.nodup_cons]
        refine ⟨fun w => ?_, h1⟩
        obtain ⟨p, hp, e⟩ := List.mem_map.mp w
        exact absurd (h2 p hp) (by rw [e]; exact Nat.lt_irrefl _)) (fun p hp => by
        rcases List.mem_cons.mp hp with rfl | hp
        · exact Nat.lt_succ_self _
        · exact Nat.lt_succ_of_lt (h2 p hp))
      refine ⟨z.1, fun p hp => ?_⟩
      rcases z.2 p hp with w | w
      · rcases List.mem_cons.mp w with rfl | w
        · exact .inr (Nat.le_refl _)
        · exact .inl w
      · exact .inr (Nat.le_of_succ_le w)
    · exact cellsFrom_snd r n acc h1 h2
theorem cellsAre_mem {cm : Str → Option Value} : ∀ {cs : List (Str × Addr)} {cells : FP}, CellsAre cm cs cells → cells.map (·.1) = cs.map (·.2) ∧ ∀ n a, (n, a) ∈ cs → ∃ o, (a, o) ∈ cells ∧ o.data = .cell (cm n)
  | _, _, .nil => ⟨rfl, fun _ _ h => nomatch h⟩
  | _, _, .cons h r => by
    obtain ⟨h1, h2⟩ := cellsAre_mem r
    refine ⟨by simp [h1], fun n a hm => ?_⟩
    rcases List.mem_cons.mp hm with z | z
    · cases z; exact ⟨_, .head _, h⟩
    · obtain ⟨o, e1, e2⟩ := h2 n a z; exact ⟨o, .tail _ e1, e2⟩
theorem bindL_cons {kd : Str → Option NameKind} {n : Str} {v : Value} {r : List (Str × Value)} {m : Str → Option Value} : bindL kd ((n, v) :: r) m = bindL kd r (if kd n = some .local then fun y => if y = n then some v else m y else m) := rfl
theorem bindC_cons {kd : Str → Option NameKind} {n : Str} {v : Value} {r : List (Str × Value)} {m : Str → Option Value} : bindC kd ((n, v) :: r) m = bindC kd r (if kd n = some .local then m else fun y => if y = n then some v else m y) := rfl
theorem bindL_other {kd : Str → Option NameKind} : ∀ {ns : List Str} {vs : List Value} {m : Str → Option Value} {nm : Str}, nm ∉ ns → bindL kd (ns.zip vs) m nm = m nm
  | [], _, _, _, _ => rfl
  | _ :: _, [], _, _, _ => rfl
  | n :: ns, v :: vs, m, nm, h => by
    rw [List.zip_cons_cons, bindL_cons]
    rw [bindL_other (fun z => h (.tail _ z))]
    have : nm ≠ n := fun z => h (z ▸ .head _)
    split
    · simp [this]
    · rfl
theorem bindL_at {kd : Str → Option NameKind} : ∀ {ns : List Str} {vs : List Value} {m : Str → Option Value} {i : Nat} {nm : Str} {cv : Value}, ns.Nodup → ns[i]? = some nm → vs[i]? = some cv → kd nm = some .local → bindL kd (ns.zip vs) m nm = some cv
  | [], _, _, _, _, _, _, h, _, _ => by simp at h
  | _ :: _, [], _, _, _, _, _, _, h, _ => by simp at h
  | n :: ns, v :: vs, m, 0, nm, cv, nd, h1, h2, hk => by
    simp at h1 h2
    subst h1 h2
    rw [List.zip_cons_cons, bindL_cons]
    rw [bindL_other (List.nodup_cons.mp nd).1, if_pos hk]
    simp
  | n :: ns, v :: vs, m, i + 1, nm, cv, nd, h1, h2, hk => by
    rw [List.zip_cons_cons, bindL_cons]
    exact bindL_at (List.nodup_cons.mp nd).2 (by simpa using h1) (by simpa using h2) hk
theorem bindC_other {kd : Str → Option NameKind} : ∀ {ns : List Str} {vs : List Value} {m : Str → Option Value} {nm : Str}, nm ∉ ns → bindC kd (ns.zip vs) m nm = m nm
  | [], _, _, _, _ => rfl
  | _ :: _, [], _, _, _ => rfl
  | n :: ns, v :: vs, m, nm, h => by
    rw [List.zip_cons_cons, bindC_cons]
    rw [bindC_other (fun z => h (.tail _ z))]
    have : nm ≠ n := fun z => h (z ▸ .head _)
    split
    · rfl
    · simp [this]
theorem bindC_at {kd : Str → Option NameKind} : ∀ {ns : List Str} {vs : List Value} {m : Str → Option Value} {i : Nat} {nm : Str} {cv : Value}, ns.Nodup → ns[i]? = some nm → vs[i]? = some cv → kd nm ≠ some .local → bindC kd (ns.zip vs) m nm = some cv
  | [], _, _, _, _, _, _, h, _, _ => by simp at h
  | _ :: _, [], _, _, _, _, _, _, h, _ => by simp at h
  | n :: ns, v :: vs, m, 0, nm, cv, nd, h1, h2, hk => by
    simp at h1 h2
    subst h1 h2
    rw [List.zip_cons_cons, bindC_cons]
    rw [bindC_other (List.nodup_cons.mp nd).1, if_neg hk]
    simp
  | n :: ns, v :: vs, m, i + 1, nm, cv, nd, h1, h2, hk => by
    rw [List.zip_cons_cons, bindC_cons]
    exact bindC_at (List.nodup_cons.mp nd).2 (by simpa using h1) (by simpa using h2) hk

noncomputable def cxOfC (scope : Scope) (vars : List (Str × Bool)) (d u : Nat) : Cx := ⟨scope, vars, d, u, true, true, vars.length, none⟩
theorem fc_cells {fa : Addr} {name qual : Str} {params : Arguments} {body : List Stmt} {scope : Scope} {dV kV doc pm cdv ct oc : Value} {an od : Option Addr} {osl : Array (Option Value)} (vars : List (Str × Bool)) (k d u : Nat) {f : AM AF}
    (ho : W.K.lookup fa = some ⟨oc, od, .func (fnOf name qual params body scope dV kV doc pm an cdv ct), osl⟩) (hcd : codeIn W.K cdv qual = true)
    (hbind : ∀ (s : Shared) (cvs : List Value), cvs.length = ((vars.map (·.1)).take k).length → BindsTo s (fnOf name qual params body scope dV kV doc pm an cdv ct) ⟨cvs, []⟩ (((vars.map (·.1)).take k).zip cvs))
    (hk : scope.kind = .function) (hco : scope.isCoroutine = false) (hgen : scope.isGenerator = false)
    (hchk : (decide (vars.map (·.1)).Nodup && (vars.take k).all (fun y => decide (scope.names.lookup y.1 = some (if y.2 then .cell else .local))) && vars.all (fun y => !y.2 || ((cellsFrom 0 scope.names []).lookup y.1).isSome) && decide ((cellsFrom 0 scope.names []).map (·.1)).Nodup && decide (k ≤ vars.length)) = true)
    (hf : SB W (cxOfC scope vars d u) body f) : FC W fa (d + 1) (u + 3) (runBody vars.length k f) := by
  simp only [Bool.and_eq_true, decide_eq_true_eq, List.all_eq_true] at hchk
  obtain ⟨⟨⟨⟨h1, h2⟩, h3⟩, h4⟩, h5⟩ := hchk
  have hkl : ((vars.map (·.1)).take k).length = k := by rw [List.length_take, List.length_map]; omega
  intro c hc hl hd hu x ok s σ fps Z Y R vs cvs hvs v σ' e Rr kk
  obtain ⟨hp', e', rfl⟩ := lift_some e
  unfold runBody at e'
  split at e'
  · rename_i hlen
    obtain ⟨fl, σ₂, hfl, rfl, hv⟩ := finish_some e'
    obtain ⟨m, F, q⟩ := R.fr
    obtain ⟨oL, hoL⟩ := R.here
    have hcl : cvs.length = ((vars.map (·.1)).take k).length := by rw [hkl, ← hlen]; exact (All2.length hvs).symm
    have nd := h1.sublist (List.take_sublist k _)
    have kind : ∀ (i : Nat) nm, ((vars.map (·.1)).take k)[i]? = some nm → ∃ b, vars[i]? = some (nm, b) ∧ scope.names.lookup nm = some (if b then .cell else .local) := fun i nm g1 => by
      rw [List.getElem?_take] at g1
      split at g1
      · rename_i hik
        rw [List.getElem?_map] at g1
        cases e : vars[i]? with
        | none => rw [e] at g1; cases g1
        | some y =>
          rw [e] at g1; cases g1
          refine ⟨y.2, rfl, h2 y ?_⟩
          refine List.mem_of_getElem? (i := i) ?_
          rw [List.getElem?_take_of_lt hik, e]
      · cases g1
    refine codeAny_call_function (fd := fnOf name qual params body scope dV kV doc pm an cdv ct) (body := body) (Nat.lt_of_le_of_lt (Nat.le_add_right _ _) ok.dep) ((R.K ok) _ _ ho) rfl hco hgen rfl (codeRec_of (R.K ok) hcd) (hbind s cvs hcl _ _ _ _ ?_)
    refine wpAny_newFunctionEnv_cells hk (kindsX ?_ _) fun env' he s' xx => ?_
    · rw [List.all_eq_true]
      intro y hy
      obtain ⟨a, b⟩ := y
      obtain ⟨i, hi⟩ := List.getElem?_of_mem (List.of_mem_zip hy).1
      obtain ⟨bb, _, e2⟩ := kind i a hi
      show (scope.names.lookup a == some .local || scope.names.lookup a == some .cell) = true
      rw [e2]
      cases bb <;> rfl
    · subst he
      refine ⟨(R.T ok).nolimit.keeps xx.toInCall.keep, codeAny_func ?_⟩
      obtain ⟨h₁, tk, rfl, _⟩ := xx.done
      have hk₁ := xx.toInCall.keep
      generalize hL' : s.heap.objs.size = L' at *
      obtain ⟨cells, NC, CA⟩ := Cl.news (h₀ := s.heap) (Nat.le_of_eq hL') fun n c hm => ⟨xx.cell n c (lookup_of_mem_nodup (cellsFrom_names scope.names 0 (L' + 1) [] [] rfl ▸ h4) hm), xx.above n c hm⟩
      obtain ⟨cm1, cm2⟩ := cellsAre_mem CA
      obtain ⟨cs1, cs2⟩ := cellsFrom_snd scope.names (L' + 1) [] (by simp) (fun _ h => nomatch h)
      have ok' : FxOk W (cxOfC scope vars d u) (x.callee (envOfC qual scope L' fa cdv) (ground x s.heap fps Z Y) L' oL Y) := by
        refine callee_ok ok R hoL hc hl hd hu rfl hk rfl rfl rfl rfl h1 (fun y z a e1 e2 => ?_) (fun y a e => ?_) (ground_keep R) rfl
        · have m1 := mem_of_lookup e1
          have m2 := mem_of_lookup e2
          obtain ⟨i, hi⟩ := List.getElem?_of_mem m1
          obtain ⟨j, hj⟩ := List.getElem?_of_mem m2
          have q1 : ((cellsFrom (L' + 1) scope.names []).map (·.2))[i]? = some a := by rw [List.getElem?_map]; exact congrArg (Option.map (·.2)) hi
          have q2 : ((cellsFrom (L' + 1) scope.names []).map (·.2))[j]? = some a := by rw [List.getElem?_map]; exact congrArg (Option.map (·.2)) hj
          obtain ⟨l1, r1⟩ := List.getElem?_eq_some_iff.mp q1
          obtain ⟨l2, r2⟩ := List.getElem?_eq_some_iff.mp q2
          have hij : i = j := (List.getElem_inj cs1).mp (r1.trans r2.symm)
          subst hij
          rw [hi] at hj
          cases hj; rfl
        · rcases cs2 (y, a) (mem_of_lookup e) with z | z
          · cases z
          · rw [hL']; exact Nat.le_of_succ_le z
      have hnames : (cellsFrom (L' + 1) scope.names []).map (·.1) = (cellsFrom 0 scope.names []).map (·.1) := cellsFrom_names scope.names _ _ [] [] rfl
      have F' : Fr (ground x s.heap fps Z Y) L' h₁ (bindL (envOfC qual scope L' fa cdv).kindOf (((vars.map (·.1)).take k).zip cvs) fun _ => none) := ⟨xx.toInCall.ns, fun b o e => hk₁ b o (of_hideAll _ e), Nat.le_of_eq ((hideAll_size _ _).trans hL')⟩
      have R' : Rel W (cxOfC scope vars d u) (x.callee (envOfC qual scope L' fa cdv) (ground x s.heap fps Z Y) L' oL Y) h₁ ⟨vs.map some ++ List.replicate ((cxOfC scope vars d u).vars.length - ((vars.map (·.1)).take k).length) none, σ.hp⟩ fps Z (cells ++ (x.L, oL) :: Y) := by
        refine rel_args (x' := x.callee (envOfC qual scope L' fa cdv) (ground x s.heap fps Z Y) L' oL Y) (ns := (vars.map (·.1)).take k) (cvs := cvs) F' ?_ R.O hvs hcl ?_ ?_ ?_ ?_ (fun p hp => List.mem_append_right _ hp)
        · have HG := ground_led R hoL hk₁ (Nat.le_of_eq hL')
          have H : Led (ground x s.heap fps Z Y) L' h₁ (cells ++ (fps.flatten ++ (Z ++ (((x.L, oL) :: Y) ++ x.U)))) := by
            refine ⟨fun p hp => ?_, ?_⟩
            · rcases List.mem_append.mp hp with hp | hp
              · refine ⟨(NC p hp).1, (NC p hp).2.1, ?_⟩
                cases z : (ground x s.heap fps Z Y).get? p.1 with
                | none => rfl
                | some o => have := of_hideAll _ z; rw [(NC p hp).2.2] at this; cases this
              · exact HG.N p hp
            · rw [List.map_append, List.nodup_append, cm1]
              refine ⟨cs1, HG.D, fun a ha b hb e => ?_⟩
              obtain ⟨p, hp, rfl⟩ := List.mem_map.mp ha
              obtain ⟨r, hr, rfl⟩ := List.mem_map.mp hb
              have hr2 : r ∈ (x.L, oL) :: (fps.flatten ++ (Z ++ (Y ++ x.U))) := by
                simp only [List.mem_append, List.mem_cons] at hr ⊢
                rcases hr with a | a | (a | a) | a
                · exact .inr (.inl a)
                · exact .inr (.inr (.inl a))
                · exact .inl a
                · exact .inr (.inr (.inr (.inl a)))
                · exact .inr (.inr (.inr (.inr a)))
              have l1 : r.1 < L' := by
                rw [← hL']
                rcases List.mem_cons.mp hr2 with rfl | hr2
                · exact Heap.lt_size hoL
                · exact Heap.lt_size (R.N r hr2).1
              rcases cs2 p hp with z | z
              · cases z
              · rw [← e] at l1; exact absurd l1 (Nat.not_lt.mpr (Nat.le_of_succ_le z))
          have e9 : cells ++ (fps.flatten ++ (Z ++ (((x.L, oL) :: Y) ++ x.U))) = cells ++ (fps.flatten ++ (Z ++ ((x.L, oL) :: Y ++ x.U))) := rfl
          refine H.perm ?_
          have e8 : fps.flatten ++ (Z ++ ((cells ++ (x.L, oL) :: Y) ++ x.U)) = fps.flatten ++ (Z ++ (cells ++ (((x.L, oL) :: Y) ++ x.U))) := by simp
          show List.Perm _ (fps.flatten ++ (Z ++ ((cells ++ (x.L, oL) :: Y) ++ x.U)))
          rw [e8]
          exact perm_front.symm
        · intro i nm g1
          obtain ⟨b, e1, _⟩ := kind i nm g1
          exact ⟨b, e1⟩
        · rw [hkl]; exact h5
        · intro i nm cv g1 g2 g3
          obtain ⟨b, e1, e2⟩ := kind i nm g1
          have e3 : vars[i]? = some (nm, false) := g3
          rw [e1] at e3; cases e3
          exact bindL_at nd g1 g2 e2
        · intro i nm g3
          have e3 : vars[i]? = some (nm, true) := g3
          have hs : ((cellsFrom 0 scope.names []).lookup nm).isSome = true := by
            have := h3 _ (List.mem_of_getElem? e3)
            simpa using this
          obtain ⟨a0, ha0⟩ := Option.isSome_iff_exists.mp hs
          have : nm ∈ (cellsFrom (L' + 1) scope.names []).map (·.1) := by rw [hnames]; exact List.mem_map.mpr ⟨_, mem_of_lookup ha0, rfl⟩
          obtain ⟨p, hp, rfl⟩ := List.mem_map.mp this
          obtain ⟨b, hb1, hb2⟩ := lookup_some_of_mem (l := cellsFrom (L' + 1) scope.names []) (n := p.1) (a := p.2) hp
          obtain ⟨o, ho1, ho2⟩ := cm2 _ _ hb2
          refine ⟨b, o, _, hb1, List.mem_append_left _ ho1, ho2, fun cv g1 g2 => ?_⟩
          obtain ⟨bb, e1, e2⟩ := kind i _ g1
          rw [e1] at e3; cases e3
          refine bindC_at nd g1 g2 ?_
          show scope.names.lookup p.1 ≠ some .local
          rw [e2]; decide
      have e5 : ((cxOfC scope vars d u).vars.length - ((vars.map (·.1)).take k).length) = vars.length - k := by rw [hkl]; rfl
      rw [e5] at R'
      exact run_body (x := x) hf ok' rfl rfl rfl hoL R (ground_keep R) R' Ext.refl hfl hv kk
  · cases e'
end
end Mine

end
section
open PySem PySem.W PySem.Calls PyProof.Rows
set_option Elab.async false
namespace Mine
section
variable {W : Wd} {c : Cx}

/-! a class called -/
noncomputable def gClass (A0 : AO) (gI : HF) : HF := fun vs hp => match gI (.ref hp.length :: vs) (hp ++ [A0]) with
  | some (.none, hp') => some (.ref hp.length, hp')
  | _ => none
theorem fc_class {C fI : Addr} {d u : Nat} {gI : HF} {A0 : AO} (hI : FC W fI d u gI) (hm : makesIn W.K C = true) (hi : findIn W.K (.ref C) "__init__" = some (some (.ref fI))) (hf : isFn W.K (.ref fI) = true)
    (hA : ∀ ep ρ Z a b, OR W ep ρ Z A0 [(a, instObj C b), (b, dictOf [] 0)]) : FC W C (d + 1) (u + 5) (gClass A0 gI) := by
  intro c hc hl hd hu x ok s σ fps Z Y R vs cvs hvs v σ' e Rr k
  obtain ⟨hp', e', rfl⟩ := lift_some e
  unfold gClass at e'
  split at e'
  · rename_i hp₂ hg
    cases e'
    obtain ⟨m, F, q⟩ := R.fr
    obtain ⟨hAf, hfr, B⟩ := ok.call hc
    refine make_K F R.N (R.K ok) hm hi (beq_iff_eq.mp hf) fun a b h' F' N' hlt hab => ?_
    have ok1 : FxOk W { c with d := c.d - 1, u := c.u - 5 } { x with A := x.A.under (.builtin "type.__call__" ⟨.ref C :: cvs, []⟩) } := by
      refine ⟨ok.sc, ok.kind, ok.loc, ok.glob, ok.blt, ok.nd, ok.cinj, ok.X, ok.T, ?_, ?_, ok.hh, fun _ => ⟨?_, hfr, B⟩, ok.ap, ok.scr⟩
      · have := ok.dep
        show x.A.depth + 1 + (c.d - 1) < recursionLimit
        omega
      · have := ok.uni
        have h5 : (Code.builtin "type.__call__" ⟨.ref C :: cvs, []⟩).cUnits ≤ 5 := Nat.le_of_ble_eq_true rfl
        show x.A.units + (Code.builtin "type.__call__" ⟨.ref C :: cvs, []⟩).cUnits + (c.u - 5) < cLine
        omega
      · show pushEnvs [] x.A.frames = _
        rw [hAf]; rfl
    have X1 : Ext (rho fps) Z (rho (fps ++ [[(a, instObj C b), (b, dictOf [] 0)]])) Z := ⟨fun i a e => rho_app e, fun _ e => e⟩
    have hr : rho (fps ++ [[(a, instObj C b), (b, dictOf [] 0)]]) σ.hp.length = some a := by
      unfold rho
      rw [R.O.length, List.getElem?_append_right (Nat.le_refl _)]
      simp
    have R1 : Rel W { c with d := c.d - 1, u := c.u - 5 } { x with A := x.A.under (.builtin "type.__call__" ⟨.ref C :: cvs, []⟩) } h' { σ with hp := σ.hp ++ [A0] } (fps ++ [[(a, instObj C b), (b, dictOf [] 0)]]) Z Y := by
      have H : Led x.h₀ x.L h' ((a, instObj C b) :: (b, dictOf [] 0) :: (fps.flatten ++ (Z ++ (Y ++ x.U)))) := by
        refine ⟨N', ?_⟩
        rw [List.map_cons, List.nodup_cons, List.map_cons, List.nodup_cons]
        refine ⟨fun z => ?_, fun z => ?_, R.D⟩
        · rcases List.mem_cons.mp z with z | z
          · have : a = b := z
            exact absurd hab (this ▸ Nat.lt_irrefl _)
          · obtain ⟨p, hp, e⟩ := List.mem_map.mp z
            have h1 : p.1 < b := hlt p hp
            have e' : p.1 = a := e
            exact absurd (Nat.lt_trans h1 hab) (e' ▸ Nat.lt_irrefl _)
        · obtain ⟨p, hp, e⟩ := List.mem_map.mp z
          have h1 : p.1 < b := hlt p hp
          have e' : p.1 = b := e
          exact absurd h1 (e' ▸ Nat.lt_irrefl _)
      have H2 := H.perm (l' := (fps ++ [[(a, instObj C b), (b, dictOf [] 0)]]).flatten ++ (Z ++ (Y ++ x.U))) (by
        have : (fps ++ [[(a, instObj C b), (b, dictOf [] 0)]]).flatten ++ (Z ++ (Y ++ x.U)) = fps.flatten ++ (a, instObj C b) :: (b, dictOf [] 0) :: (Z ++ (Y ++ x.U)) := by simp
        rw [this]
        exact (List.perm_middle.trans (List.Perm.cons _ List.perm_middle)).symm)
      refine ⟨⟨m, F', fun j nm w h1 h2 => ?_⟩, fun j nm h1 => ?_, H2.N, H2.D, (R.O.mono fun _ _ y => OR.ext X1 y).append (.cons (hA _ _ _ _ _) .nil), R.G, R.V⟩
      · obtain ⟨cv, p1, p2⟩ := q j nm w h1 h2
        exact ⟨cv, p1, VR.ext X1 p2⟩
      · obtain ⟨a, o, co, p1, p2, p3, p4⟩ := R.ce j nm h1
        refine ⟨a, o, co, p1, p2, p3, fun v hv => ?_⟩
        obtain ⟨cv, p5, p6⟩ := p4 v hv
        exact ⟨cv, p5, VR.ext X1 p6⟩
    refine hI { c with d := c.d - 1, u := c.u - 5 } hc hl (by show d ≤ c.d - 1; omega) (by show u ≤ c.u - 5; omega) _ ok1 { s with heap := h' } _ _ Z Y R1 (.ref σ.hp.length :: vs) (.ref a :: cvs) (.cons ⟨a, hr, rfl⟩ (All2.mono (fun _ _ y => VR.ext X1 y) hvs)) .none { σ with hp := hp' }
      (by unfold lift; rw [hg]) _ fun h₂ tk₂ fps₂ Z₂ Y₂ cv R₂ X₂ p₂ => ?_
    cases p₂
    exact ⟨rfl, k h₂ tk₂ fps₂ Z₂ Y₂ (.ref a) ⟨R₂.fr, R₂.ce, R₂.N, R₂.D, R₂.O, R₂.G, R₂.V⟩ (X1.trans X₂) ⟨a, X₂.r _ _ hr, rfl⟩⟩
  · cases e'

/-! methods of the sorter -/
noncomputable def isSo (a : AV) (σ : AS) : Bool := match a with
  | .ref k => match σ.hp[k]? with
    | some (.sorter _ _ _ _) => true
    | _ => false
  | _ => false
structure MethS (W : Wd) (name : Str) (fa : Addr) : Prop where
  g : plainGet W.K W.Cs name = true
  f : findIn W.K (.ref W.Cs) name = some (some (.ref fa))
  t : isFn W.K (.ref fa) = true
  k : keepIn W.K (.ref fa) = true
  l : ∀ v1 v2 v3 v4 t1 t2 t3 t4, getL name [⟨PyData.keyHash W.w.params sName1, .str sName1 t1, v1⟩, ⟨PyData.keyHash W.w.params sName2, .str sName2 t2, v2⟩, ⟨PyData.keyHash W.w.params sName3, .str sName3 t3, v3⟩, ⟨PyData.keyHash W.w.params sName4, .str sName4 t4, v4⟩] = some none
theorem so_method {name : Str} {fa : Addr} (M : MethS W name fa) {x : Fx} (ok : FxOk W c x) {s : Shared} {σ : AS} {fps : List FP} {Z Y : FP} (R : Rel W c x s.heap σ fps Z Y) {a : AV} {ca : Value} (ha : VR (rho fps) Z a ca) (hp : isSo a σ = true) {pl : Sem Bool}
    {Q : Value × List Value → Shared → Prop} {E : Value → Shared → Prop} (k : Q (.ref fa, [ca]) s) : wpAny (model W.prog W.w) x.A (getMethod ca name pl) Q E s := by
  unfold isSo at hp
  split at hp
  · split at hp
    · rename_i p q r t hl
      obtain ⟨ad, hr, rfl⟩ := ha
      obtain ⟨f, hf, a1, b1, n, v1, v2, v3, v4, t1, t2, t3, t4, rfl, h1, h2, h3, h4⟩ := R.obj hl
      have hr' := rho_of hf rfl
      rw [hr] at hr'; cases hr'
      obtain ⟨m, F, _⟩ := R.fr
      exact method_inst F ok.X ⟨(R.at hf (.head _)).1, rfl, rfl, (R.at hf (.tail _ (.head _))).1⟩ M.g M.f M.t (M.l _ _ _ _ _ _ _ _) k
    · cases hp
  · cases hp
theorem se_mcall {name : Str} {fa : Addr} {d u : Nat} {G : HF} {o : Expr} {apos pos : Pos} {args : List Expr} {f : AM AV} {g : AM (List AV)} (M : MethS W name fa) (hG : FC W fa d u G) (ho : SE W c o f) (ha : SA W c pos args g)
    (hc : c.calls = true) (hl : c.loops = true) (hd : d ≤ c.d) (hu : u ≤ c.u) (hplain : ∀ env, (backTo pos (starEach args env)).any (·.1) = false)
    (he : ∀ env, ∃ pl, eval (.Call (.Attribute o name apos) args [] pos) env = (do
      let ov ← eval o env
      standAt apos.atName
      let (f, first) ← holding [ov] (getMethod ov name pl)
      callWith pos f first (backTo pos (starEach args env)) [])) :
    SE W c (.Call (.Attribute o name apos) args [] pos) (bnd f fun ov σ => if isSo ov σ then bnd g (fun vs => lift G (ov :: vs)) σ else none) := by
  intro x ok s σ fps Z Y R v σ' e Q E k
  obtain ⟨pl, hev⟩ := he x.env
  refine MethodCall_ (pl := pl) (ho.bind ok R e fun a σ₁ h₁ tk₁ fps₁ Z₁ Y₁ ca _ e₁ R₁ X₁ p₁ => ?_) hev
  split at e₁
  · rename_i hpa
    refine so_method (s := { s with heap := h₁, toks := tk₁ }) M ok R₁ p₁ hpa ?_
    refine callWith_of (P := fun hh => W.K.In hh) (by rw [hplain]; rfl) (keeps_K M.k) (evalArgs_of (hplain _) ?_)
    refine ha.bind (s := { s with heap := h₁, toks := tk₁ }) ok R₁ e₁ fun vs σ₂ h₂ tk₂ fps₂ Z₂ Y₂ cvs _ e₂ R₂ X₂ p₂ => ⟨R₂.K ok, ?_⟩
    exact hG.prim hc hl hd hu x ok _ σ₂ fps₂ Z₂ Y₂ R₂ (a :: vs) (ca :: cvs) (.cons (VR.ext X₂ p₁) p₂) v σ' e₂ Q E ((k.ext X₁ h₁ tk₁).ext X₂ h₂ tk₂)
  · cases e₁
/-- a bound method, made and called with starred arguments -/
structure BindS (W : Wd) (name : Str) (fa : Addr) : Prop where
  g : plainGet W.K W.Cs name = true
  t : isFn W.K (.ref fa) = true
  f : fnIn W.K fa = true
  b : ∀ v1 v2 v3 v4 t1 t2 t3 t4 n, findObj W.K W.Cs (some (dictOf [⟨PyData.keyHash W.w.params sName1, .str sName1 t1, v1⟩, ⟨PyData.keyHash W.w.params sName2, .str sName2 t2, v2⟩, ⟨PyData.keyHash W.w.params sName3, .str sName3 t3, v3⟩, ⟨PyData.keyHash W.w.params sName4, .str sName4 t4, v4⟩] n)) name = some (.bind (.builtin "function.__get__") (.ref fa))
theorem se_mcallS {name : Str} {fa : Addr} {d u : Nat} {G : HF} {o a0 : Expr} {apos pos : Pos} {rest : List Expr} {f : AM AV} {g : AM (List AV)} (M : BindS W name fa) (hG : FC W fa d u G) (ho : SE W c o f) (ha : SA W c pos (a0 :: rest) g)
    (hc : c.calls = true) (hl : c.loops = true) (hd : d ≤ c.d) (hu : u ≤ c.u) (h1 : ∀ env, starEach (a0 :: rest) env = (false, eval a0 env) :: starEach rest env) (h2 : ∀ env, (backTo pos (starEach rest env)).any (·.1) = true)
    (he : ∀ env, eval (.Call (.Attribute o name apos) (a0 :: rest) [] pos) env = (do
      let ov ← eval o env
      standAt apos.atName
      let fx ← holding [ov] (do pure (← getAttr ov name true, ([] : List Value)))
      callWith pos fx.1 fx.2 (backTo pos (starEach (a0 :: rest) env)) [])) :
    SE W c (.Call (.Attribute o name apos) (a0 :: rest) [] pos) (bnd f fun ov σ => if isSo ov σ then bnd g (fun vs => lift G (ov :: vs)) σ else none) := by
  intro x ok s σ fps Z Y R v σ' e Q E k
  show wpAny _ _ (eval _ _) _ _ _
  rw [he]
  refine wpAny_bind (ho.bind ok R e fun a σ₁ h₁ tk₁ fps₁ Z₁ Y₁ ca _ e₁ R₁ X₁ p₁ => ?_)
  refine wpAny_bind (wpAny_standAt (wpAny_bind (wpAny_holding (wpAny_bind ?_))))
  split at e₁
  · rename_i hpa
    have hpa' := hpa
    unfold isSo at hpa
    split at hpa
    · split at hpa
      · rename_i p q r t hl1
        have p₁' := p₁
        obtain ⟨ad, hr, rfl⟩ := p₁
        obtain ⟨fp, hf, a1, b1, n, v1, v2, v3, v4, t1, t2, t3, t4, rfl, g1, g2, g3, g4⟩ := R₁.obj hl1
        have hr' := rho_of hf rfl
        rw [hr] at hr'; cases hr'
        have I : InstAt h₁ ad (instObj W.Cs b1) W.Cs (some (dictOf [⟨PyData.keyHash W.w.params sName1, .str sName1 t1, v1⟩, ⟨PyData.keyHash W.w.params sName2, .str sName2 t2, v2⟩, ⟨PyData.keyHash W.w.params sName3, .str sName3 t3, v3⟩, ⟨PyData.keyHash W.w.params sName4, .str sName4 t4, v4⟩] n)) :=
          ⟨(R₁.at hf (.head _)).1, rfl, rfl, (R₁.at hf (.tail _ (.head _))).1⟩
        have X := R₁.K ok
        refine get_bind (s := { s with heap := h₁, toks := tk₁ }) X I (plainGet_of M.g).1 (M.b _ _ _ _ _ _ _ _ _) (plainGet_of M.g).2 (wpAny_call (fn_get (s := { s with heap := h₁, toks := tk₁ + 1 }) X (beq_iff_eq.mp M.t) ?_))
        show wpAny _ _ (handedOut (.ref h₁.objs.size)) _ _ _
        rw [handedOut_of rfl]
        refine wpAny_pure (wpAny_pure ?_)
        have R₂ := R₁.aside (o := methodObj (.ref fa) (.ref ad)) rfl
        have ok₂ : FxOk W c { x with U := (h₁.objs.size, methodObj (.ref fa) (.ref ad)) :: x.U } := ⟨ok.sc, ok.kind, ok.loc, ok.glob, ok.blt, ok.nd, ok.cinj, ok.X, ok.T, ok.dep, ok.uni, ok.hh, ok.call, ok.ap, ok.scr⟩
        show wpAny _ _ (callWith pos (.ref h₁.objs.size) [] _ []) _ _ _
        have h1' := h1 x.env
        rw [h1']
        refine ks_call (P := MethP W.K h₁.objs.size fa (.ref ad)) (by show (false || (backTo pos (starEach rest x.env)).any (·.1)) = true; rw [h2]; rfl) (keeps_M M.f) (evalArgs_plain ?_)
        show wpAny _ _ (spliced (backTo pos ((false, eval a0 x.env) :: starEach rest x.env))) _ _ _
        rw [← h1']
        refine ha.bind (x := { x with U := (h₁.objs.size, methodObj (.ref fa) (.ref ad)) :: x.U }) (s := { s with heap := h₁.push (methodObj (.ref fa) (.ref ad)), toks := tk₁ + 1 }) ok₂ R₂ e₁ fun vs σ₂ h₂ tk₂ fps₂ Z₂ Y₂ cvs _ e₂ R₃ X₂ p₂ => ?_
        have hq : h₂.get? h₁.objs.size = some (methodObj (.ref fa) (.ref ad)) := R₃.asideAt
        refine ⟨⟨hq, R₃.K ok₂⟩, wpAny_call (method_call (s := { s with heap := h₂, toks := tk₂ }) hq ?_)⟩
        exact hG c hc hl hd hu x ok { s with heap := h₂, toks := tk₂ } σ₂ fps₂ Z₂ Y₂ R₃.dropAside (_ :: vs) (.ref ad :: cvs) (.cons (VR.ext X₂ p₁') p₂) v σ' e₂ _ ((k.ext X₁ h₁ tk₁).ext X₂ h₂ tk₂)
      · cases hpa
    · cases hpa
  · cases e₁

/-! a starred argument -/
noncomputable def pSplat (a : AV) : AM (List AV) := fun σ => match a with
  | .li l => if l.length < 1000 then some (l.map .int, σ) else none
  | _ => none
theorem sa_star {pos p : Pos} {e : Expr} {r : List Expr} {f : AM AV} {g : AM (List AV)} (h : SE W c e f) (hr : SA W c pos r g) (he : ∀ env, starEach (.Starred e p :: r) env = (true, eval e env) :: starEach r env) :
    SA W c pos (.Starred e p :: r) (bnd f fun v => bnd (pSplat v) fun hs => bnd g fun l => ok (hs ++ l)) := by
  intro x ok s σ fps Z Y R v σ' e Q E k
  refine items_star (h.bind ok R e fun a σ₁ h₁ tk₁ fps₁ Z₁ Y₁ ca _ e₁ R₁ X₁ p₁ => ?_) (he _)
  obtain ⟨hs, σ₂, e₂, e₃⟩ := bnd_some e₁
  unfold pSplat at e₂
  split at e₂
  · split at e₂
    · rename_i l hlt
      cases e₂
      obtain ⟨ad, vs, n, rfl, hm, hi⟩ := p₁
      obtain ⟨m, F, q⟩ := R₁.fr
      have hlen := hi.length
      refine star_seq (s := { s with heap := h₁, toks := tk₁ }) (its := vs.toArray) (n := n) F R₁.N (List.mem_append_right _ (List.mem_append_left _ hm)) rfl rfl (.inl rfl) rfl (by rw [List.size_toArray]; have := sizeLine_eq; omega) fun h' F' N' => ?_
      have R₂ : Rel W c x h' σ₁ fps₁ Z₁ Y₁ := ⟨⟨m, F', q⟩, R₁.ce, N', R₁.D, R₁.O, R₁.G, R₁.V⟩
      refine hr.bind (s := { s with heap := h', toks := tk₁ }) ok R₂ e₃ fun l₂ σ₃ h₃ tk₃ fps₃ Z₃ Y₃ cl _ e₄ R₃ X₃ p₃ => ?_
      cases e₄
      exact k h₃ tk₃ fps₃ Z₃ Y₃ _ R₃ (X₁.trans X₃) ((map_all2 hi).append p₃)
    · cases e₂
  · cases e₂

/-! two targets -/
theorem sx_assignTwo {o i value : Expr} {nm : Str} {p' p'' pos : Pos} {f g h : AM AV} {j : Nat} (hf : SE W c value f) (hg : SE W c o g) (hh : SE W c i h) (hst : Prim1 UR W c (fun x v => storeName x.env nm v) (pStore j))
    (he : ∀ env, (assignEach [.Subscript o i p', .Name nm p''] env).map (·.2) = [assign (.Subscript o i p') env, assign (.Name nm p'') env]) (hw : ∀ env, swappedStores [.Subscript o i p', .Name nm p''] value env = pure none) :
    SX W c (.Assign [.Subscript o i p', .Name nm p''] value pos) (bnd f fun v => bnd g fun a => bnd h fun b => bnd (pSetItem v a b) fun _ => bnd (pStore j v) fun _ => ok .next) := by
  intro x ok s σ fps Z Y R v σ' e Q E k
  refine wpAny_Assign_two (hf.bind ok R e fun u σ₁ h₁ tk₁ fps₁ Z₁ Y₁ cu _ e₁ R₁ X₁ p₁ => ?_) (he _) (hw _)
  rw [assign_Subscript]
  refine wpAny_bind (wpAny_holding (hg.bind (s := { s with heap := h₁, toks := tk₁ }) ok R₁ e₁ fun a σ₂ h₂ tk₂ fps₂ Z₂ Y₂ ca _ e₂ R₂ X₂ p₂ => ?_))
  refine wpAny_bind (wpAny_holding (hh.bind (s := { s with heap := h₂, toks := tk₂ }) ok R₂ e₂ fun b σ₃ h₃ tk₃ fps₃ Z₃ Y₃ cb _ e₃ R₃ X₃ p₃ => ?_))
  refine wpAny_bind (wpAny_standAt ?_)
  obtain ⟨_, σ₄, e₄, e₅⟩ := bnd_some e₃
  obtain ⟨_, σ₅, e₆, e₇⟩ := bnd_some e₅
  cases e₇
  refine wpAny_bind (wpAny_holding (prim_setItem (s := { s with heap := h₃, toks := tk₃ }) ok R₃ (VR.ext (X₂.trans X₃) p₁) (VR.ext X₃ p₂) p₃ e₄ fun h₄ tk₄ fps₄ Z₄ Y₄ _ R₄ X₄ _ => ?_))
  refine wpAny_release ?_
  exact wpAny_assign_Name (hst x ok { s with heap := h₄, toks := tk₄ } σ₄ fps₄ Z₄ Y₄ R₄ u cu (VR.ext ((X₂.trans X₃).trans X₄) p₁) _ _ e₆ _ E fun h₅ tk₅ fps₅ Z₅ Y₅ _ R₅ X₅ _ => k h₅ tk₅ fps₅ Z₅ Y₅ _ R₅ ((((X₁.trans X₂).trans X₃).trans X₄).trans X₅) rfl)
end
end Mine

end
section
open PySem PySem.W PySem.Calls PyProof.Rows
set_option Elab.async false
namespace Mine
theorem slot_wget : Slot "wrapper_descriptor" "__get__" "wrapper_descriptor.__get__" :=
  .of (owner := "wrapper_descriptor") (n := "__get__") (by rw [typeLookup_type, builtinLookup_eq_fast]; kernel_rfl) (by decide +kernel) (by decide +kernel) (by decide +kernel)
    (by first | exact .inl (by decide +kernel) | exact .inr (by decide +kernel)) (by rw [isSubtype_type]; kernel_rfl)
theorem entry_wget : entryFor table "wrapper_descriptor.__get__" = some Builtin.«wrapper_descriptor.__get__» := entryFor_of_tree (by kernel_rfl)
theorem args_wget (a b c : Value) : argsOk "wrapper_descriptor.__get__" ⟨[a, b, c], []⟩ := by unfold argsOk; kernel_rfl
theorem type_lin : typeOf (.builtin "list_iterator.__next__") = pure (.type "wrapper_descriptor") := by show builtinType _ = _; rw [builtinType_eq_fast]; kernel_rfl
theorem owner_lin : (kfb_private% "ownerAndName") "list_iterator.__next__" = ("list_iterator", "__next__") := by first | decide +kernel | kernel_rfl
theorem slot_lga : Slot "list_iterator" "__getattribute__" "object.__getattribute__" :=
  .of (owner := "object") (n := "__getattribute__") (by rw [typeLookup_type, builtinLookup_eq_fast]; kernel_rfl) (by decide +kernel) (by decide +kernel) (by decide +kernel)
    (by first | exact .inl (by decide +kernel) | exact .inr (by decide +kernel)) (by rw [isSubtype_type]; kernel_rfl)
theorem entry_oga : entryFor table "object.__getattribute__" = some Builtin.«object.__getattribute__» := entryFor_of_tree (by kernel_rfl)
theorem args_oga (a b : Value) : argsOk "object.__getattribute__" ⟨[a, b], []⟩ := by unfold argsOk; kernel_rfl
theorem sub_lit : isSubtype (.type "list_iterator") (.type "list_iterator") = pure true := by rw [isSubtype_type]; kernel_rfl
theorem stores_lin : Builtin.ObjectAttr.takesStores (.builtin "list_iterator.__next__") = pure false := by first | rfl | kernel_rfl
noncomputable abbrev mwOf (it : Addr) : Obj := { cls := .type "method-wrapper", data := .fields #[.builtin "list_iterator.__next__", .ref it] }
section
variable {prog : Program} {w : World} {M : Model} {A : Around} {E : Value → Shared → Prop} {s : Shared}
theorem run_wget {it : Addr} {P : PySem.Fin → Shared → Prop} (hT : s.TypeIs (.ref it) "list_iterator") (h : P (.done (.ret (.ref s.heap.objs.size))) { s with heap := s.heap.push (mwOf it) }) :
    wpAny M A (Builtin.«wrapper_descriptor.__get__» ⟨[.builtin "list_iterator.__next__", .ref it, .type "list_iterator"], []⟩) P E s := by
  unfold Builtin.«wrapper_descriptor.__get__»
  refine wpAny_bind (wpAny_of_eq (a := (.builtin "list_iterator.__next__", some (.ref it), some (.type "list_iterator"))) (by first | rfl | kernel_rfl) ?_)
  show wpAny M A ((kfb_private% "checkInstance") (.builtin "list_iterator.__next__") (.ref it) >>= fun _ => newFields "method-wrapper" [.builtin "list_iterator.__next__", .ref it] >>= ret) P E s
  refine wpAny_bind ?_
  have e : (kfb_private% "nameAndClass") (.builtin "list_iterator.__next__") = pure (("__next__" : Str), .type "list_iterator") := by first | rfl | kernel_rfl
  show wpAny M A ((kfb_private% "nameAndClass") (.builtin "list_iterator.__next__") >>= _) _ E s
  rw [e]
  refine wpAny_bind (wpAny_pure ?_)
  refine wpAny_bind (wpAny_isInstance (T := "list_iterator") (b := true) hT sub_lit ?_)
  refine KFB.if_not rfl ?_
  exact wpAny_pure (wpAny_bind (wpAny_newObj_type (wpAny_pure h)))
theorem run_oga {it : Addr} {o : Obj} {vs : Array Value} {tk : Tok} {P : PySem.Fin → Shared → Prop} (ho : s.heap.get? it = some o) (hc : o.cls = .type "list_iterator") (hn : o.dict = none) (hd : o.data = .fields vs) (h : P (.done (.ret (.ref s.heap.objs.size))) { s with heap := s.heap.push (mwOf it) }) :
    wpAny (model prog w) A (Builtin.«object.__getattribute__» ⟨[.ref it, .str (Str.ofString "__next__") tk], []⟩) P E s := by
  have hT : s.TypeIs (.ref it) "list_iterator" := ⟨o, ho, hc⟩
  unfold Builtin.«object.__getattribute__»
  refine wpAny_bind (wpAny_of_eq (a := (.ref it, [.str (Str.ofString "__next__") tk])) (by first | rfl | kernel_rfl) ?_)
  dsimp only
  refine wpAny_bind (wpAny_of_eq (a := Str.ofString "__next__") (by first | rfl | kernel_rfl) ?_)
  refine wpAny_bind (wpAny_typeOf hT ?_)
  unfold Builtin.ObjectAttr.find
  refine wpAny_bind (wpAny_bind (wpAny_of_eq slot_listiter_next.lookup ?_))
  refine wpAny_bind (wpAny_bind (wpAny_of_eq type_lin (wpAny_of_eq slot_wget.lookup ?_)))
  refine wpAny_bind (wpAny_of_eq (a := none) (by first | rfl | kernel_rfl) ?_)
  show wpAny _ _ (Builtin.ObjectAttr.ownThenClass _ _ _ _) _ _ _
  unfold Builtin.ObjectAttr.ownThenClass Builtin.ObjectAttr.inOwnDict Builtin.ObjectAttr.ownDict
  refine wpAny_bind (wpAny_bind (wpAny_bind (wpAny_loadPart ho ?_)))
  rw [hd]
  show wpAny _ _ (instanceDict it false) _ _ _
  unfold instanceDict
  refine wpAny_bind (wpAny_loadPart ho ?_)
  rw [hc, hn]
  refine wpAny_pure (wpAny_pure ?_)
  refine wpAny_bind (wpAny_of_eq (a := ()) (by first | rfl | kernel_rfl) ?_)
  refine wpAny_bind (wpAny_rule (wpAny_pure ?_))
  show wpAny _ _ (Builtin.ObjectAttr.bindTo (.builtin "wrapper_descriptor.__get__") (.builtin "list_iterator.__next__") (.ref it) (.type "list_iterator")) _ _ _
  show wpAny _ _ (holding [.builtin "list_iterator.__next__"] (call (.builtin "wrapper_descriptor.__get__") [.builtin "list_iterator.__next__", .ref it, .type "list_iterator"]) >>= fun v => ret v) _ _ _
  refine wpAny_bind (wpAny_holding (wpAny_call_entry slot_wget type_lin entry_wget (run_wget hT ⟨_, rfl, wpAny_pure h⟩) (args_wget _ _ _)))
theorem attr_next {it : Addr} {o : Obj} {vs : Array Value} {expr : Bool} {Q : Value → Shared → Prop} (ho : s.heap.get? it = some o) (hc : o.cls = .type "list_iterator") (hn : o.dict = none) (hd : o.data = .fields vs)
    (h : Q (.ref s.heap.objs.size) { s with heap := s.heap.push (mwOf it), toks := s.toks + 1 }) : wpAny (model prog w) A (getAttr (.ref it) (Str.ofString "__next__") expr) Q E s := by
  have hT : ∀ t, ({ s with toks := t } : Shared).TypeIs (.ref it) "list_iterator" := fun _ => ⟨o, ho, hc⟩
  unfold getAttr getAttrBy
  refine wpAny_bind (wpAny_mkText (wpAny_holding (wpAny_bind (wpAny_typeOf (hT _) (wpAny_bind (wpAny_of_eq slot_lga.lookup ?_))))))
  show wpAny _ _ (getAttrByItsOwn (.ref it) (.str (Str.ofString "__next__") s.toks) (.type "list_iterator") (.builtin "object.__getattribute__") true expr) _ _ _
  unfold getAttrByItsOwn hookBefore
  refine wpAny_bind (wpAny_of_eq (show (if onTheHeap (.type "list_iterator") then typeLookup (.type "list_iterator") "__getattr__" else pure none) = pure none from rfl) ?_)
  have ec : callGetattribute (.ref it) (.str (Str.ofString "__next__") s.toks) (.builtin "object.__getattribute__") expr = boundAndCalled (.builtin "object.__getattribute__") (.ref it) (.str (Str.ofString "__next__") s.toks) := by cases expr <;> rfl
  rw [ec]
  unfold boundAndCalled
  refine wpAny_bind (wpAny_attempt (wpAny_holding ?_))
  show wpAny _ _ (bindSpecial (.builtin "object.__getattribute__") (.ref it) >>= _) _ _ _
  refine wpAny_bind (wpAny_of_eq (slot_lga.bind _) ?_)
  refine wpAny_mono (Q := fun v s' => v = .ref s.heap.objs.size ∧ s' = { s with heap := s.heap.push (mwOf it), toks := s.toks + 1 }) (E := fun _ _ => False)
    (wpAny_call_entry slot_lga (hT _) entry_oga (run_oga (s := { s with toks := s.toks + 1 }) ho hc hn hd ⟨_, rfl, rfl, rfl⟩) (args_oga _ _)) (fun v s' hv => ?_) fun _ _ z => z.elim
  obtain ⟨rfl, rfl⟩ := hv
  exact wpAny_pure h
/-! the wrapper called -/
theorem looks_mw {h : Heap} {mw it : Addr} (ho : h.get? mw = some (mwOf it)) : Looks M h (keeperOf (.ref mw)) .machine := by
  intro A Q E s k q
  unfold keeperOf
  refine wpAny_bind (wpAny_load (k _ _ ho) ?_)
  exact wpAny_pure q
theorem bound_lin (a : Value) : checkBoundCall "list_iterator.__next__" ⟨[a], []⟩ = pure () := by first | kernel_rfl | rfl
theorem quiet_lin {as : Args} : (Code.builtin "list_iterator.__next__" as).quiet = true := Code.quiet_builtin _ (by decide +kernel)
theorem call_mw {mw it : Addr} {Rr : Result → Shared → Prop} (ho : s.heap.get? mw = some (mwOf it)) (h : codeAny (model prog w) A (.builtin "list_iterator.__next__" ⟨[.ref it], []⟩) Rr s) :
    codeAny (model prog w) A (.call (.ref mw) ⟨[], []⟩) Rr s := by
  refine codeAny_of_tree ?_
  show wpAny _ A.in1 (callAny (.ref mw) ⟨[], []⟩) _ _ s
  simp only [callAny]
  refine wpAny_bind (wpAny_load ho ?_)
  simp only [show (Value.type "method-wrapper" == Value.type "method" || Value.type "method-wrapper" == Value.type "builtin_function_or_method" || Value.type "method-wrapper" == Value.type "method-wrapper") = true by decide, if_true]
  refine KFB.if_so (by decide) ?_
  refine wpAny_bind (wpAny_of_eq (a := ()) (bound_lin _) ?_)
  refine wpAny_bind (wpAny_pure (wpAny_pure ?_))
  exact ⟨quiet_lin, h⟩
theorem mw_item {it l : Addr} {i : Nat} {items : Array Value} {x : Value} {Rr : Result → Shared → Prop} (hit : s.heap.IsListIter it l i) (hl : s.heap.IsList l items) (hx : items[i]? = some x)
    (hQ : ∀ h', h'.IsListIter it l (i + 1) → Heap.SameBut it s.heap h' → Rr (.ok (.ret x)) { s with heap := h' }) : codeAny (model prog w) A (.builtin "list_iterator.__next__" ⟨[.ref it], []⟩) Rr s := by
  obtain ⟨o, ho, hc, hd⟩ := id hit
  obtain ⟨ol, hol, _, nl, hdl⟩ := hl
  refine codeAny_builtin entry_listiter_next ?_
  show wpAny _ _ (field (.ref it) 0 >>= _) _ _ s
  refine wpAny_bind (wpAny_field ho hd (x := .ref l) rfl ?_)
  show wpAny _ _ (if (Value.ref l == Value.none) = true then _ else _) _ _ s
  rw [if_neg (show ¬ ((Value.ref l == Value.none) = true) from Bool.false_ne_true)]
  show wpAny _ _ (field (.ref it) 1 >>= _) _ _ s
  refine wpAny_bind (wpAny_field ho hd (x := .int i 0) rfl ?_)
  show wpAny _ _ (seqItems? (.ref l) >>= _) _ _ s
  refine wpAny_bind (wpAny_seqItems hol hdl ?_)
  simp only [Int.toNat_natCast, hx]
  refine wpAny_bind (wpAny_setField ho hd (by simp) (wpAny_pure (hQ _ ?_ (Heap.SameBut.update ..))))
  exact ⟨_, Heap.get?_update_self _ ho (Obj.isFreed_of_fields (Obj.data_mapFields hd _)), (Obj.cls_mapFields ..).trans hc, by
    rw [Obj.data_mapFields hd]; simp [rawInt]⟩
/-- an exception of the interpreter, new -/
structure StopAt (h h' : Heap) (it e : Addr) : Prop where
  ext : Heap.ExtBut it h h'
  new : h.get? e = none
  obj : ∃ oe vs, h'.get? e = some oe ∧ oe.cls = .type "StopIteration" ∧ oe.data = .fields vs ∧ vs[1]? = some .none
theorem mw_end {it l : Addr} {i : Nat} {items : Array Value} {Rr : Result → Shared → Prop} (hh : A.handled = none) (hit : s.heap.IsListIter it l i) (hl : s.heap.IsList l items) (hx : items[i]? = none)
    (hQ : ∀ h' e, StopAt s.heap h' it e → Rr (.error (.ref e)) { s with heap := h' }) : codeAny (model prog w) A (.builtin "list_iterator.__next__" ⟨[.ref it], []⟩) Rr s := by
  obtain ⟨o, ho, hc, hd⟩ := id hit
  obtain ⟨ol, hol, _, nl, hdl⟩ := hl
  refine codeAny_builtin entry_listiter_next ?_
  show wpAny _ _ (field (.ref it) 0 >>= _) _ _ s
  refine wpAny_bind (wpAny_field ho hd (x := .ref l) rfl ?_)
  show wpAny _ _ (if (Value.ref l == Value.none) = true then _ else _) _ _ s
  rw [if_neg (show ¬ ((Value.ref l == Value.none) = true) from Bool.false_ne_true)]
  show wpAny _ _ (field (.ref it) 1 >>= _) _ _ s
  refine wpAny_bind (wpAny_field ho hd (x := .int i 0) rfl ?_)
  show wpAny _ _ (seqItems? (.ref l) >>= _) _ _ s
  refine wpAny_bind (wpAny_seqItems hol hdl ?_)
  simp only [Int.toNat_natCast, hx]
  refine wpAny_bind (wpAny_rule (wpAny_bind (wpAny_setField ho hd (by simp) ?_)))
  show wpAny _ _ (newExc (.type "StopIteration") [] >>= _) _ _ _
  refine wpAny_bind ?_
  simp only [newExc, newTuple]
  refine wpAny_bind (wpAny_newObj_type ?_ (by size_fits))
  refine wpAny_bind (m := firstArgMember _ _) (wpAny_of_eq (a := Value.none) (by first | rfl | (simp only [firstArgMember]; rfl)) ?_)
  refine wpAny_newObj_type ?_ (by size_fits)
  simp only [raiseNew]
  refine wpAny_bind (wpAny_handled ?_)
  rw [show (A.under (Code.builtin "list_iterator.__next__" { pos := [Value.ref it] })).handled = none from hh]
  refine wpAny_throw ?_
  refine hQ _ _ ⟨((Heap.SameBut.update ..).extBut.push _).push _, ?_, _, _, Heap.get?_push_size _ rfl, rfl, rfl, by first | rfl | simp⟩
  exact Heap.get?_none_of_le (by rw [Heap.size_push]; exact Nat.le_succ_of_le (Nat.le_of_eq (Heap.size_after_update ..).symm))
end
end Mine

end
section
open PySem PySem.W PySem.Calls PyProof.Rows
set_option Elab.async false
namespace Mine

/-- what a raise that is caught leaves as it was -/
noncomputable def Kept (S : List Addr) (e : Addr) (h h' : Heap) : Prop := ∀ b o, b ≠ e → h.get? b = some o → (b ∉ S → h'.get? b = some o) ∧ ∃ sl, h'.get? b = some { o with slots := sl }

section
variable {M : Model} {A : Around} {E : Value → Shared → Prop} {s : Shared}
theorem note_deep {base : Heap} {env : Env} {outer : List Env} {L e : Addr} {oe : Obj} {vs : Array Value} {Q : Unit → Shared → Prop} (hfr : A.frames = some (env :: outer)) (hl : s.heap.FunFrames base (env :: outer)) (hf : env.frame = some L)
    (he : s.heap.get? e = some oe) (hd : oe.data = .fields vs) (h1 : vs[1]? = some .none)
    (h : ∀ h' tb otb tvs, Kept ((env :: outer).filterMap (·.frame)) e s.heap h' → s.heap.get? tb = none → h'.get? e = some (oe.mapFields (·.setIfInBounds 1 (.ref tb))) → h'.get? tb = some otb → otb.data = .fields tvs → 3 < tvs.size → Q () { s with heap := h' }) :
    wpAny M A (noteFrame (.ref e) env) Q E s := by
  have hsz : 1 < vs.size := (Array.getElem?_eq_some_iff.mp h1).1
  have hene : e ∉ (env :: outer).filterMap (·.frame) := fun hm => by
    obtain ⟨_, o, ho, hnf⟩ := hl.mem hm
    rw [he] at ho; injection ho with ho; subst ho; exact hnf vs hd
  unfold noteFrame
  simp only [hf]
  refine wpAny_bind (wpAny_field he hd h1 ?_)
  rw [if_neg (by decide)]
  refine wpAny_bind (wpAny_frameOf_fun hfr hl hf fun h₁ hs₁ => ?_)
  refine wpAny_bind (wpAny_entryPlaceOf fun pl hpl => ?_)
  unfold EntryCells.newEntry newFields
  refine wpAny_bind (wpAny_newObj_type ?_ (hpl.sizeOk5 _ _ _ _ _))
  have he₁ : h₁.get? e = some oe := (hs₁.2.1 e hene).trans he
  have he₂ := Heap.get?_push_of_some (h := h₁) { cls := .type "traceback", dict := none, data := .fields ([Value.none, .ref L, .none, rawInt L, .none] ++ (if pl.isEmpty then List.replicate 6 Value.none else pl)).toArray } he₁
  refine wpAny_setField he₂ hd hsz ?_
  have hTe : h₁.objs.size ≠ e := Nat.ne_of_gt (Heap.lt_size he₁)
  have hd₃ := Obj.data_mapFields hd (·.setIfInBounds 1 (Value.ref h₁.objs.size))
  refine h _ h₁.objs.size { cls := .type "traceback", dict := none, data := .fields ([Value.none, .ref L, .none, rawInt L, .none] ++ (if pl.isEmpty then List.replicate 6 Value.none else pl)).toArray } _ (fun b o hbe hb => ?_) (Heap.get?_none_of_le (by rw [hs₁.1]; exact Nat.le_refl _)) (Heap.get?_update_self _ he₂ (Obj.isFreed_of_fields hd₃)) ?_ rfl ?_
  · rw [Heap.get?_update_other _ _ (Ne.symm hbe)]
    refine ⟨fun hS => Heap.get?_push_of_some _ ((hs₁.2.1 b hS).trans hb), ?_⟩
    obtain ⟨sl, e'⟩ := hs₁.2.2 b o hb
    exact ⟨sl, Heap.get?_push_of_some _ e'⟩
  · rw [Heap.get?_update_other _ _ (Ne.symm hTe)]
    exact Heap.get?_push_size h₁ rfl
  · simp only [List.size_toArray, List.length_append, List.length_cons, List.length_nil]; omega
end

section
variable {prog : Program} {w : World} {A : Around} {E : Value → Shared → Prop} {s : Shared}
/-- from the raise into the handler's suite -/
theorem into_handler {base : Heap} {env : Env} {outer : List Env} {L e : Addr} {oe : Obj} {vs : Array Value} {t : Expr} {b₀ : Stmt} {suite : List Stmt} {hpos : Pos} {Q : Flow → Shared → Prop} (hfr : A.frames = some (env :: outer)) (hl : s.heap.FunFrames base (env :: outer)) (hf : env.frame = some L)
    (he : s.heap.get? e = some oe) (hcl : oe.cls = .type "StopIteration") (hd : oe.data = .fields vs) (h1 : vs[1]? = some .none)
    (hname : ∀ h' Q' E', Kept ((env :: outer).filterMap (·.frame)) e s.heap h' → Q' (.type "StopIteration") { s with heap := h' } → wpAny (model prog w) (A.mark (some (.ref e))) (eval t env) Q' E' { s with heap := h' })
    (h : ∀ h' E', Kept ((env :: outer).filterMap (·.frame)) e s.heap h' → wpAny (model prog w) (A.mark (some (.ref e))) (execs (b₀ :: suite) env) Q E' { s with heap := h' }) :
    wpAny (model prog w) A (noteFrame (.ref e) env) (fun _ s₂ => wpAny (model prog w) A (setFlight (.ref e) none) (fun _ s₃ => wpAny (model prog w) A (handleBy (.ref e) env [.ExceptHandler (some t) none (b₀ :: suite) hpos]) Q E s₃) E s₂) E s := by
  have hsz : 1 < vs.size := (Array.getElem?_eq_some_iff.mp h1).1
  refine note_deep hfr hl hf he hd h1 fun h₁ tb otb tvs K₁ htn he₁ htb hdt ht3 => ?_
  have hd₁ := Obj.data_mapFields hd (·.setIfInBounds 1 (Value.ref tb))
  have hv₁ : (vs.setIfInBounds 1 (Value.ref tb))[1]? = some (.ref tb) := by simp [hsz]
  have hte : tb ≠ e := fun z => by rw [z, he] at htn; cases htn
  refine wpAny_setFlight_none he₁ hd₁ hv₁ htb hdt ht3 ?_
  have K₂ : Kept ((env :: outer).filterMap (·.frame)) e s.heap (h₁.update tb (Obj.mapFields (·.setIfInBounds 3 .none))) := fun b o hbe hb => by
    have hbt : tb ≠ b := fun z => by rw [← z, htn] at hb; cases hb
    rw [Heap.get?_update_other _ _ hbt]
    exact K₁ b o hbe hb
  have he₂ : (h₁.update tb (Obj.mapFields (·.setIfInBounds 3 .none))).get? e = some (oe.mapFields (·.setIfInBounds 1 (.ref tb))) := by rw [Heap.get?_update_other _ _ hte]; exact he₁
  have hdt₂ := Obj.data_mapFields hdt (·.setIfInBounds 3 Value.none)
  have htb₂ : (h₁.update tb (Obj.mapFields (·.setIfInBounds 3 .none))).get? tb = some (otb.mapFields (·.setIfInBounds 3 .none)) := Heap.get?_update_self _ htb (Obj.isFreed_of_fields hdt₂)
  refine wpAny_handleBy_builtin (X := "StopIteration") (T := "StopIteration") (b := true) (by rw [isSubtype_type]; kernel_rfl) (by rw [isSubtype_type]; kernel_rfl) (by rw [isSubtype_type]; kernel_rfl) ?_
  refine hname _ _ _ K₂ ⟨rfl, ⟨_, he₂, (Obj.cls_mapFields ..).trans hcl⟩, ?_⟩
  rw [if_pos rfl]
  refine wpAny_setFlight_none (s := { s with heap := h₁.update tb (Obj.mapFields (·.setIfInBounds 3 .none)) }) he₂ hd₁ hv₁ htb₂ hdt₂ (by simpa using ht3) ?_
  refine h _ _ fun b o hbe hb => ?_
  have hbt : tb ≠ b := fun z => by rw [← z, htn] at hb; cases hb
  rw [Heap.get?_update_other _ _ hbt]
  exact K₂ b o hbe hb
end

section
variable {W : Wd} {c : Cx}
theorem Rel.frames {x : Fx} {h : Heap} {σ : AS} {fps : List FP} {Z Y : FP} (R : Rel W c x h σ fps Z Y) (ok : FxOk W c x) (hc : c.calls = true) : h.FunFrames x.h₀ (x.env :: x.outer) := by
  obtain ⟨hA, hfr, B⟩ := ok.call hc
  obtain ⟨m, F, _⟩ := R.fr
  obtain ⟨oL, es, ep, hoL, hdL, _⟩ := F.ns
  refine ⟨by rw [ok.sc, ok.kind]; decide, ⟨x.L, oL, hfr, Heap.get?_none_of_le F.above, hoL, fun vs z => by rw [hdL] at z; cases z⟩, ?_⟩
  generalize x.outer = l at B
  clear hA
  induction l with
  | nil => trivial
  | cons env r ih =>
    obtain ⟨k1, L, o, k2, k3, k4⟩ := B env (.head _)
    obtain ⟨o', z1, z2⟩ := R.V _ k3
    have z := R.N (L, o') (List.mem_append_right _ (List.mem_append_right _ (List.mem_append_left _ z1)))
    exact ⟨k1, ⟨L, o', k2, z.2.2, z.1, fun vs => by rw [z2]; exact k4 vs⟩, ih fun e he => B e (.tail _ he)⟩
theorem frames_in {x : Fx} {h : Heap} {σ : AS} {fps : List FP} {Z Y : FP} (R : Rel W c x h σ fps Z Y) (ok : FxOk W c x) (hc : c.calls = true) {b : Addr} (hb : b ∈ (x.env :: x.outer).filterMap (·.frame)) : b = x.L ∨ b ∈ Y.map (·.1) := by
  obtain ⟨hA, hfr, B⟩ := ok.call hc
  obtain ⟨env, he, hf⟩ := List.mem_filterMap.mp hb
  rcases List.mem_cons.mp he with rfl | he
  · rw [hfr] at hf; cases hf; exact .inl rfl
  · obtain ⟨k1, L, o, k2, k3, k4⟩ := B env he
    rw [k2] at hf; cases hf
    obtain ⟨o', z1, z2⟩ := R.V _ k3
    exact .inr (List.mem_map_of_mem (f := (·.1)) z1)
theorem pick_get : ∀ {Y : FP} {h' : Heap}, (∀ p ∈ Y, ∃ o', h'.get? p.1 = some o' ∧ o'.data = p.2.data) → ∃ Y' : FP, Y'.map (·.1) = Y.map (·.1) ∧ (∀ q ∈ Y', h'.get? q.1 = some q.2) ∧ ∀ p ∈ Y, ∃ o', (p.1, o') ∈ Y' ∧ o'.data = p.2.data
  | [], _, _ => ⟨[], rfl, (fun _ h => nomatch h), (fun _ h => nomatch h)⟩
  | p :: r, h', h => by
    obtain ⟨o', m1, m2⟩ := h p (.head _)
    obtain ⟨l', h1, h2, h3⟩ := pick_get (Y := r) fun q hq => h q (.tail _ hq)
    refine ⟨(p.1, o') :: l', by simp [h1], fun q hq => ?_, fun q hq => ?_⟩
    · rcases List.mem_cons.mp hq with rfl | hq
      · exact m1
      · exact h2 q hq
    · rcases List.mem_cons.mp hq with rfl | hq
      · exact ⟨o', .head _, m2⟩
      · obtain ⟨o2, a, b⟩ := h3 q hq; exact ⟨o2, .tail _ a, b⟩
theorem Rel.shake {x : Fx} {h h' : Heap} {σ : AS} {fps : List FP} {Z Y : FP} (R : Rel W c x h σ fps Z Y) (ok : FxOk W c x) (hc : c.calls = true) {k : Nat} {a it : Addr} {om ob : Obj} (hf : fps[k]? = some [(a, om), (it, ob)])
    (K : Kept ((x.env :: x.outer).filterMap (·.frame)) it h h') : ∃ Y', Rel W c x h' { σ with hp := σ.hp.set k .dead } (fps.set k [(a, om)]) Z Y' ∧ rho (fps.set k [(a, om)]) = rho fps := by
  obtain ⟨P, S, e1, e2⟩ := split_at hf
  have hr : rho (fps.set k [(a, om)]) = rho fps := rho_set hf rfl
  have H := R.led
  rw [e1] at H
  have hp : ((P ++ [(a, om), (it, ob)] :: S).flatten ++ (Z ++ (Y ++ x.U))).Perm ((it, ob) :: ((fps.set k [(a, om)]).flatten ++ (Z ++ (Y ++ x.U)))) := by
    rw [e2]
    have q1 := pm (A := P) (B := S) (pre := [(a, om)]) (post := []) (r := Z ++ (Y ++ x.U)) (p := (it, ob))
    refine q1.trans (List.Perm.cons _ ?_)
    simp
  have H1 := H.perm hp
  have hnit : ∀ p ∈ (fps.set k [(a, om)]).flatten ++ (Z ++ (Y ++ x.U)), p.1 ≠ it := fun p hp z => by
    have := H1.D
    rw [List.map_cons, List.nodup_cons] at this
    exact this.1 (by have w := List.mem_map_of_mem (f := (·.1)) hp; rw [z] at w; exact w)
  have H2 : Led x.h₀ x.L h _ := H1.sub (List.sublist_cons_self _ _)
  have HY := H2.perm perm_front
  have ndY := HY.D
  rw [List.map_append, List.nodup_append] at ndY
  have hit := H1.N (it, ob) (.head _)
  obtain ⟨m, F, q⟩ := R.fr
  obtain ⟨oL, es, ep, hoL, rL⟩ := F.ns
  have notS : ∀ p ∈ (fps.set k [(a, om)]).flatten ++ (Z ++ x.U), p.1 ∉ (x.env :: x.outer).filterMap (·.frame) := fun p hp z => by
    rcases frames_in R ok hc z with z | z
    · exact (HY.N p (List.mem_append_right _ hp)).2.1 z
    · exact ndY.2.2 _ z _ (List.mem_map_of_mem hp) rfl
  obtain ⟨Y', y1, y2, y3⟩ := pick_get (Y := Y) (h' := h') fun p hp => by
    obtain ⟨_, sl, e⟩ := K p.1 p.2 (hnit p (by simp [hp])) (HY.N p (List.mem_append_left _ hp)).1
    exact ⟨_, e, rfl⟩
  have H3 : Led x.h₀ x.L h' (Y' ++ ((fps.set k [(a, om)]).flatten ++ (Z ++ x.U))) := by
    refine ⟨fun p hp => ?_, ?_⟩
    · rcases List.mem_append.mp hp with hp | hp
      · have hm : p.1 ∈ Y.map (·.1) := by rw [← y1]; exact List.mem_map_of_mem hp
        obtain ⟨r, hr, er⟩ := List.mem_map.mp hm
        have z := HY.N r (List.mem_append_left _ hr)
        rw [er] at z
        exact ⟨y2 p hp, z.2⟩
      · have z := HY.N p (List.mem_append_right _ hp)
        refine ⟨(K p.1 p.2 (hnit p ?_) z.1).1 (notS p hp), z.2⟩
        simp only [List.mem_append] at hp ⊢
        rcases hp with w | w | w
        · exact .inl w
        · exact .inr (.inl w)
        · exact .inr (.inr (.inr w))
    · rw [List.map_append, List.nodup_append, y1]
      exact ndY
  have H4 := H3.perm perm_front.symm
  obtain ⟨_, slL, eL⟩ := K x.L oL (fun z => hit.2.1 z.symm) hoL
  refine ⟨Y', ⟨⟨m, ⟨⟨_, es, ep, eL, rL⟩, fun b o e => ?_, F.above⟩, fun j nm v h1 h2 => by rw [hr]; exact q j nm v h1 h2⟩, fun j nm h1 => ?_, H4.N, H4.D, by rw [hr]; exact R.O.set k ⟨a, om, rfl⟩, R.G, fun p hp => ?_⟩, hr⟩
  · have hbi : b ≠ it := fun z => by rw [z] at e; have := hit.2.2; rw [this] at e; cases e
    refine (K b o hbi (F.keep b o e)).1 fun z => ?_
    rcases frames_in R ok hc z with z | z
    · exact absurd (Heap.lt_size e) (Nat.not_lt.mpr (z ▸ F.above))
    · obtain ⟨r, hr, er⟩ := List.mem_map.mp z
      have := (HY.N r (List.mem_append_left _ hr)).2.2
      rw [er, e] at this; cases this
  · rw [hr]
    obtain ⟨a, o, co, p1, p2, p3, p4⟩ := R.ce j nm h1
    rcases p2 with p2 | p2
    · obtain ⟨o', z1, z2⟩ := y3 _ p2
      exact ⟨a, o', co, p1, .inl z1, z2.trans p3, p4⟩
    · exact ⟨a, o, co, p1, .inr p2, p3, p4⟩
  · obtain ⟨o', z1, z2⟩ := R.V p hp
    obtain ⟨o2, z3, z4⟩ := y3 _ z1
    exact ⟨o2, z3, z4.trans z2⟩

/-! the wrapper of a list's iterator, made and called -/
noncomputable def pMeth (a : AV) : AM AV := fun σ => match a with
  | .ref k => match σ.hp[k]? with
    | some (.list _) => some (.ref σ.hp.length, { σ with hp := σ.hp ++ [.meth k 0] })
    | _ => none
  | _ => none
noncomputable def pNextM (a : AV) (σ : AS) : Option (Option AV × AS) := match a with
  | .ref k => match σ.hp[k]? with
    | some (.meth l p) => match σ.hp[l]? with
      | some (.list xs) => match xs[p]? with
        | some v => some (some v, { σ with hp := σ.hp.set k (.meth l (p + 1)) })
        | none => some (none, { σ with hp := σ.hp.set k .dead })
      | _ => none
    | _ => none
  | _ => none

theorem se_iterNext {a0 : Expr} {p pos apos : Pos} {f : AM AV} (hf : SE W c a0 f) (hk : c.sc.names.lookup ("iter" : Str) = some .globalImplicit) (hn : nsIn W.K mainGlobals "iter" = some none)
    (h1 : ∀ env, starEach [a0] env = [(false, eval a0 env)])
    (he : ∀ env, eval (.Call (.Name "iter" p) [a0] [] pos) env = (do callWith pos (← eval (.Name "iter" p) env) [] (backTo pos (starEach [a0] env)) (backToKw pos (keywordEach [] env))))
    (ha : ∀ env, eval (.Attribute (.Call (.Name "iter" p) [a0] [] pos) "__next__" apos) env = (do
      let o ← eval (.Call (.Name "iter" p) [a0] [] pos) env
      standAt apos.atName
      let r ← holding [o] (getAttr o "__next__" true)
      letTemporaryGo (.Call (.Name "iter" p) [a0] [] pos) o r
      pure r)) :
    SE W c (.Attribute (.Call (.Name "iter" p) [a0] [] pos) "__next__" apos) (bnd f pMeth) := by
  intro x ok s σ fps Z Y R v σ' e Q E k
  have T := R.T ok
  refine Attribute_any_ ?_ (ha _)
  refine Call_ (Name_function_global (by rw [ok.sc, ok.kind]) (by show x.env.scope.names.lookup _ = _; rw [ok.sc, hk]) (loadGlobal_builtin (by rw [ok.glob]; exact T.g) (mg_none_of (R.K ok) T.g hn) (by rw [ok.blt]; exact T.b) ((T.builtins "iter" (by decide)).trans boot_iter) ?_) (by decide)) (he _)
  have hplain : (backTo pos (starEach [a0] x.env)).any (·.1) = false := by rw [h1]; rfl
  refine callWith_of (P := fun _ => True) (by rw [hplain]; rfl) (fun h _ => ⟨.machine, .inr (.inl rfl), looks_blt _ h⟩) (evalArgs_of hplain ?_)
  refine args_cons (hf.bind ok R e fun a σ₁ h₁ tk₁ fps₁ Z₁ Y₁ ca _ e₁ R₁ X₁ p₁ => ?_) (h1 _)
  refine args_nil ⟨trivial, ?_⟩
  unfold pMeth at e₁
  split at e₁
  · rename_i m
    split at e₁
    · rename_i l hl
      cases e₁
      obtain ⟨ad, hr, rfl⟩ := p₁
      obtain ⟨a', vs, n, hr', hfp, hvs, ho, hL⟩ := R₁.lst hl
      rw [hr] at hr'; cases hr'
      refine call_function_entry (by decide +kernel) (by decide +kernel) kdk_entry_iter (kdk_args_iter _) ?_
      unfold Builtin.«iter»
      refine wpAny_bind (m := someArgs "iter" 1 2 _) (wpAny_of_eq (a := [Value.ref ad]) (by first | rfl | kernel_rfl!) ?_)
      show wpAny _ _ (pyIter (.ref ad) >>= _) _ _ _
      refine wpAny_bind (wpAny_pyIter_list (s := { s with heap := h₁, toks := tk₁ }) hL ?_)
      refine wpAny_pure ⟨_, rfl, ?_⟩
      refine attr_next (s := { s with heap := h₁.push { cls := .type "list_iterator", data := .fields #[.ref ad, .int 0 0] }, toks := tk₁ }) (Heap.get?_push_size _ rfl) rfl rfl rfl ?_
      obtain ⟨mm, F, q⟩ := R₁.fr
      have H1 := R₁.led.push F { cls := .type "list_iterator", data := .fields #[.ref ad, .int 0 0] } rfl
      have F1 := F.push { cls := .type "list_iterator", data := .fields #[.ref ad, .int 0 0] }
      have H2 := H1.push F1 (mwOf h₁.objs.size) rfl
      have X2 : Ext (rho fps₁) Z₁ (rho (fps₁ ++ [[((h₁.push { cls := .type "list_iterator", data := .fields #[.ref ad, .int 0 0] }).objs.size, mwOf h₁.objs.size), (h₁.objs.size, { cls := .type "list_iterator", data := .fields #[.ref ad, .int 0 0] })]])) Z₁ := ⟨fun i a e => rho_app e, fun _ e => e⟩
      have hk2 : ∀ b o, h₁.get? b = some o → ((h₁.push { cls := .type "list_iterator", data := .fields #[.ref ad, .int 0 0] }).push (mwOf h₁.objs.size)).get? b = some o := fun b o e => Heap.get?_push_of_some _ (Heap.get?_push_of_some _ e)
      refine k _ _ _ Z₁ Y₁ _ (R₁.ext X2 hk2 ((R₁.O.mono fun _ _ y => OR.ext X2 y).append (.cons ⟨_, _, ad, _, X2.r _ _ hr, rfl, rfl, rfl⟩ .nil)) (H2.perm ?_)) (X₁.trans X2) ⟨_, ?_, rfl⟩
      · have : (fps₁ ++ [[((h₁.push { cls := .type "list_iterator", data := .fields #[.ref ad, .int 0 0] }).objs.size, mwOf h₁.objs.size), (h₁.objs.size, { cls := .type "list_iterator", data := .fields #[.ref ad, .int 0 0] })]]).flatten ++ (Z₁ ++ (Y₁ ++ x.U)) = fps₁.flatten ++ ((h₁.push { cls := .type "list_iterator", data := .fields #[.ref ad, .int 0 0] }).objs.size, mwOf h₁.objs.size) :: (h₁.objs.size, { cls := .type "list_iterator", data := .fields #[.ref ad, .int 0 0] }) :: (Z₁ ++ (Y₁ ++ x.U)) := by simp
        rw [this]
        exact (List.perm_middle.trans (List.Perm.cons _ List.perm_middle)).symm
      · unfold rho
        rw [R₁.O.length, List.getElem?_append_right (Nat.le_refl _)]
        simp
    · cases e₁
  · cases e₁

inductive MeO (h₁ : Heap) (fps : List FP) (Z : FP) (kk l p : Nat) (xs : List AV) (ca : Value) : Prop
  | mk (am b1 al : Addr) (ob : Obj) (vs : List Value) (hca : ca = .ref am) (hfp : fps[kk]? = some [(am, mwOf b1), (b1, ob)]) (hral : rho fps l = some al) (hoc : ob.cls = .type "list_iterator") (hod : ob.data = .fields #[.ref al, .int p 0])
      (hvs : All2 (VR (rho fps) Z) xs vs) (hL : h₁.IsList al (List.toArray vs)) (hmw : h₁.get? am = some (mwOf b1)) (hit : h₁.get? b1 = some ob)
theorem me_open {x : Fx} {h₁ : Heap} {σ₁ : AS} {fps₁ : List FP} {Z₁ Y₁ : FP} (R₁ : Rel W c x h₁ σ₁ fps₁ Z₁ Y₁) {kk l p : Nat} {xs : List AV} {ca : Value} (p₁ : VR (rho fps₁) Z₁ (.ref kk) ca) (hm1 : σ₁.hp[kk]? = some (.meth l p)) (hl1 : σ₁.hp[l]? = some (.list xs)) : MeO h₁ fps₁ Z₁ kk l p xs ca := by
  obtain ⟨am, hrm, rfl⟩ := p₁
  obtain ⟨fp, hfp, a1, b1, al, ob, hral, rfl, hoc, hod⟩ := R₁.obj hm1
  have hr' := rho_of hfp rfl
  rw [hrm] at hr'; cases hr'
  obtain ⟨al', vs, n, hrl, hfl, hvs, hol, hL⟩ := R₁.lst hl1
  rw [hral] at hrl; cases hrl
  exact ⟨am, b1, al, ob, vs, rfl, hfp, hral, hoc, hod, hvs, hL, (R₁.at hfp (.head _)).1, (R₁.at hfp (.tail _ (.head _))).1⟩
theorem sx_tryNext {fe : Expr} {nm : Str} {p' cpos pos1 pos2 pn hpos pos : Pos} {b₀ : Stmt} {suite : List Stmt} {f : AM AV} {g : AM AF} {i : Nat} (hf : SE W c fe f) (hst : Prim1 UR W c (fun x v => storeName x.env nm v) (pStore i))
    (hg : SB W { c with calls := false, loops := false } (b₀ :: suite) g) (hc : c.calls = true) (hl : c.loops = true) (hk : c.sc.names.lookup ("StopIteration" : Str) = some .globalImplicit) (hn : nsIn W.K mainGlobals "StopIteration" = some none)
    (hv : bootBuiltins "StopIteration" = some (.type "StopIteration")) (hs : ∀ env, swapsWith (.Call fe [] [] cpos) (some (.Name nm p')) pos1.line env = pure false)
    (he : ∀ env, eval (.Call fe [] [] cpos) env = (do callWith cpos (← eval fe env) [] (backTo cpos (starEach [] env)) (backToKw cpos (keywordEach [] env)))) :
    SX W c (.Try [.Assign [.Name nm p'] (.Call fe [] [] cpos) pos1, .Break pos2] [.ExceptHandler (some (.Name "StopIteration" pn)) none (b₀ :: suite) hpos] [] [] pos)
      (bnd f fun v σ => match pNextM v σ with
        | some (some u, σ') => bnd (pStore i u) (fun _ => ok .brk) σ'
        | some (none, σ') => g σ'
        | none => none) := by
  intro x ok s σ fps Z Y R v σ' e Q E k
  refine wpAny_Try_except (wpAny_execs_cons (wpAny_Assign_Name (Call_ (hf.bind ok R e fun a σ₁ h₁ tk₁ fps₁ Z₁ Y₁ ca hfa e₁ R₁ X₁ p₁ => ?_) (he _)) (hs _)))
  clear hfa
  unfold pNextM at e₁
  split at e₁ <;> rename_i hm
  · split at hm
    · rename_i kk
      split at hm
      · rename_i l p hm1
        split at hm
        · rename_i xs hl1
          split at hm
          · rename_i u hu
            cases hm
            obtain ⟨am, b1, al, ob, vs, rfl, hfp, hral, hoc, hod, hvs, hL, hmw, hit⟩ := me_open R₁ p₁ hm1 hl1
            refine callWith_of (P := fun h => h.get? am = some (mwOf b1)) rfl (fun h hh => ⟨.machine, .inr (.inl rfl), looks_mw hh⟩) (evalArgs_of rfl (args_nil ⟨hmw, wpAny_call (call_mw hmw ?_)⟩))
            obtain ⟨cv, hcv, hw⟩ := hvs.get hu
            refine mw_item ⟨ob, hit, hoc, hod⟩ hL (by simpa using hcv) fun h' hit' hs' => ?_
            obtain ⟨o', ho', hc', hd'⟩ := hit'
            have R₂ := R₁.setObj (pre := [(am, mwOf b1)]) (post := []) hfp hs' ho' (A := .meth l (p + 1)) ⟨am, b1, al, o', hral, rfl, hc', hd'⟩
            have hrho : rho (fps₁.set kk ([(am, mwOf b1)] ++ [(b1, o')])) = rho fps₁ := rho_set hfp rfl
            obtain ⟨_, σ₃, e₃, e₄⟩ := bnd_some e₁
            cases e₄
            refine hst x ok { s with heap := h', toks := tk₁ } _ _ Z₁ Y₁ R₂ _ cv (by rw [hrho]; exact hw) _ _ e₃ _ _ fun h₃ tk₃ fps₃ Z₃ Y₃ _ R₃ X₃ _ => ?_
            refine wpAny_execs_cons (wpAny_Break ?_)
            exact k h₃ tk₃ fps₃ Z₃ Y₃ _ R₃ ((X₁.trans (ext_of_rho hrho)).trans X₃) rfl
          · cases hm
        · cases hm
      · cases hm
    · cases hm
  · split at hm
    · rename_i kk
      split at hm
      · rename_i l p hm1
        split at hm
        · rename_i xs hl1
          split at hm
          · cases hm
          · rename_i hu
            cases hm
            obtain ⟨am, b1, al, ob, vs, rfl, hfp, hral, hoc, hod, hvs, hL, hmw, hit⟩ := me_open R₁ p₁ hm1 hl1
            refine callWith_of (P := fun h => h.get? am = some (mwOf b1)) rfl (fun h hh => ⟨.machine, .inr (.inl rfl), looks_mw hh⟩) (evalArgs_of rfl (args_nil ⟨hmw, wpAny_call (call_mw hmw ?_)⟩))
            have hlen := hvs.length
            refine mw_end (ok.hh hl) ⟨ob, hit, hoc, hod⟩ hL (by rw [List.getElem?_eq_none_iff] at hu; simp; omega) fun h' e' st => ?_
            obtain ⟨oe, vs', he1, he2, he3, he4⟩ := st.obj
            have hfun := R₁.frames ok hc
            have hfun' : h'.FunFrames x.h₀ (x.env :: x.outer) := hfun.of_keeps fun b o hb hnf => ⟨o, st.ext b o (fun z => by rw [z, hit] at hb; cases hb; exact hnf _ hod) hb, rfl⟩
            obtain ⟨hA, hfr, _⟩ := ok.call hc
            have up : ∀ {h₂ : Heap}, Kept ((x.env :: x.outer).filterMap (·.frame)) e' h' h₂ → Kept ((x.env :: x.outer).filterMap (·.frame)) b1 h₁ h₂ := fun K b o hbi hb => K b o (fun z => by rw [z, st.new] at hb; cases hb) (st.ext b o hbi hb)
            show wpAny _ _ (noteFrame (.ref e') x.env) _ _ _
            refine into_handler (s := { s with heap := h', toks := tk₁ }) hA hfun' hfr he1 he2 he3 he4 (fun h₂ Q' E' K q => ?_) fun h₂ E' K => ?_
            · obtain ⟨Y₂, R₂, _⟩ := R₁.shake ok hc hfp (up K)
              have T := R₂.T ok
              exact Name_function_global (by rw [ok.sc, ok.kind]) (by show x.env.scope.names.lookup _ = _; rw [ok.sc, hk]) (loadGlobal_builtin (by rw [ok.glob]; exact T.g) (mg_none_of (R₂.K ok) T.g hn) (by rw [ok.blt]; exact T.b) ((T.builtins "StopIteration" (by decide)).trans hv) q) (by decide)
            · obtain ⟨Y₂, R₂, hrho⟩ := R₁.shake ok hc hfp (up K)
              have ok₂ : FxOk W { c with calls := false, loops := false } { x with A := x.A.mark (some (.ref e')) } := ⟨ok.sc, ok.kind, ok.loc, ok.glob, ok.blt, ok.nd, ok.cinj, ok.X, ok.T, ok.dep, ok.uni, (fun z => by cases z), (fun z => by cases z), ok.ap, ok.scr⟩
              refine hg { x with A := x.A.mark (some (.ref e')) } ok₂ { s with heap := h₂, toks := tk₁ } _ _ Z₁ Y₂ ⟨R₂.fr, R₂.ce, R₂.N, R₂.D, R₂.O, R₂.G, R₂.V⟩ v σ' e₁ Q _ fun h₃ tk₃ fps₃ Z₃ Y₃ cv R₃ X₃ p₃ => ?_
              exact k h₃ tk₃ fps₃ Z₃ Y₃ cv ⟨R₃.fr, R₃.ce, R₃.N, R₃.D, R₃.O, R₃.G, R₃.V⟩ ((X₁.trans (ext_of_rho hrho)).trans X₃) p₃
        · cases hm
      · cases hm
    · cases hm
  · cases e₁
end
end Mine

end
section
open PySem PySem.W PySem.Calls PyProof.Rows
set_option Elab.async false
namespace Mine
section
variable {W : Wd} {c : Cx}

/-- what a call has made is dropped; a new list of ints that it hands back is frozen -/
noncomputable def settle (g : HF) : HF := fun vs hp => match g vs hp with
  | some (v, hp') =>
    if (hp'.take hp.length).all (AO.below hp.length) then
      if v.below hp.length then some (v, hp'.take hp.length)
      else match v with
        | .ref k => match hp'[k]? with
          | some (.list l) => match intsOf l with
            | some ns => some (.li ns, hp'.take hp.length)
            | none => none
          | _ => none
        | _ => none
    else none
  | none => none

theorem VR.is_below {fps : List FP} {Z : FP} {v : AV} {cv : Value} (h : VR (rho fps) Z v cv) : v.below fps.length = true := by
  cases v with
  | ref i => obtain ⟨a, e, _⟩ := h; exact decide_eq_true (rho_len e)
  | pr i j => obtain ⟨a, n, ad, t, e, m, q⟩ := h; exact decide_eq_true (rho_len q)
  | _ => rfl
theorem Rel.cutHp {x : Fx} {h : Heap} {σ : AS} {fps : List FP} {Z Y : FP} {n : Nat} (R : Rel W c x h σ fps Z Y) (hb : (σ.hp.take n).all (AO.below n) = true) (hloc : ∀ (i : Nat) nm b v, c.vars[i]? = some (nm, b) → σ.loc[i]? = some (some v) → v.below n = true) :
    Rel W c x h { σ with hp := σ.hp.take n } (fps.take n) Z Y := by
  have H := R.led.sub (l' := (fps.take n).flatten ++ (Z ++ (Y ++ x.U))) (by
    refine List.Sublist.append ?_ (List.Sublist.refl _)
    have : fps.flatten = (fps.take n).flatten ++ (fps.drop n).flatten := by rw [← List.flatten_append, List.take_append_drop]
    rw [this]
    exact List.sublist_append_left _ _)
  obtain ⟨m, F, q⟩ := R.fr
  refine ⟨⟨m, F, fun j nm v h1 h2 => ?_⟩, fun j nm h1 => ?_, H.N, H.D, all2_cutO (R.O.take n) hb, R.G, R.V⟩
  · obtain ⟨cv, p1, p2⟩ := q j nm _ h1 h2
    exact ⟨cv, p1, p2.cut (hloc j nm _ v h1 h2)⟩
  · obtain ⟨a, o, co, p1, p2, p3, p4⟩ := R.ce j nm h1
    refine ⟨a, o, co, p1, p2, p3, fun v h2 => ?_⟩
    obtain ⟨cv, p5, p6⟩ := p4 _ h2
    exact ⟨cv, p5, p6.cut (hloc j nm _ v h1 h2)⟩
theorem Rel.freezeAt {x : Fx} {h : Heap} {σ : AS} {fps : List FP} {Z Y : FP} {n k : Nat} {p : Addr × Obj} (R : Rel W c x h σ fps Z Y) (hk : fps[k]? = some [p]) (hn : n ≤ k) (R' : Rel W c x h { σ with hp := σ.hp.take n } (fps.take n) Z Y) :
    Rel W c x h { σ with hp := σ.hp.take n } (fps.take n) (p :: Z) Y ∧ Ext (rho (fps.take n)) Z (rho (fps.take n)) (p :: Z) := by
  have X : Ext (rho (fps.take n)) Z (rho (fps.take n)) (p :: Z) := ⟨fun i a e => e, fun _ e => .tail _ e⟩
  have hmem : p ∈ (fps.drop n).flatten := by
    refine List.mem_flatten.mpr ⟨[p], ?_, .head _⟩
    refine List.mem_of_getElem? (i := k - n) ?_
    rw [List.getElem?_drop, show n + (k - n) = k by omega]; exact hk
  have H : Led x.h₀ x.L h (p :: ((fps.take n).flatten ++ (Z ++ (Y ++ x.U)))) := by
    obtain ⟨P, S, e⟩ := List.append_of_mem hmem
    have e2 : fps.flatten = (fps.take n).flatten ++ (fps.drop n).flatten := by rw [← List.flatten_append, List.take_append_drop]
    have H0 := R.led
    rw [e2, e] at H0
    have e3 : (fps.take n).flatten ++ (P ++ p :: S) ++ (Z ++ (Y ++ x.U)) = ((fps.take n).flatten ++ P) ++ p :: (S ++ (Z ++ (Y ++ x.U))) := by simp
    rw [e3] at H0
    refine (H0.perm List.perm_middle).sub (List.Sublist.cons₂ _ ?_)
    exact List.Sublist.append (List.sublist_append_left _ _) (List.sublist_append_right _ _)
  have H2 := H.perm (l' := (fps.take n).flatten ++ ((p :: Z) ++ (Y ++ x.U))) List.perm_middle.symm
  exact ⟨R'.ext (hp' := σ.hp.take n) X (fun _ _ e => e) (R'.O.mono fun _ _ y => OR.ext X y) H2, X⟩

theorem FC.settle {fa : Addr} {d u : Nat} {g : HF} (h : FC W fa d u g) : FC W fa d u (Mine.settle g) := by
  intro c h1 h2 h3 h4 x ok s σ fps Z Y R a ca ha v σ' e Rr k
  obtain ⟨hp', e', rfl⟩ := lift_some e
  unfold Mine.settle at e'
  split at e'
  · rename_i v₀ hp₀ hg
    split at e'
    · rename_i hb
      have hlen : σ.hp.length = fps.length := R.O.length
      have hloc : ∀ (i : Nat) nm b w, c.vars[i]? = some (nm, b) → σ.loc[i]? = some (some w) → w.below σ.hp.length = true := fun i nm b w a1 a2 => by
        rw [hlen]
        cases b with
        | false => obtain ⟨m, F, q⟩ := R.fr; obtain ⟨cv, _, p2⟩ := q i nm w a1 a2; exact p2.is_below
        | true => obtain ⟨_, _, _, _, _, _, p4⟩ := R.ce i nm a1; obtain ⟨cv, _, p6⟩ := p4 w a2; exact p6.is_below
      refine h c h1 h2 h3 h4 x ok s σ fps Z Y R a ca ha v₀ { σ with hp := hp₀ } (by unfold lift; rw [hg]) Rr fun h' tk' fps' Z' Y' cv R' X' p' => ?_
      have RC := R'.cutHp (n := σ.hp.length) hb hloc
      have XC := X'.cut (n := σ.hp.length) (Nat.le_of_eq hlen.symm)
      split at e'
      · rename_i hv
        cases e'
        exact k h' tk' _ Z' Y' cv RC XC (p'.cut hv)
      · rename_i hv
        split at e'
        · rename_i kk
          split at e'
          · rename_i l hl
            split at e'
            · rename_i ns hns
              cases e'
              obtain ⟨ad, hr, rfl⟩ := p'
              obtain ⟨a', vs, n, hr', hf, hvs, ho, hL⟩ := R'.lst hl
              rw [hr] at hr'; cases hr'
              have hge : σ.hp.length ≤ kk := by
                have : ¬ kk < σ.hp.length := fun z => hv (decide_eq_true z)
                omega
              obtain ⟨RF, XF⟩ := R'.freezeAt hf hge RC
              exact k h' tk' _ _ Y' _ RF (XC.trans XF) ⟨ad, vs, n, rfl, .head _, intsOf_all hvs hns⟩
            · cases e'
          · cases e'
        · cases e'
    · cases e'
  · cases e'
end
end Mine

end
section
open PySem PySem.W PySem.Calls PyProof.Rows
set_option Elab.async false
namespace Mine
section
variable {W : Wd} {c : Cx}
noncomputable def compChk (c : Cx) (scope : Scope) (nm : Str) (caps : List (Str × Nat)) : Bool :=
  scope.names.all (fun y => y.2 != .local || scope.names.lookup y.1 == some .local) && caps.all (fun p => decide (c.vars[p.2]? = some (p.1, true))) && decide ((scope.names.filter fun p => p.2 == .free).map (·.1) = caps.map (·.1)) && decide (nm :: caps.map (·.1)).Nodup && decide (scope.kind = .function)
theorem compChk_ok {scope : Scope} {nm : Str} {caps : List (Str × Nat)} (h : compChk c scope nm caps = true) : scope.kind = .function ∧ (∀ y ∈ scope.names, y.2 = .local → scope.names.lookup y.1 = some .local) ∧ (∀ p ∈ caps, c.vars[p.2]? = some (p.1, true)) ∧
    (∀ n, (n, NameKind.free) ∈ scope.names ↔ n ∈ caps.map (·.1)) ∧ (nm :: caps.map (·.1)).Nodup := by
  unfold compChk at h
  simp only [Bool.and_eq_true, decide_eq_true_eq, List.all_eq_true] at h
  obtain ⟨⟨⟨⟨h1, h2⟩, h3⟩, h4⟩, h5⟩ := h
  refine ⟨h5, fun y hy hl => ?_, h2, fun n => ?_, h4⟩
  · have := h1 y hy
    rw [hl] at this
    simpa using this
  · rw [← h3]
    simp only [List.mem_map, List.mem_filter]
    constructor
    · intro hm; exact ⟨_, ⟨hm, rfl⟩, rfl⟩
    · rintro ⟨p, ⟨hm, hf⟩, rfl⟩
      have : p.2 = .free := by simpa using hf
      rw [← this]; exact hm
theorem se_compB {elt iter : Expr} {nm : Str} {px pos : Pos} {ifs : List Expr} {scope : Scope} {g : AM Src} {t : AM Bool} {f : AM AV} {G : List AV → AM AV} (own : Bool) (caps : List (Str × Nat)) (k : Nat) (hG : EndOp W c G)
    (hchk : compChk c scope nm caps = true) (hown : OwnIs own nm scope) (hl : c.loops = true) (hs : ∀ env x, foldedSetIterable iter env x = pure x)
    (hst : Prim1 UR W (compCx c scope nm own caps) (fun x v => storeName x.env nm v) (pStore 0))
    (hg : SI W c iter g) (ht : STs W (compCx c scope nm own caps) ifs t) (hf : SE W (compCx c scope nm own caps) elt f) :
    SE W c (.ListComp elt [⟨.Name nm px, iter, ifs, 0⟩] scope pos) (bnd g (pComp caps t f k G)) :=
  let ⟨h1, h2, h3, h4, h5⟩ := compChk_ok hchk
  se_comp own caps k hg ht hf hst hG hs hl h1 h2 hown h3 h4 h5
theorem sx_assignCompB {elt iter : Expr} {nm y : Str} {px py pos spos : Pos} {ifs : List Expr} {scope : Scope} {g : AM Src} {t : AM Bool} {f : AM AV} {G : List AV → AM AV} {i : Nat} (own : Bool) (caps : List (Str × Nat)) (k : Nat) (hG : EndOp W c G)
    (hchk : compChk c scope nm caps = true) (hown : OwnIs own nm scope) (hl : c.loops = true) (hs : ∀ env x, foldedSetIterable iter env x = pure x)
    (hst : Prim1 UR W (compCx c scope nm own caps) (fun x v => storeName x.env nm v) (pStore 0)) (hst' : Prim1 UR W c (fun x v => storeName x.env y v) (pStore i))
    (hsw : ∀ env, env.scope = c.sc → swapsWith (.ListComp elt [⟨.Name nm px, iter, ifs, 0⟩] scope pos) (some (.Name y py)) spos.line env = pure true)
    (hg : SI W c iter g) (ht : STs W (compCx c scope nm own caps) ifs t) (hf : SE W (compCx c scope nm own caps) elt f) :
    SX W c (.Assign [.Name y py] (.ListComp elt [⟨.Name nm px, iter, ifs, 0⟩] scope pos) spos) (bnd (bnd g (pComp caps t f k G)) fun v => bnd (pStore i v) fun _ => ok .next) :=
  let ⟨h1, h2, h3, h4, h5⟩ := compChk_ok hchk
  sx_assignComp own caps k hg ht hf hst hG hst' hsw hs hl h1 h2 hown h3 h4 h5
/-- the swap of a comprehension with its store -/
theorem swaps_comp {elt : Expr} {gens : List Comprehension} {scope : Scope} {pos py : Pos} {y : Str} {n : Nat} (hk : c.sc.kind = .function) (hy : c.sc.names.lookup y = some .local) (hp : py.line = pos.line) (hn : (scope.names.any fun (n, k) => n == y && (k == .local || k == .cell)) = false) :
    ∀ env, env.scope = c.sc → swapsWith (.ListComp elt gens scope pos) (some (.Name y py)) n env = pure true := by
  intro env he
  have h1 : env.blockKind = .function := by unfold Env.blockKind; rw [he, hk]; rfl
  show (pure _ : Sem Bool) = _
  have h2 : env.kindOf y = some .local := by show env.scope.names.lookup y = _; rw [he, hy]
  rw [h1, h2]
  show (pure ((ScopeKind.function == ScopeKind.function) && (some NameKind.local == some NameKind.local) && (py.line == pos.line) && !(scope.names.any fun (n, k) => n == y && (k == .local || k == .cell))) : Sem Bool) = _
  rw [hn, hp]
  simp
end
end Mine

end
section
open PySem PySem.W PySem.Calls PyProof.Rows
set_option Elab.async false
namespace Mine
section
variable {W : Wd} {c : Cx}
noncomputable def pNeg (a : AV) : AM AV := match a with
  | .int i => ok (.int (-i))
  | _ => no
theorem se_neg {e : Expr} {pos : Pos} {f : AM AV} (h : SE W c e f) : SE W c (.UnaryOp .USub e pos) (bnd f pNeg) := by
  intro x ok s σ fps Z Y R v σ' e Q E k
  refine wpAny_UnaryOp (h.bind ok R e fun a σ₁ h₁ tk₁ fps₁ Z₁ Y₁ ca _ e₁ R₁ X₁ p₁ => ?_)
  unfold pNeg at e₁
  split at e₁
  · cases e₁
    obtain ⟨t, rfl⟩ := p₁
    exact PyProof.Rows.neg_int (k h₁ _ fps₁ Z₁ Y₁ _ R₁ X₁ ⟨_, rfl⟩)
  · cases e₁
theorem se_neg1 {n : Int} {kk : Nat} {p pos : Pos} : SE W c (.UnaryOp .USub (.Constant (.int n) kk p) pos) (ok (.int (-n))) := by
  intro x okx s σ fps Z Y R v σ' e Q E k
  cases e
  exact se_neg (se_int (k := kk) (pos := p)) x okx s σ fps Z Y R _ _ rfl Q E k
theorem se_orOne {a : Expr} {pos : Pos} {f : AM AV} (h : SE W c a f) : SE W c (.BoolOp .Or [a] pos) f := by
  intro x ok s σ fps Z Y R v σ' e Q E k
  exact BoolOp_one (h x ok s σ fps Z Y R v σ' e Q E k)
theorem slice_any {prog : Program} {w : World} {A : Around} {E : Value → Shared → Prop} {s : Shared} {env : Env} {value : Expr} {lower upper : Option Expr} {p pos : Pos} {T id : String} {Q : Value → Shared → Prop}
    (hl : typeLookup (.type T) "__getitem__" = pure (some (.builtin id)))
    (h : wpAny (model prog w) A (eval value env) (fun o s₁ => wpAny (model prog w) A (eval (.Slice lower upper none p) env) (fun i s₂ => s₂.TypeIs o T ∧ wpAny (model prog w) A (getItem o i) Q E s₂) E s₁) E s) :
    wpAny (model prog w) A (eval (.Subscript value (.Slice lower upper none p) pos) env) Q E s := by
  rw [eval_Subscript]
  refine wpAny_bind (wpAny_mono h (fun o s₁ h₁ => wpAny_bind (wpAny_holding (wpAny_mono h₁ (fun i s₂ h₂ => wpAny_bind (wpAny_standAt ?_)) fun _ _ x => x))) fun _ _ x => x)
  have fin : wpAny (model prog w) A (operate [i, o] (getItem o i)) (fun r s₃ => wpAny (model prog w) A (letTemporaryGo value o r >>= fun _ => pure r) Q E s₃) E s₂ :=
    wpAny_operating (wpAny_mono h₂.2 (fun r s₃ h₃ => wpAny_bind (wpAny_letTemporaryGo (wpAny_pure h₃))) fun _ _ x => x)
  refine wpAny_bind ?_
  rw [getitemInPython_of_ne h₂.1.not_modules]
  refine wpAny_bind (wpAny_specialOf h₂.1 hl ?_)
  exact wpAny_pure (wpAny_bind fin)
theorem se_fromT {value e : Expr} {p pos : Pos} {f g : AM AV} (hf : SE W c value f) (hg : SE W c e g) :
    SE W c (.Subscript value (.Slice (some e) none none p) pos) (bnd f fun a => bnd g fun b => pFrom a b) := by
  intro x ok s σ fps Z Y R v σ' e Q E k
  refine slice_any slot_list_getitem.lookup (hf.bind ok R e fun a σ₁ h₁ tk₁ fps₁ Z₁ Y₁ ca _ e₁ R₁ X₁ p₁ => ?_)
  refine wpAny_Slice ?_
  refine hg.bind (s := { s with heap := h₁, toks := tk₁ }) ok R₁ e₁ fun b σ₂ h₂ tk₂ fps₂ Z₂ Y₂ cb _ e₂ R₂ X₂ p₂ => ?_
  refine wpAny_pure (wpAny_pure ?_)
  unfold pFrom at e₂
  split at e₂
  · rename_i l i _ _
    split at e₂
    · rename_i hi
      cases e₂
      obtain ⟨t, rfl⟩ := p₂
      obtain ⟨a', vs, rfl, hL, hI⟩ := IntsL.isList R₂ (IntsL.ext X₂ p₁)
      have hlen := hI.length
      refine ⟨(hL.push _).typeIs, wpAny_getItem_list_slice (hL.push _) (Heap.IsSliceOf.new ..) (.int _ t) .none .none (by simp) ?_ (by rw [List.size_toArray]; have := sizeLine_eq; omega)⟩
      have R3 := R₂.grow (h' := h₂.push { cls := .type "slice", data := .fields #[.int i t, .none, .none] }) fun b o e => Heap.get?_push_of_some _ e
      obtain ⟨R', X⟩ := R3.freeze (o := { cls := .type "list", data := .seq (slicePick vs.toArray (some i) none none) }) rfl
      exact k _ _ _ _ _ _ R' ((X₁.trans X₂).trans X) ⟨_, (slicePick vs.toArray (some i) none none).toList, 0, rfl, .head _, slice_ints_fromW hI hi.1⟩
    · cases e₂
  · cases e₂
theorem sx_tup2 {a b : Str} {pa pb : Pos} {kk : Nat} {tpos pos : Pos} {value : Expr} {f : AM (List AV)} {i j : Nat} (hf : SU W c value f) (hl : c.loops = true) (h1 : Prim1 UR W c (fun x v => storeName x.env a v) (pStore i)) (h2 : Prim1 UR W c (fun x v => storeName x.env b v) (pStore j))
    (hs : ∀ env, swapsWithSole [.Tuple [.Name a pa, .Name b pb] kk tpos] value pos.line env = pure false) (hw : ∀ env, env.scope = c.sc → swappedStores [.Tuple [.Name a pa, .Name b pb] kk tpos] value env = pure none) :
    SX W c (.Assign [.Tuple [.Name a pa, .Name b pb] kk tpos] value pos) (bnd f fun l => bnd (storeL [i, j] l) fun _ => ok .next) :=
  sx_tupPlain (ts := [fun env v => assign (.Name a pa) env v, fun env v => assign (.Name b pb) env v]) hf hl hs hw (fun _ => rfl) (.cons (assign_of h1) (.cons (assign_of h2) .nil))
theorem sx_tup3 {a b d : Str} {pa pb pd : Pos} {kk : Nat} {tpos pos : Pos} {value : Expr} {f : AM (List AV)} {i j k : Nat} (hf : SU W c value f) (hl : c.loops = true) (h1 : Prim1 UR W c (fun x v => storeName x.env a v) (pStore i)) (h2 : Prim1 UR W c (fun x v => storeName x.env b v) (pStore j)) (h3 : Prim1 UR W c (fun x v => storeName x.env d v) (pStore k))
    (hs : ∀ env, swapsWithSole [.Tuple [.Name a pa, .Name b pb, .Name d pd] kk tpos] value pos.line env = pure false) (hw : ∀ env, env.scope = c.sc → swappedStores [.Tuple [.Name a pa, .Name b pb, .Name d pd] kk tpos] value env = pure none) :
    SX W c (.Assign [.Tuple [.Name a pa, .Name b pb, .Name d pd] kk tpos] value pos) (bnd f fun l => bnd (storeL [i, j, k] l) fun _ => ok .next) :=
  sx_tupPlain (ts := [fun env v => assign (.Name a pa) env v, fun env v => assign (.Name b pb) env v, fun env v => assign (.Name d pd) env v]) hf hl hs hw (fun _ => rfl) (.cons (assign_of h1) (.cons (assign_of h2) (.cons (assign_of h3) .nil)))
theorem sx_swap3 {a b d : Str} {pa pb pd : Pos} {kk : Nat} {tpos pos : Pos} {value : Expr} {f : AM (List AV)} {i j k : Nat} (hf : SU W c value f) (hl : c.loops = true) (h1 : Prim1 UR W c (fun x v => storeName x.env a v) (pStore i)) (h2 : Prim1 UR W c (fun x v => storeName x.env b v) (pStore j)) (h3 : Prim1 UR W c (fun x v => storeName x.env d v) (pStore k))
    (hs : ∀ env, swapsWithSole [.Tuple [.Name a pa, .Name b pb, .Name d pd] kk tpos] value pos.line env = pure false) (hw : ∀ env, env.scope = c.sc → swappedStores [.Tuple [.Name a pa, .Name b pb, .Name d pd] kk tpos] value env = pure (some [a, b, d])) :
    SX W c (.Assign [.Tuple [.Name a pa, .Name b pb, .Name d pd] kk tpos] value pos) (bnd f fun l => bnd (storeL [k, j, i] l.reverse) fun _ => ok .next) :=
  sx_tupSwap hf hl hs hw (.cons (bind_of h3) (.cons (bind_of h2) (.cons (bind_of h1) .nil)))
/-! a def whose last parameter is left to its default, None -/
noncomputable def runNone (n : Nat) (k : Nat) (f : AM AF) : HF := fun vs hp =>
  if vs.length = k then finish (f ⟨(vs ++ [AV.none]).map some ++ List.replicate (n - (k + 1)) none, hp⟩) else none
theorem fc_none {fa : Addr} {name qual : Str} {params : Arguments} {body : List Stmt} {scope : Scope} {dV kV doc pm cdv ct oc : Value} {an od : Option Addr} {osl : Array (Option Value)} (loc : List Str) (k d u : Nat) {f : AM AF}
    (ho : W.K.lookup fa = some ⟨oc, od, .func (fnOf name qual params body scope dV kV doc pm an cdv ct), osl⟩) (hcd : codeIn W.K cdv qual = true)
    (hbind : ∀ (s : Shared) (cvs : List Value), W.K.In s.heap → cvs.length = k → BindsTo s (fnOf name qual params body scope dV kV doc pm an cdv ct) ⟨cvs, []⟩ ((loc.take (k + 1)).zip (cvs ++ [Value.none])))
    (hk : scope.kind = .function) (hco : scope.isCoroutine = false) (hgen : scope.isGenerator = false)
    (hchk : (decide loc.Nodup && (loc.take (k + 1)).all (fun y => decide (scope.names.lookup y = some .local)) && scope.names.all (fun x => decide (x.2 ≠ .cell)) && decide (k + 1 ≤ loc.length)) = true)
    (hf : SB W (cxOf scope loc d u) body f) : FC W fa (d + 1) (u + 3) (runNone loc.length k f) := by
  simp only [Bool.and_eq_true, decide_eq_true_eq, List.all_eq_true] at hchk
  obtain ⟨⟨⟨h1, h2⟩, h3⟩, h4⟩ := hchk
  have hvl : (cxOf scope loc d u).vars.length = loc.length := by simp [cxOf]
  have hvn : (cxOf scope loc d u).vars.map (·.1) = loc := by simp [cxOf, List.map_map, Function.comp_def]
  have e1 : (loc.take (k + 1)).length = k + 1 := by rw [List.length_take]; omega
  intro c hc hl hd hu x ok s σ fps Z Y R vs cvs hvs v σ' e Rr kk
  obtain ⟨hp', e', rfl⟩ := lift_some e
  unfold runNone at e'
  split at e'
  · rename_i hlen
    obtain ⟨fl, σ₂, hfl, rfl, hv⟩ := finish_some e'
    obtain ⟨oL, hoL⟩ := R.here
    have hcl : cvs.length = k := by rw [← hlen]; exact (All2.length hvs).symm
    have hcl' : (cvs ++ [Value.none]).length = (loc.take (k + 1)).length := by rw [e1]; simp [hcl]
    refine codeAny_call_def (fd := fnOf name qual params body scope dV kV doc pm an cdv ct) (body := body) (binds := (loc.take (k + 1)).zip (cvs ++ [Value.none])) (Nat.lt_of_le_of_lt (Nat.le_add_right _ _) ok.dep) ((R.K ok) _ _ ho) rfl ((R.T ok).nolimit) (codeRec_of (R.K ok) hcd) rfl (hbind s cvs (R.K ok) hcl) h3 ?_ (fun h₁ hns₁ hk₁ => ?_) hco hgen hk
    · intro y hy
      obtain ⟨a, b⟩ := y
      exact h2 a (List.of_mem_zip hy).1
    · have ok' : FxOk W (cxOf scope loc d u) (x.callee (envOf qual scope s.heap.objs.size fa cdv) (ground x s.heap fps Z Y) s.heap.objs.size oL Y) := callee_ok ok R hoL hc hl hd hu rfl hk rfl rfl rfl rfl (by rw [hvn]; exact h1) (fun y z a e => by cases e) (fun y a e => by cases e) (ground_keep R) rfl
      have F' : Fr (ground x s.heap fps Z Y) s.heap.objs.size h₁ (fun y => ((loc.take (k + 1)).zip (cvs ++ [Value.none])).reverse.lookup y) := ⟨hns₁, fun b o e => hk₁ b o (of_hideAll _ e), Nat.le_of_eq (hideAll_size _ _)⟩
      have R' : Rel W (cxOf scope loc d u) (x.callee (envOf qual scope s.heap.objs.size fa cdv) (ground x s.heap fps Z Y) s.heap.objs.size oL Y) h₁ ⟨(vs ++ [AV.none]).map some ++ List.replicate ((cxOf scope loc d u).vars.length - (loc.take (k + 1)).length) none, σ.hp⟩ fps Z ((x.L, oL) :: Y) := by
        refine rel_args (x' := x.callee (envOf qual scope s.heap.objs.size fa cdv) (ground x s.heap fps Z Y) s.heap.objs.size oL Y) (ns := loc.take (k + 1)) (cvs := cvs ++ [Value.none]) F' (ground_led R hoL hk₁ (Nat.le_refl _)) R.O (All2.append hvs (.cons rfl .nil)) hcl' ?_ ?_ (fun i nm cv g1 g2 _ => lookup_zip (h1.sublist (List.take_sublist _ _)) hcl' g1 g2) ?_ (fun p hp => hp)
        · intro i nm h
          rw [List.getElem?_take] at h
          split at h
          · exact ⟨false, by simp [cxOf, h]⟩
          · cases h
        · rw [e1, hvl]; omega
        · intro i nm h
          simp only [cxOf, List.getElem?_map] at h
          cases e : loc[i]? with
          | none => rw [e] at h; cases h
          | some n => rw [e] at h; cases h
      have e4 : ((cxOf scope loc d u).vars.length - (loc.take (k + 1)).length) = loc.length - (k + 1) := by rw [hvl, e1]
      rw [e4] at R'
      exact run_body (x := x) hf ok' rfl rfl rfl hoL R (ground_keep R) R' Ext.refl hfl hv kk
  · cases e'
end
end Mine

end
section
open PySem PySem.W PySem.Calls PyProof.Rows
set_option Elab.async false
namespace Mine
section
variable {W : Wd}
/-- the law called from without -/
theorem top_cells {fa : Addr} {name qual : Str} {params : Arguments} {body : List Stmt} {scope : Scope} {dV kV doc pm cdv ct oc : Value} {an od : Option Addr} {osl : Array (Option Value)} (vars : List (Str × Bool)) (d u : Nat) {f : AM AF}
    (ho : W.K.lookup fa = some ⟨oc, od, .func (fnOf name qual params body scope dV kV doc pm an cdv ct), osl⟩) (hcd : codeIn W.K cdv qual = true)
    (hbind : ∀ (s : Shared) (cvs : List Value), cvs.length = ((vars.map (·.1)).take 1).length → BindsTo s (fnOf name qual params body scope dV kV doc pm an cdv ct) ⟨cvs, []⟩ (((vars.map (·.1)).take 1).zip cvs))
    (hk : scope.kind = .function) (hco : scope.isCoroutine = false) (hgen : scope.isGenerator = false)
    (hchk : (decide (vars.map (·.1)).Nodup && (vars.take 1).all (fun y => decide (scope.names.lookup y.1 = some (if y.2 then .cell else .local))) && vars.all (fun y => !y.2 || ((cellsFrom 0 scope.names []).lookup y.1).isSome) && decide ((cellsFrom 0 scope.names []).map (·.1)).Nodup && decide (1 ≤ vars.length)) = true)
    {A : Around} {s : Shared} {a : Addr} {vs : List Value} {ns : List Int} (KX : W.K.In s.heap) (T : Top W.p W.loose W.mean W.mg W.mb s.heap) (hA : A.frames = some []) (hh : A.handled = none) (hdep : A.depth + 1 + d < recursionLimit) (huni : A.units + 3 + u < cLine)
    (hL : s.heap.IsList a vs.toArray) (hi : IntsAre vs ns) (hf : SB W { cxOfC scope vars d u with scr := some (a, ns) } body f) {v : AV} {hp' : List AO} (e : runBody vars.length 1 f [.scr a ns] [] = some (v, hp')) {Rr : Result → Shared → Prop}
    (k : ∀ h' tk' cv Z L m fps, VR (rho fps) Z v cv → Fr s.heap L h' m → Rr (.ok (.ret cv)) { s with heap := h', toks := tk' }) :
    codeAny (model W.prog W.w) A (.call (.ref fa) ⟨[.ref a], []⟩) Rr s := by
  simp only [Bool.and_eq_true, decide_eq_true_eq, List.all_eq_true] at hchk
  obtain ⟨⟨⟨⟨h1, h2⟩, h3⟩, h4⟩, h5⟩ := hchk
  have hkl : ((vars.map (·.1)).take 1).length = 1 := by rw [List.length_take, List.length_map]; omega
  unfold runBody at e
  rw [if_pos (show [AV.scr a ns].length = 1 from rfl)] at e
  obtain ⟨fl, σ₂, hfl, rfl, hv⟩ := finish_some e
  have hcl : [Value.ref a].length = ((vars.map (·.1)).take 1).length := hkl.symm
  have nd := h1.sublist (List.take_sublist 1 _)
  have kind : ∀ (i : Nat) nm, ((vars.map (·.1)).take 1)[i]? = some nm → ∃ b, vars[i]? = some (nm, b) ∧ scope.names.lookup nm = some (if b then .cell else .local) := fun i nm g1 => by
    rw [List.getElem?_take] at g1
    split at g1
    · rename_i hik
      rw [List.getElem?_map] at g1
      cases e : vars[i]? with
      | none => rw [e] at g1; cases g1
      | some y =>
        rw [e] at g1; cases g1
        refine ⟨y.2, rfl, h2 y ?_⟩
        refine List.mem_of_getElem? (i := i) ?_
        rw [List.getElem?_take_of_lt hik, e]
    · cases g1
  refine codeAny_call_function (fd := fnOf name qual params body scope dV kV doc pm an cdv ct) (body := body) (Nat.lt_of_le_of_lt (Nat.le_trans (Nat.le_succ _) (Nat.le_add_right _ _)) hdep) (KX _ _ ho) rfl hco hgen rfl (codeRec_of KX hcd) (hbind s [.ref a] hcl _ _ _ _ ?_)
  refine wpAny_newFunctionEnv_cells hk (kindsX ?_ _) fun env' he s' xx => ?_
  · rw [List.all_eq_true]
    intro y hy
    obtain ⟨c, b⟩ := y
    obtain ⟨i, hi⟩ := List.getElem?_of_mem (List.of_mem_zip hy).1
    obtain ⟨bb, _, e2⟩ := kind i c hi
    show (scope.names.lookup c == some .local || scope.names.lookup c == some .cell) = true
    rw [e2]
    cases bb <;> rfl
  · subst he
    refine ⟨T.nolimit.keeps xx.toInCall.keep, codeAny_func ?_⟩
    obtain ⟨h₁, tk, rfl, _⟩ := xx.done
    have hk₁ := xx.toInCall.keep
    generalize hL' : s.heap.objs.size = L' at *
    obtain ⟨cells, NC, CA⟩ := Cl.news (h₀ := s.heap) (Nat.le_of_eq hL') fun n c hm => ⟨xx.cell n c (lookup_of_mem_nodup (cellsFrom_names scope.names 0 (L' + 1) [] [] rfl ▸ h4) hm), xx.above n c hm⟩
    obtain ⟨cm1, cm2⟩ := cellsAre_mem CA
    obtain ⟨cs1, cs2⟩ := cellsFrom_snd scope.names (L' + 1) [] (by simp) (fun _ h => nomatch h)
    have ok' : FxOk W { cxOfC scope vars d u with scr := some (a, ns) } { A := A.deeper (envOfC qual scope L' fa cdv), A₀ := A, env := envOfC qual scope L' fa cdv, base := s.heap, h₀ := s.heap, L := L', outer := [], U := [], ep := 0, Fs := [] } := by
      refine ⟨rfl, hk, rfl, rfl, rfl, h1, fun y z c e1 e2 => ?_, KX, T, hdep, huni, fun _ => hh, fun _ => ⟨Around.frames_deeper hA, rfl, fun _ h => nomatch h⟩, (fun _ _ _ _ hp => nomatch hp), fun b l e => ?_⟩
      rotate_left
      · have e' : some (a, ns) = some (b, l) := e
        cases e'
        exact ⟨vs, hL, hi⟩
      have m1 := mem_of_lookup e1
      have m2 := mem_of_lookup e2
      obtain ⟨i, hi⟩ := List.getElem?_of_mem m1
      obtain ⟨j, hj⟩ := List.getElem?_of_mem m2
      have q1 : ((cellsFrom (L' + 1) scope.names []).map (·.2))[i]? = some c := by rw [List.getElem?_map]; exact congrArg (Option.map (·.2)) hi
      have q2 : ((cellsFrom (L' + 1) scope.names []).map (·.2))[j]? = some c := by rw [List.getElem?_map]; exact congrArg (Option.map (·.2)) hj
      obtain ⟨l1, r1⟩ := List.getElem?_eq_some_iff.mp q1
      obtain ⟨l2, r2⟩ := List.getElem?_eq_some_iff.mp q2
      have hij : i = j := (List.getElem_inj cs1).mp (r1.trans r2.symm)
      subst hij
      rw [hi] at hj
      cases hj; rfl
    have hnames : (cellsFrom (L' + 1) scope.names []).map (·.1) = (cellsFrom 0 scope.names []).map (·.1) := cellsFrom_names scope.names _ _ [] [] rfl
    have F' : Fr s.heap L' h₁ (bindL (envOfC qual scope L' fa cdv).kindOf (((vars.map (·.1)).take 1).zip [.ref a]) fun _ => none) := ⟨xx.toInCall.ns, fun b o e => hk₁ b o e, Nat.le_of_eq hL'⟩
    have R' : Rel W { cxOfC scope vars d u with scr := some (a, ns) } { A := A.deeper (envOfC qual scope L' fa cdv), A₀ := A, env := envOfC qual scope L' fa cdv, base := s.heap, h₀ := s.heap, L := L', outer := [], U := [], ep := 0, Fs := [] } h₁ ⟨[AV.scr a ns].map some ++ List.replicate ({ cxOfC scope vars d u with scr := some (a, ns) }.vars.length - ((vars.map (·.1)).take 1).length) none, []⟩ [] [] cells := by
      refine rel_args (x' := { A := A.deeper (envOfC qual scope L' fa cdv), A₀ := A, env := envOfC qual scope L' fa cdv, base := s.heap, h₀ := s.heap, L := L', outer := [], U := [], ep := 0, Fs := [] }) (ns := (vars.map (·.1)).take 1) (cvs := [.ref a]) F' ?_ .nil (.cons (show VR (rho []) [] (AV.scr a ns) (.ref a) from rfl) .nil) hcl ?_ ?_ ?_ ?_ (fun p hp => nomatch hp)
      · have H : Led s.heap L' h₁ cells := ⟨NC, by rw [cm1]; exact cs1⟩
        simpa using H
      · intro i nm g1
        obtain ⟨b, e1, _⟩ := kind i nm g1
        exact ⟨b, e1⟩
      · rw [hkl]; exact h5
      · intro i nm cv g1 g2 g3
        obtain ⟨b, e1, e2⟩ := kind i nm g1
        have e3 : vars[i]? = some (nm, false) := g3
        rw [e1] at e3; cases e3
        exact bindL_at nd g1 g2 e2
      · intro i nm g3
        have e3 : vars[i]? = some (nm, true) := g3
        have hs : ((cellsFrom 0 scope.names []).lookup nm).isSome = true := by
          have := h3 _ (List.mem_of_getElem? e3)
          simpa using this
        obtain ⟨a0, ha0⟩ := Option.isSome_iff_exists.mp hs
        have : nm ∈ (cellsFrom (L' + 1) scope.names []).map (·.1) := by rw [hnames]; exact List.mem_map.mpr ⟨_, mem_of_lookup ha0, rfl⟩
        obtain ⟨p, hp, rfl⟩ := List.mem_map.mp this
        obtain ⟨b, hb1, hb2⟩ := lookup_some_of_mem (l := cellsFrom (L' + 1) scope.names []) (n := p.1) (a := p.2) hp
        obtain ⟨o, ho1, ho2⟩ := cm2 _ _ hb2
        refine ⟨b, o, _, hb1, ho1, ho2, fun cv g1 g2 => ?_⟩
        obtain ⟨bb, e1, e2⟩ := kind i _ g1
        rw [e1] at e3; cases e3
        refine bindC_at nd g1 g2 ?_
        show scope.names.lookup p.1 ≠ some .local
        rw [e2]; decide
    have e5 : ({ cxOfC scope vars d u with scr := some (a, ns) }.vars.length - ((vars.map (·.1)).take 1).length) = vars.length - 1 := by rw [hkl]; rfl
    rw [e5] at R'
    refine hf _ ok' { s with heap := h₁, toks := tk } _ [] _ cells R' fl σ₂ hfl _ _ fun h₂ tk₂ fps₂ Z₂ Y₂ cfl R₂ X₂ p₂ => ?_
    obtain ⟨m₂, F₂, _⟩ := R₂.fr
    refine k h₂ tk₂ _ Z₂ L' m₂ fps₂ (hv _ _ _ p₂) ⟨F₂.ns, fun b o eb => ?_, Nat.le_of_eq hL'⟩
    exact F₂.keep b o eb
end
end Mine

end
section
open PySem PySem.W PySem.Calls PyProof.Rows
set_option Elab.async false
set_option maxRecDepth 100000
namespace Mine
noncomputable def Wof (w : World) (mean : ExcName → Option Value) (mg mb : Str → Option Value) : Wd := ⟨w, PySem.Challenge.rw_nq0183_01.row.prog, hd.heap_1 w.params, view, looseW view [Str.ofString "_NodeInfo"], mean, mg, mb, 137, 40⟩
section
variable {w : World} {mean : ExcName → Option Value} {mg mb : Str → Option Value}
theorem as0 : AttrS (Wof w mean mg mb) (sNm 0) := ⟨by rfl, by rfl, ⟨_, by rfl, by rfl⟩, by rfl, by rfl, by rfl⟩
theorem as1 : AttrS (Wof w mean mg mb) (sNm 1) := ⟨by rfl, by rfl, ⟨_, by rfl, by rfl⟩, by rfl, by rfl, by rfl⟩
theorem as2 : AttrS (Wof w mean mg mb) (sNm 2) := ⟨by rfl, by rfl, ⟨_, by rfl, by rfl⟩, by rfl, by rfl, by rfl⟩
theorem as3 : AttrS (Wof w mean mg mb) (sNm 3) := ⟨by rfl, by rfl, ⟨_, by rfl, by rfl⟩, by rfl, by rfl, by rfl⟩
theorem an0 : AttrN (Wof w mean mg mb) "node" 0 := ⟨by rfl, by rfl, ⟨_, by rfl, by rfl, by rfl, by rfl, by rfl, by rfl⟩, by rfl, by rfl⟩
theorem an1 : AttrN (Wof w mean mg mb) "npredecessors" 1 := ⟨by rfl, by rfl, ⟨_, by rfl, by rfl, by rfl, by rfl, by rfl, by rfl⟩, by rfl, by rfl⟩
theorem an2 : AttrN (Wof w mean mg mb) "successors" 2 := ⟨by rfl, by rfl, ⟨_, by rfl, by rfl, by rfl, by rfl, by rfl, by rfl⟩, by rfl, by rfl⟩
theorem msAdd : MethS (Wof w mean mg mb) "add" 87 := ⟨by rfl, by rfl, by rfl, by rfl, fun _ _ _ _ _ _ _ _ => by rfl⟩
theorem msGni : MethS (Wof w mean mg mb) "_get_nodeinfo" 80 := ⟨by rfl, by rfl, by rfl, by rfl, fun _ _ _ _ _ _ _ _ => by rfl⟩
theorem msPrep : MethS (Wof w mean mg mb) "prepare" 92 := ⟨by rfl, by rfl, by rfl, by rfl, fun _ _ _ _ _ _ _ _ => by rfl⟩
theorem msRdy : MethS (Wof w mean mg mb) "get_ready" 99 := ⟨by rfl, by rfl, by rfl, by rfl, fun _ _ _ _ _ _ _ _ => by rfl⟩
theorem msAct : MethS (Wof w mean mg mb) "is_active" 106 := ⟨by rfl, by rfl, by rfl, by rfl, fun _ _ _ _ _ _ _ _ => by rfl⟩
theorem msDone : MethS (Wof w mean mg mb) "done" 120 := ⟨by rfl, by rfl, by rfl, by rfl, fun _ _ _ _ _ _ _ _ => by rfl⟩
theorem msFc : MethS (Wof w mean mg mb) "_find_cycle" 127 := ⟨by rfl, by rfl, by rfl, by rfl, fun _ _ _ _ _ _ _ _ => by rfl⟩
theorem bsAdd : BindS (Wof w mean mg mb) "add" 87 := ⟨by rfl, by rfl, by rfl, fun _ _ _ _ _ _ _ _ _ => by rfl⟩
end
end Mine

end
section
open PySem PySem.W PySem.Calls PyProof.Rows
set_option Elab.async false
namespace Mine
noncomputable def fSd : AM AF :=
  andThen
      (bnd (bnd (pLoc 0) fun a => bnd (pLoc 2) fun b => pItem a b) fun v =>
        bnd (pStore 3 v) fun x => ok AF.next)
      (andThen
        (fun σ =>
          aWhile false σ.hp.length
            (bnd (pLoc 2) fun a => bnd (pLoc 1) fun b => bnd (pCmpA CmpOp.Gt a b) pBool)
            (andThen
              (bnd
                (bnd (bnd (pLoc 2) fun a => bnd (ok (AV.int 1)) fun b => pInt2 (opG Operator.Sub) a b)
                  fun a => bnd (ok (AV.int 1)) fun b => pInt2 (opG Operator.RShift) a b)
                fun v => bnd (pStore 4 v) fun x => ok AF.next)
              (andThen
                (bnd (bnd (pLoc 0) fun a => bnd (pLoc 4) fun b => pItem a b) fun v =>
                  bnd (pStore 5 v) fun x => ok AF.next)
                (andThen
                  (bnd
                    (bnd (pLoc 3) fun a =>
                      bnd (pLoc 5) fun b => bnd (pCmpA CmpOp.Lt a b) pBool)
                    fun b =>
                    if b = true then
                      andThen
                        (bnd (pLoc 5) fun v =>
                          bnd (pLoc 0) fun a =>
                            bnd (pLoc 2) fun b => bnd (pSetItem v a b) fun x => ok AF.next)
                        (andThen
                          (bnd (pLoc 4) fun v => bnd (pStore 2 v) fun x => ok AF.next)
                          (ok AF.cont))
                    else ok AF.next)
                  (ok AF.brk))))
            (ok AF.next) 64 σ)
        (bnd (pLoc 3) fun v =>
          bnd (pLoc 0) fun a => bnd (pLoc 2) fun b => bnd (pSetItem v a b) fun x => ok AF.next))
noncomputable def qSd : HF := runBody 6 3 fSd
noncomputable def fImode : AM AF :=
  bnd (bnd (pLoc 0) fun a => bnd (ok (AV.int 4095)) fun b => pInt2 (opG Operator.BitAnd) a b) fun v => ok (AF.ret v)
noncomputable def qImode : HF := runBody 1 1 fImode
noncomputable def fIfmt : AM AF :=
  bnd (bnd (pLoc 0) fun a => bnd (ok (AV.int 61440)) fun b => pInt2 (opG Operator.BitAnd) a b) fun v => ok (AF.ret v)
noncomputable def qIfmt : HF := runBody 1 1 fIfmt
noncomputable def fIsdir : AM AF :=
  bnd
      (bnd (bnd (bnd (pLoc 0) fun v => bnd (ok []) fun l => ok (v :: l)) (lift qIfmt)) fun a =>
        bnd (ok (AV.int 16384)) fun b => pCmpA CmpOp.Eq a b)
      fun v => ok (AF.ret v)
noncomputable def qIsdir : HF := runBody 1 1 fIsdir
noncomputable def fIsreg : AM AF :=
  bnd
      (bnd (bnd (bnd (pLoc 0) fun v => bnd (ok []) fun l => ok (v :: l)) (lift qIfmt)) fun a =>
        bnd (ok (AV.int 32768)) fun b => pCmpA CmpOp.Eq a b)
      fun v => ok (AF.ret v)
noncomputable def qIsreg : HF := runBody 1 1 fIsreg
noncomputable def fSu : AM AF :=
  andThen
      (bnd (bnd (bnd (pLoc 0) fun v => bnd (ok []) fun l => ok (v :: l)) pLen) fun v =>
        bnd (pStore 2 v) fun x => ok AF.next)
      (andThen (bnd (pLoc 1) fun v => bnd (pStore 3 v) fun x => ok AF.next)
        (andThen
          (bnd (bnd (pLoc 0) fun a => bnd (pLoc 1) fun b => pItem a b) fun v =>
            bnd (pStore 4 v) fun x => ok AF.next)
          (andThen
            (bnd
              (bnd (bnd (ok (AV.int 2)) fun a => bnd (pLoc 1) fun b => pInt2 (opG Operator.Mult) a b) fun a =>
                bnd (ok (AV.int 1)) fun b => pInt2 (opG Operator.Add) a b)
              fun v => bnd (pStore 5 v) fun x => ok AF.next)
            (andThen
              (fun σ =>
                aWhile false σ.hp.length
                  (bnd (pLoc 5) fun a =>
                    bnd (pLoc 2) fun b => bnd (pCmpA CmpOp.Lt a b) pBool)
                  (andThen
                    (bnd
                      (bnd (pLoc 5) fun a =>
                        bnd (ok (AV.int 1)) fun b => pInt2 (opG Operator.Add) a b)
                      fun v => bnd (pStore 6 v) fun x => ok AF.next)
                    (andThen
                      (bnd
                        (bnd
                          (bnd (pLoc 6) fun a =>
                            bnd (pLoc 2) fun b => bnd (pCmpA CmpOp.Lt a b) pBool)
                          fun b =>
                          if b = true then
                            bnd
                              (bnd
                                (bnd (bnd (pLoc 0) fun a => bnd (pLoc 5) fun b => pItem a b)
                                  fun a =>
                                  bnd (bnd (pLoc 0) fun a => bnd (pLoc 6) fun b => pItem a b)
                                    fun b => bnd (pCmpA CmpOp.Lt a b) pBool)
                                fun b => ok !b)
                              fun b => if b = true then ok true else ok false
                          else ok false)
                        fun b =>
                        if b = true then
                          bnd (pLoc 6) fun v =>
                            bnd (pStore 5 v) fun x => ok AF.next
                        else ok AF.next)
                      (andThen
                        (bnd (bnd (pLoc 0) fun a => bnd (pLoc 5) fun b => pItem a b) fun v =>
                          bnd (pLoc 0) fun a => bnd (pLoc 1) fun b => bnd (pSetItem v a b) fun x => ok AF.next)
                        (andThen
                          (bnd (pLoc 5) fun v => bnd (pStore 1 v) fun x => ok AF.next)
                          (bnd
                            (bnd
                              (bnd (ok (AV.int 2)) fun a => bnd (pLoc 1) fun b => pInt2 (opG Operator.Mult) a b)
                              fun a => bnd (ok (AV.int 1)) fun b => pInt2 (opG Operator.Add) a b)
                            fun v => bnd (pStore 5 v) fun x => ok AF.next)))))
                  (ok AF.next) 64 σ)
              (andThen
                (bnd (pLoc 4) fun v =>
                  bnd (pLoc 0) fun a => bnd (pLoc 1) fun b => bnd (pSetItem v a b) fun x => ok AF.next)
                (bnd
                  (bnd
                    (bnd (pLoc 0) fun v =>
                      bnd
                        (bnd (pLoc 3) fun v =>
                          bnd (bnd (pLoc 1) fun v => bnd (ok []) fun l => ok (v :: l)) fun l => ok (v :: l))
                        fun l => ok (v :: l))
                    (lift qSd))
                  fun x => ok AF.next))))))
noncomputable def qSu : HF := runBody 7 2 fSu
noncomputable def fPush : AM AF :=
  andThen
      (bnd
        (bnd (pLoc 0) fun ov σ =>
          if isL ov σ = true then
            bnd (bnd (pLoc 1) fun v => bnd (ok []) fun l => ok (v :: l)) (fun vs => pAppend (ov :: vs)) σ
          else none)
        fun x => ok AF.next)
      (bnd
        (bnd
          (bnd (pLoc 0) fun v =>
            bnd
              (bnd (ok (AV.int 0)) fun v =>
                bnd
                  (bnd
                    (bnd (bnd (bnd (pLoc 0) fun v => bnd (ok []) fun l => ok (v :: l)) pLen) fun a =>
                      bnd (ok (AV.int 1)) fun b => pInt2 (opG Operator.Sub) a b)
                    fun v => bnd (ok []) fun l => ok (v :: l))
                  fun l => ok (v :: l))
              fun l => ok (v :: l))
          (lift qSd))
        fun x => ok AF.next)
noncomputable def qPush : HF := runBody 2 2 fPush
noncomputable def fPop : AM AF :=
  andThen
      (bnd (bnd (pLoc 0) fun ov σ => if isL ov σ = true then bnd (ok []) (fun vs => pPop (ov :: vs)) σ else none)
        fun v => bnd (pStore 1 v) fun x => ok AF.next)
      (andThen
        (bnd (bnd (pLoc 0) pTruth) fun b =>
          if b = true then
            andThen
              (bnd (bnd (pLoc 0) fun a => bnd (ok (AV.int 0)) fun b => pItem a b) fun v =>
                bnd (pStore 2 v) fun x => ok AF.next)
              (andThen
                (bnd (pLoc 1) fun v =>
                  bnd (pLoc 0) fun a => bnd (ok (AV.int 0)) fun b => bnd (pSetItem v a b) fun x => ok AF.next)
                (andThen
                  (bnd
                    (bnd
                      (bnd (pLoc 0) fun v =>
                        bnd (bnd (ok (AV.int 0)) fun v => bnd (ok []) fun l => ok (v :: l)) fun l => ok (v :: l))
                      (lift qSu))
                    fun x => ok AF.next)
                  (bnd (pLoc 2) fun v => ok (AF.ret v))))
          else ok AF.next)
        (bnd (pLoc 1) fun v => ok (AF.ret v)))
noncomputable def qPop : HF := runBody 3 1 fPop
noncomputable def fIni : AM AF :=
  andThen (bnd (pLoc 1) fun v => bnd (pLoc 0) fun a => bnd (pPutN 0 v a) fun x => ok AF.next)
      (andThen (bnd (ok (AV.int 0)) fun v => bnd (pLoc 0) fun a => bnd (pPutN 1 v a) fun x => ok AF.next)
        (bnd (bnd (ok []) pNewList) fun v => bnd (pLoc 0) fun a => bnd (pPutN 2 v a) fun x => ok AF.next))
noncomputable def qIni : HF := runBody 2 2 fIni
noncomputable def fIns : AM AF :=
  andThen (bnd pDict0 fun v => bnd (pLoc 0) fun a => bnd (pPutS 0 v a) fun x => ok AF.next)
      (andThen (bnd (ok AV.none) fun v => bnd (pLoc 0) fun a => bnd (pPutS 1 v a) fun x => ok AF.next)
        (andThen (bnd (ok (AV.int 0)) fun v => bnd (pLoc 0) fun a => bnd (pPutS 2 v a) fun x => ok AF.next)
          (andThen (bnd (ok (AV.int 0)) fun v => bnd (pLoc 0) fun a => bnd (pPutS 3 v a) fun x => ok AF.next)
            (bnd (bnd (pLoc 1) fun a => bnd (ok AV.none) fun b => bnd (pCmpA CmpOp.IsNot a b) pBool) fun b =>
              if b = true then no else ok AF.next))))
noncomputable def qIns : HF := runNone 4 1 fIns
noncomputable def fGni : AM AF :=
  andThen
      (bnd
        (bnd
          (bnd
            (bnd (bnd (pLoc 0) (pGetS 0)) fun ov σ =>
              if isD ov σ = true then
                bnd (bnd (pLoc 1) fun v => bnd (ok []) fun l => ok (v :: l)) (fun vs => pGet (ov :: vs)) σ
              else none)
            fun v => bnd (pStore 2 v) fun x => ok v)
          fun a => bnd (ok AV.none) fun b => bnd (pCmpA CmpOp.Is a b) pBool)
        fun b =>
        if b = true then
          bnd
            (bnd (bnd (pLoc 1) fun v => bnd (ok []) fun l => ok (v :: l))
              (lift (gClass (AO.npart []) qIni)))
            fun v =>
            bnd (bnd (pLoc 0) (pGetS 0)) fun a =>
              bnd (pLoc 1) fun b => bnd (pSetItem v a b) fun x => bnd (pStore 2 v) fun x => ok AF.next
        else ok AF.next)
      (bnd (pLoc 2) fun v => ok (AF.ret v))
noncomputable def qGni : HF := runBody 3 2 fGni
noncomputable def fAdd : AM AF :=
  andThen
      (bnd (bnd (bnd (pLoc 0) (pGetS 1)) fun a => bnd (ok AV.none) fun b => bnd (pCmpA CmpOp.IsNot a b) pBool) fun b =>
        if b = true then no else ok AF.next)
      (andThen
        (bnd
          (bnd (pLoc 0) fun ov σ =>
            if isSo ov σ = true then
              bnd (bnd (pLoc 1) fun v => bnd (ok []) fun l => ok (v :: l))
                (fun vs => lift qGni (ov :: vs)) σ
            else none)
          fun v => bnd (pStore 3 v) fun x => ok AF.next)
        (andThen
          (bnd (pLoc 3) fun a =>
            bnd (pGetN 1 a) fun old =>
              bnd (bnd (bnd (pLoc 2) fun v => bnd (ok []) fun l => ok (v :: l)) pLen) fun v =>
                bnd (pInt2 gAdd old v) fun new => bnd (pPutN 1 new a) fun x => ok AF.next)
          (bnd (bnd (pLoc 2) pIter) fun src =>
            AF.unlocked fun σ =>
              aFor src false σ.hp.length (pStore 4)
                (andThen
                  (bnd
                    (bnd (pLoc 0) fun ov σ =>
                      if isSo ov σ = true then
                        bnd (bnd (pLoc 4) fun v => bnd (ok []) fun l => ok (v :: l))
                          (fun vs => lift qGni (ov :: vs)) σ
                      else none)
                    fun v => bnd (pStore 5 v) fun x => ok AF.next)
                  (bnd
                    (bnd (bnd (pLoc 5) (pGetN 2)) fun ov σ =>
                      if isL ov σ = true then
                        bnd (bnd (pLoc 1) fun v => bnd (ok []) fun l => ok (v :: l))
                          (fun vs => pAppend (ov :: vs)) σ
                      else none)
                    fun x => ok AF.next))
                64 0 σ)))
noncomputable def qAdd : HF := runRest 6 2 fAdd
noncomputable def fRdy : AM AF :=
  andThen
      (bnd (bnd (bnd (pLoc 0) (pGetS 1)) fun a => bnd (ok AV.none) fun b => bnd (pCmpA CmpOp.Is a b) pBool) fun b =>
        if b = true then no else ok AF.next)
      (andThen
        (bnd (bnd (bnd (bnd (pLoc 0) (pGetS 1)) fun v => bnd (ok []) fun l => ok (v :: l)) pTupOf) fun v =>
          bnd (pStore 1 v) fun x => ok AF.next)
        (andThen (bnd (bnd (pLoc 0) (pGetS 0)) fun v => bnd (pStore 2 v) fun x => ok AF.next)
          (andThen
            (bnd (bnd (pLoc 1) pIter) fun src =>
              AF.unlocked fun σ =>
                aFor src false σ.hp.length (pStore 3)
                  (bnd (ok (AV.int (-1))) fun v =>
                    bnd (bnd (pLoc 2) fun a => bnd (pLoc 3) fun b => pItem a b) fun a =>
                      bnd (pPutN 1 v a) fun x => ok AF.next)
                  64 0 σ)
            (andThen
              (bnd
                (bnd (bnd (pLoc 0) (pGetS 1)) fun ov σ =>
                  if isL ov σ = true then bnd (ok []) (fun vs => pClear (ov :: vs)) σ else none)
                fun x => ok AF.next)
              (andThen
                (bnd (pLoc 0) fun a =>
                  bnd (pGetS 2 a) fun old =>
                    bnd (bnd (bnd (pLoc 1) fun v => bnd (ok []) fun l => ok (v :: l)) pLen) fun v =>
                      bnd (pInt2 gAdd old v) fun new => bnd (pPutS 2 new a) fun x => ok AF.next)
                (bnd (pLoc 1) fun v => ok (AF.ret v)))))))
noncomputable def qRdy : HF := runBody 4 1 fRdy
noncomputable def fAct : AM AF :=
  andThen
      (bnd (bnd (bnd (pLoc 0) (pGetS 1)) fun a => bnd (ok AV.none) fun b => bnd (pCmpA CmpOp.Is a b) pBool) fun b =>
        if b = true then no else ok AF.next)
      (bnd
        (bnd (bnd (bnd (pLoc 0) (pGetS 3)) fun a => bnd (bnd (pLoc 0) (pGetS 2)) fun b => pCmpA CmpOp.Lt a b) fun v =>
          bnd (pTruth v) fun t =>
            if t = true then ok v
            else bnd (bnd (bnd (pLoc 0) (pGetS 1)) fun v => bnd (ok []) fun l => ok (v :: l)) pBoolC)
        fun v => ok (AF.ret v))
noncomputable def qAct : HF := runBody 1 1 fAct
noncomputable def fDone : AM AF :=
  andThen
      (bnd (bnd (bnd (pLoc 0) (pGetS 1)) fun a => bnd (ok AV.none) fun b => bnd (pCmpA CmpOp.Is a b) pBool) fun b =>
        if b = true then no else ok AF.next)
      (andThen (bnd (bnd (pLoc 0) (pGetS 0)) fun v => bnd (pStore 2 v) fun x => ok AF.next)
        (bnd (bnd (pLoc 1) pIter) fun src =>
          AF.unlocked fun σ =>
            aFor src false σ.hp.length (pStore 3)
              (andThen
                (bnd
                  (bnd
                    (bnd
                      (bnd (pLoc 2) fun ov σ =>
                        if isD ov σ = true then
                          bnd (bnd (pLoc 3) fun v => bnd (ok []) fun l => ok (v :: l))
                            (fun vs => pGet (ov :: vs)) σ
                        else none)
                      fun v => bnd (pStore 4 v) fun x => ok v)
                    fun a => bnd (ok AV.none) fun b => bnd (pCmpA CmpOp.Is a b) pBool)
                  fun b => if b = true then no else ok AF.next)
                (andThen
                  (bnd (bnd (pLoc 4) (pGetN 1)) fun v =>
                    bnd (pStore 5 v) fun x => ok AF.next)
                  (andThen
                    (bnd
                      (bnd (pLoc 5) fun a =>
                        bnd (ok (AV.int (-1))) fun b => bnd (pCmpA CmpOp.NotEq a b) pBool)
                      fun b =>
                      if b = true then
                        bnd
                          (bnd (pLoc 5) fun a =>
                            bnd (ok (AV.int 0)) fun b => bnd (pCmpA CmpOp.GtE a b) pBool)
                          fun b =>
                          if b = true then no
                          else
                            bnd
                              (bnd (pLoc 5) fun a =>
                                bnd (ok (AV.int (-2))) fun b => bnd (pCmpA CmpOp.Eq a b) pBool)
                              fun b => if b = true then no else no
                      else ok AF.next)
                    (andThen
                      (bnd (ok (AV.int (-2))) fun v =>
                        bnd (pLoc 4) fun a => bnd (pPutN 1 v a) fun x => ok AF.next)
                      (andThen
                        (bnd (bnd (bnd (pLoc 4) (pGetN 2)) pIter) fun src =>
                          AF.unlocked fun σ =>
                            aFor src false σ.hp.length (pStore 6)
                              (andThen
                                (bnd
                                  (bnd (pLoc 2) fun a =>
                                    bnd (pLoc 6) fun b => pItem a b)
                                  fun v => bnd (pStore 7 v) fun x => ok AF.next)
                                (andThen
                                  (bnd (pLoc 7) fun a =>
                                    bnd (pGetN 1 a) fun old =>
                                      bnd (ok (AV.int 1)) fun v =>
                                        bnd (pInt2 gSub old v) fun new => bnd (pPutN 1 new a) fun x => ok AF.next)
                                  (bnd
                                    (bnd (bnd (pLoc 7) (pGetN 1)) fun a =>
                                      bnd (ok (AV.int 0)) fun b => bnd (pCmpA CmpOp.Eq a b) pBool)
                                    fun b =>
                                    if b = true then
                                      bnd
                                        (bnd (bnd (pLoc 0) (pGetS 1)) fun ov σ =>
                                          if isL ov σ = true then
                                            bnd
                                              (bnd (pLoc 6) fun v =>
                                                bnd (ok []) fun l => ok (v :: l))
                                              (fun vs => pAppend (ov :: vs)) σ
                                          else none)
                                        fun x => ok AF.next
                                    else ok AF.next)))
                              64 0 σ)
                        (bnd (pLoc 0) fun a =>
                          bnd (pGetS 3 a) fun old =>
                            bnd (ok (AV.int 1)) fun v =>
                              bnd (pInt2 gAdd old v) fun new => bnd (pPutS 3 new a) fun x => ok AF.next))))))
              64 0 σ))
noncomputable def qDone : HF := runRest 8 1 fDone
noncomputable def fFc : AM AF :=
  andThen (bnd (bnd (pLoc 0) (pGetS 0)) fun v => bnd (pStore 1 v) fun x => ok AF.next)
      (andThen (bnd (bnd (ok []) pNewList) fun v => bnd (pStore 2 v) fun x => ok AF.next)
        (andThen (bnd (bnd (ok []) pNewList) fun v => bnd (pStore 3 v) fun x => ok AF.next)
          (andThen (bnd (bnd (ok []) pSet0) fun v => bnd (pStore 4 v) fun x => ok AF.next)
            (andThen (bnd pDict0 fun v => bnd (pStore 5 v) fun x => ok AF.next)
              (andThen
                (bnd (bnd (pLoc 1) pIter) fun src =>
                  AF.unlocked fun σ =>
                    aFor src false σ.hp.length (pStore 6)
                      (andThen
                        (bnd
                          (bnd (pLoc 6) fun a =>
                            bnd (pLoc 4) fun b => bnd (pCmpA CmpOp.In a b) pBool)
                          fun b => if b = true then ok AF.cont else ok AF.next)
                        fun σ =>
                        aWhile false σ.hp.length (bnd (ok (AV.bool true)) pTruth)
                          (andThen
                            (bnd
                              (bnd (pLoc 6) fun a =>
                                bnd (pLoc 4) fun b => bnd (pCmpA CmpOp.In a b) pBool)
                              fun b =>
                              if b = true then
                                bnd
                                  (bnd (pLoc 6) fun a =>
                                    bnd (pLoc 5) fun b => bnd (pCmpA CmpOp.In a b) pBool)
                                  fun b => if b = true then no else ok AF.next
                              else
                                andThen
                                  (bnd
                                    (bnd (pLoc 4) fun ov σ =>
                                      if isS ov σ = true then
                                        bnd
                                          (bnd (pLoc 6) fun v =>
                                            bnd (ok []) fun l => ok (v :: l))
                                          (fun vs => pAdd (ov :: vs)) σ
                                      else none)
                                    fun x => ok AF.next)
                                  (andThen
                                    (bnd
                                      (bnd (pLoc 3) fun ov σ =>
                                        if isL ov σ = true then
                                          bnd
                                            (bnd
                                              (bnd
                                                (bnd
                                                  (bnd (pLoc 1) fun a =>
                                                    bnd (pLoc 6) fun b => pItem a b)
                                                  (pGetN 2))
                                                pMeth)
                                              fun v => bnd (ok []) fun l => ok (v :: l))
                                            (fun vs => pAppend (ov :: vs)) σ
                                        else none)
                                      fun x => ok AF.next)
                                    (andThen
                                      (bnd (bnd (bnd (pLoc 2) fun v => bnd (ok []) fun l => ok (v :: l)) pLen)
                                        fun v =>
                                        bnd (pLoc 5) fun a =>
                                          bnd (pLoc 6) fun b =>
                                            bnd (pSetItem v a b) fun x => ok AF.next)
                                      (bnd
                                        (bnd (pLoc 2) fun ov σ =>
                                          if isL ov σ = true then
                                            bnd
                                              (bnd (pLoc 6) fun v =>
                                                bnd (ok []) fun l => ok (v :: l))
                                              (fun vs => pAppend (ov :: vs)) σ
                                          else none)
                                        fun x => ok AF.next))))
                            fun σ =>
                            aWhile false σ.hp.length (bnd (pLoc 2) pTruth)
                              (bnd (bnd (pLoc 3) pLast) fun v σ =>
                                match pNextM v σ with
                                | some (some u, σ') =>
                                  bnd (pStore 6 u) (fun x => ok AF.brk) σ'
                                | some (none, σ') =>
                                  andThen
                                    (bnd (pLoc 5) fun a =>
                                      bnd
                                        (bnd (pLoc 2) fun ov σ =>
                                          if isL ov σ = true then bnd (ok []) (fun vs => pPop (ov :: vs)) σ else none)
                                        fun b => bnd (pDel a b) fun x => ok AF.next)
                                    (bnd
                                      (bnd (pLoc 3) fun ov σ =>
                                        if isL ov σ = true then bnd (ok []) (fun vs => pPop (ov :: vs)) σ else none)
                                      fun x => ok AF.next)
                                    σ'
                                | none => none)
                              (ok AF.brk) 64 σ)
                          (ok AF.next) 64 σ)
                      64 0 σ)
                (bnd (ok AV.none) fun v => ok (AF.ret v)))))))
noncomputable def qFc : HF := runBody 7 1 fFc
noncomputable def fPrep : AM AF :=
  andThen
      (bnd (bnd (bnd (pLoc 0) (pGetS 1)) fun a => bnd (ok AV.none) fun b => bnd (pCmpA CmpOp.IsNot a b) pBool) fun b =>
        if b = true then no else ok AF.next)
      (andThen
        (bnd
          (bnd (bnd (bnd (pLoc 0) (pGetS 0)) pVals)
            (pComp []
              (bnd (bnd (pLoc 0) (pGetN 1)) fun a => bnd (ok (AV.int 0)) fun b => bnd (pCmpA CmpOp.Eq a b) pBool)
              (bnd (pLoc 0) (pGetN 0)) 40 pNewList))
          fun v => bnd (pLoc 0) fun a => bnd (pPutS 1 v a) fun x => ok AF.next)
        (andThen
          (bnd
            (bnd (pLoc 0) fun ov σ =>
              if isSo ov σ = true then bnd (ok []) (fun vs => lift (settle qFc) (ov :: vs)) σ
              else none)
            fun v => bnd (pStore 1 v) fun x => ok AF.next)
          (bnd (bnd (pLoc 1) pTruth) fun b => if b = true then no else ok AF.next)))
noncomputable def qPrep : HF := runBody 2 1 fPrep
noncomputable def fSwept : AM AF :=
  andThen
      (bnd (bnd (ok []) (lift (gClass (AO.part []) qIns))) fun v =>
        bnd (pStore 3 v) fun x => ok AF.next)
      (andThen
        (bnd (bnd (bnd (ok (AV.int 5)) fun v => bnd (ok []) fun l => ok (v :: l)) pRange1) fun src =>
          AF.unlocked fun σ =>
            aFor src false σ.hp.length (pStore 4)
              (bnd
                (bnd (pLoc 3) fun ov σ =>
                  if isSo ov σ = true then
                    bnd
                      (bnd (pLoc 4) fun v =>
                        bnd
                          (bnd (bnd (pLoc 1) fun a => bnd (pLoc 4) fun b => pItem a b) fun v =>
                            bnd (pSplat v) fun hs => bnd (ok []) fun l => ok (hs ++ l))
                          fun l => ok (v :: l))
                      (fun vs => lift qAdd (ov :: vs)) σ
                  else none)
                fun x => ok AF.next)
              64 0 σ)
        (andThen
          (bnd
            (bnd (pLoc 3) fun ov σ =>
              if isSo ov σ = true then bnd (ok []) (fun vs => lift qPrep (ov :: vs)) σ else none)
            fun x => ok AF.next)
          (andThen
            (bnd
              (bnd
                (bnd (bnd (ok []) pNewList) fun v =>
                  bnd
                    (bnd (bnd (ok []) pNewList) fun v =>
                      bnd (bnd (ok (AV.int 0)) fun v => bnd (ok []) fun l => ok (v :: l)) fun l => ok (v :: l))
                    fun l => ok (v :: l))
                small)
              fun l =>
              bnd (storeL [7, 6, 5] l.reverse)
                fun x => ok AF.next)
            (andThen
              (fun σ =>
                aWhile false σ.hp.length
                  (bnd
                    (bnd (pLoc 3) fun ov σ =>
                      if isSo ov σ = true then bnd (ok []) (fun vs => lift qAct (ov :: vs)) σ
                      else none)
                    pTruth)
                  (andThen
                    (bnd
                      (bnd
                        (bnd (pLoc 3) fun ov σ =>
                          if isSo ov σ = true then bnd (ok []) (fun vs => lift qRdy (ov :: vs)) σ
                          else none)
                        pIter)
                      fun src =>
                      AF.unlocked fun σ =>
                        aFor src false σ.hp.length (pStore 4)
                          (andThen
                            (bnd
                              (bnd
                                (bnd
                                  (bnd (pLoc 2) fun a =>
                                    bnd (pLoc 7) fun b => pInt2 (opG Operator.Add) a b)
                                  fun a => bnd (ok (AV.int 2)) fun b => pInt2 (opG Operator.Mod) a b)
                                fun a => bnd (ok (AV.int 0)) fun b => bnd (pCmpA CmpOp.Eq a b) pBool)
                              fun b =>
                              if b = true then
                                bnd
                                  (bnd
                                    (bnd (bnd (pLoc 0) fun a => bnd (pLoc 4) fun b => pItem a b)
                                      fun v => bnd (ok []) fun l => ok (v :: l))
                                    (lift qIsreg))
                                  fun v => bnd (pStore 8 v) fun x => ok AF.next
                              else
                                bnd
                                  (bnd
                                    (bnd (bnd (pLoc 0) fun a => bnd (pLoc 4) fun b => pItem a b)
                                      fun v => bnd (ok []) fun l => ok (v :: l))
                                    (lift qIsdir))
                                  fun v => bnd (pStore 8 v) fun x => ok AF.next)
                            (bnd
                              (bnd
                                (bnd (pLoc 5) fun v =>
                                  bnd
                                    (bnd
                                      (bnd
                                        (bnd
                                          (bnd (bnd (pLoc 8) pTruth) fun u =>
                                            if u = true then
                                              bnd (pLoc 7) fun a =>
                                                bnd (ok (AV.int 1)) fun b => pInt2 (opG Operator.Add) a b
                                            else pLoc 7)
                                          fun v =>
                                          bnd
                                            (bnd
                                              (bnd
                                                (bnd
                                                  (bnd (pLoc 0) fun a =>
                                                    bnd (pLoc 4) fun b => pItem a b)
                                                  fun v => bnd (ok []) fun l => ok (v :: l))
                                                (lift qImode))
                                              fun v =>
                                              bnd
                                                (bnd (pLoc 4) fun v =>
                                                  bnd (ok []) fun l => ok (v :: l))
                                                fun l => ok (v :: l))
                                            fun l => ok (v :: l))
                                        pTup)
                                      fun v => bnd (ok []) fun l => ok (v :: l))
                                    fun l => ok (v :: l))
                                (lift qPush))
                              fun x => ok AF.next))
                          64 0 σ)
                    (andThen
                      (bnd
                        (bnd
                          (bnd (bnd (pLoc 5) fun v => bnd (ok []) fun l => ok (v :: l))
                            (lift qPop))
                          pItems)
                        fun l =>
                        bnd
                          (storeL
                            [7, 9, 4] l)
                          fun x => ok AF.next)
                      (andThen
                        (bnd
                          (bnd (pLoc 6) fun ov σ =>
                            if isL ov σ = true then
                              bnd (bnd (pLoc 4) fun v => bnd (ok []) fun l => ok (v :: l))
                                (fun vs => pAppend (ov :: vs)) σ
                            else none)
                          fun x => ok AF.next)
                        (bnd
                          (bnd (pLoc 3) fun ov σ =>
                            if isSo ov σ = true then
                              bnd (bnd (pLoc 4) fun v => bnd (ok []) fun l => ok (v :: l))
                                (fun vs => lift qDone (ov :: vs)) σ
                            else none)
                          fun x => ok AF.next))))
                  (ok AF.next) 64 σ)
              (bnd
                (bnd
                  (bnd (pLoc 6) fun v =>
                    bnd (bnd (pLoc 7) fun v => bnd (ok []) fun l => ok (v :: l)) fun l =>
                      ok (v :: l))
                  pPair)
                fun v => ok (AF.ret v))))))
noncomputable def qSwept : HF := runBody 10 3 fSwept
noncomputable def fCourse : AM AF :=
  andThen
      (bnd
        (bnd
          (bnd (bnd (ok []) pNewList) fun v =>
            bnd (bnd (pLoc 3) fun v => bnd (ok []) fun l => ok (v :: l)) fun l => ok (v :: l))
          small)
        fun l => bnd (storeL [4, 5] l) fun x => ok AF.next)
      (andThen
        (fun σ =>
          aWhile true σ.hp.length
            (bnd (bnd (bnd (pLoc 4) fun v => bnd (ok []) fun l => ok (v :: l)) pLen) fun a =>
              bnd (ok (AV.int 5)) fun b => bnd (pCmpA CmpOp.Lt a b) pBool)
            (andThen
              (bnd (bnd (ok []) pNewList) fun v => bnd (pStore 6 v) fun x => ok AF.next)
              (andThen
                (bnd (bnd (bnd (ok (AV.int 5)) fun v => bnd (ok []) fun l => ok (v :: l)) pRange1) fun src =>
                  AF.unlocked fun σ =>
                    aFor src false σ.hp.length (pStore 7)
                      (bnd
                        (bnd
                          (bnd (pLoc 7) fun a =>
                            bnd (pLoc 4) fun b => bnd (pCmpA CmpOp.NotIn a b) pBool)
                          fun b =>
                          if b = true then
                            bnd
                              (bnd
                                (bnd (pLoc 1) fun a =>
                                  bnd (pLoc 7) fun b => pItem a b)
                                fun a =>
                                bnd
                                  (bnd (ok (AV.int 1)) fun a =>
                                    bnd (pLoc 5) fun b => pInt2 (opG Operator.Sub) a b)
                                  fun b => bnd (pCmpA CmpOp.NotEq a b) pBool)
                              fun b =>
                              if b = true then
                                bnd
                                  (bnd
                                    (bnd
                                      (bnd
                                        (bnd (pLoc 2) fun a =>
                                          bnd (pLoc 7) fun b => pItem a b)
                                        pIter)
                                      (pComp [(Str.ofString "course", 4)]
                                        (bnd (pLoc 0) fun a =>
                                          bnd (pLoc 1) fun b => bnd (pCmpA CmpOp.NotIn a b) pBool)
                                        (pLoc 0) 40 pLi))
                                    fun a => bnd (bnd (ok []) pLi) fun b => bnd (pCmpA CmpOp.Eq a b) pBool)
                                  fun b => if b = true then ok true else ok false
                              else ok false
                          else ok false)
                        fun b =>
                        if b = true then
                          bnd
                            (bnd (pLoc 6) fun ov σ =>
                              if isL ov σ = true then
                                bnd
                                  (bnd
                                    (bnd
                                      (bnd
                                        (bnd (pLoc 0) fun a =>
                                          bnd (pLoc 7) fun b => pItem a b)
                                        fun v =>
                                        bnd
                                          (bnd (pLoc 7) fun v =>
                                            bnd (ok []) fun l => ok (v :: l))
                                          fun l => ok (v :: l))
                                      pTup)
                                    fun v => bnd (ok []) fun l => ok (v :: l))
                                  (fun vs => pAppend (ov :: vs)) σ
                              else none)
                            fun x => ok AF.next
                        else ok AF.next)
                      64 0 σ)
                (bnd (bnd (pLoc 6) pTruth) fun b =>
                  if b = true then
                    bnd
                      (bnd (pLoc 4) fun ov σ =>
                        if isL ov σ = true then
                          bnd
                            (bnd
                              (bnd
                                (bnd (bnd (pLoc 6) fun v => bnd (ok []) fun l => ok (v :: l))
                                  pMinT)
                                fun a => bnd (ok (AV.int 1)) fun b => pItem a b)
                              fun v => bnd (ok []) fun l => ok (v :: l))
                            (fun vs => pAppend (ov :: vs)) σ
                        else none)
                      fun x => ok AF.next
                  else
                    bnd
                      (bnd (ok (AV.int 1)) fun a =>
                        bnd (pLoc 5) fun b => pInt2 (opG Operator.Sub) a b)
                      fun v => bnd (pStore 5 v) fun x => ok AF.next)))
            (ok AF.next) 64 σ)
        (bnd (pLoc 4) fun v => ok (AF.ret v)))
noncomputable def qCourse : HF := runBody 8 4 fCourse
noncomputable def fLeast : AM AF :=
  andThen
      (bnd
        (bnd (bnd (bnd (ok (AV.int 5)) fun v => bnd (ok []) fun l => ok (v :: l)) pRange1)
          (pComp [(Str.ofString "waits", 1)] (ok true)
            (bnd
              (bnd
                (bnd (bnd (bnd (pLoc 1) fun a => bnd (pLoc 0) fun b => pItem a b) pIter)
                  (pComp [] (ok true) (bnd (ok (AV.int 2)) fun a => bnd (pLoc 0) fun b => pInt2 (opG Operator.Pow) a b)
                    40 pLi))
                fun v => bnd (ok []) fun l => ok (v :: l))
              pSum)
            40 pLi))
        fun v => bnd (pStore 2 v) fun x => ok AF.next)
      (andThen
        (bnd
          (bnd (bnd (bnd (ok (AV.int 32)) fun v => bnd (ok []) fun l => ok (v :: l)) pRange1)
            (pComp [] (ok true)
              (bnd
                (bnd (ok (AV.int 0)) fun v =>
                  bnd (bnd (ok (AV.int 0)) fun v => bnd (ok []) fun l => ok (v :: l)) fun l => ok (v :: l))
                pNewList)
              40 pNewList))
          fun v => bnd (pStore 3 v) fun x => ok AF.next)
        (andThen
          (bnd
            (bnd
              (bnd (ok (AV.int 30)) fun v =>
                bnd
                  (bnd (ok (AV.int (-1))) fun v =>
                    bnd (bnd (ok (AV.int (-1))) fun v => bnd (ok []) fun l => ok (v :: l)) fun l => ok (v :: l))
                  fun l => ok (v :: l))
              pRange3)
            fun src =>
            AF.unlocked fun σ =>
              aFor src false σ.hp.length (pStore 4)
                (andThen
                  (bnd
                    (bnd
                      (bnd (ok (AV.int 9)) fun v =>
                        bnd (bnd (ok (AV.int 9)) fun v => bnd (ok []) fun l => ok (v :: l)) fun l => ok (v :: l))
                      pNewList)
                    fun v => bnd (pStore 5 v) fun x => ok AF.next)
                  (andThen
                    (bnd (bnd (bnd (ok (AV.int 5)) fun v => bnd (ok []) fun l => ok (v :: l)) pRange1) fun src =>
                      AF.unlocked fun σ =>
                        aFor src false σ.hp.length (pStore 6)
                          (bnd
                            (bnd
                              (bnd
                                (bnd (pLoc 4) fun a =>
                                  bnd
                                    (bnd (ok (AV.int 2)) fun a =>
                                      bnd (pLoc 6) fun b => pInt2 (opG Operator.Pow) a b)
                                    fun b => pInt2 (opG Operator.BitAnd) a b)
                                fun a => bnd (ok (AV.int 0)) fun b => bnd (pCmpA CmpOp.Eq a b) pBool)
                              fun b =>
                              if b = true then
                                bnd
                                  (bnd
                                    (bnd (pLoc 4) fun a =>
                                      bnd
                                        (bnd (pLoc 2) fun a =>
                                          bnd (pLoc 6) fun b => pItem a b)
                                        fun b => pInt2 (opG Operator.BitAnd) a b)
                                    fun a =>
                                    bnd
                                      (bnd (pLoc 2) fun a =>
                                        bnd (pLoc 6) fun b => pItem a b)
                                      fun b => bnd (pCmpA CmpOp.Eq a b) pBool)
                                  fun b => if b = true then ok true else ok false
                              else ok false)
                            fun b =>
                            if b = true then
                              bnd (bnd (bnd (ok (AV.int 2)) fun v => bnd (ok []) fun l => ok (v :: l)) pRange1)
                                fun src =>
                                AF.unlocked fun σ =>
                                  aFor src false σ.hp.length (pStore 7)
                                    (bnd
                                      (bnd
                                        (bnd (pLoc 0) fun a =>
                                          bnd (pLoc 6) fun b => pItem a b)
                                        fun a =>
                                        bnd
                                          (bnd (ok (AV.int 1)) fun a =>
                                            bnd (pLoc 7) fun b =>
                                              pInt2 (opG Operator.Sub) a b)
                                          fun b => bnd (pCmpA CmpOp.NotEq a b) pBool)
                                      fun b =>
                                      if b = true then
                                        bnd
                                          (bnd
                                            (bnd
                                              (bnd (pLoc 5) fun a =>
                                                bnd (pLoc 7) fun b => pItem a b)
                                              fun v =>
                                              bnd
                                                (bnd
                                                  (bnd
                                                    (bnd (pLoc 3) fun a =>
                                                      bnd
                                                        (bnd (pLoc 4) fun a =>
                                                          bnd
                                                            (bnd (ok (AV.int 2)) fun a =>
                                                              bnd (pLoc 6) fun b =>
                                                                pInt2 (opG Operator.Pow) a b)
                                                            fun b => pInt2 (opG Operator.Add) a b)
                                                        fun b => pItem a b)
                                                    fun a =>
                                                    bnd (pLoc 7) fun b => pItem a b)
                                                  fun v => bnd (ok []) fun l => ok (v :: l))
                                                fun l => ok (v :: l))
                                            pMin2)
                                          fun v =>
                                          bnd (pLoc 5) fun a =>
                                            bnd (pLoc 7) fun b =>
                                              bnd (pSetItem v a b) fun x => ok AF.next
                                      else ok AF.next)
                                    64 0 σ
                            else ok AF.next)
                          64 0 σ)
                    (bnd
                      (bnd
                        (bnd
                          (bnd
                            (bnd (bnd (pLoc 5) fun a => bnd (ok (AV.int 0)) fun b => pItem a b)
                              fun v =>
                              bnd
                                (bnd
                                  (bnd
                                    (bnd (pLoc 5) fun a => bnd (ok (AV.int 1)) fun b => pItem a b)
                                    fun a => bnd (ok (AV.int 1)) fun b => pInt2 (opG Operator.Add) a b)
                                  fun v => bnd (ok []) fun l => ok (v :: l))
                                fun l => ok (v :: l))
                            pMin2)
                          fun v =>
                          bnd
                            (bnd
                              (bnd
                                (bnd
                                  (bnd (pLoc 5) fun a => bnd (ok (AV.int 1)) fun b => pItem a b)
                                  fun v =>
                                  bnd
                                    (bnd
                                      (bnd
                                        (bnd (pLoc 5) fun a =>
                                          bnd (ok (AV.int 0)) fun b => pItem a b)
                                        fun a => bnd (ok (AV.int 1)) fun b => pInt2 (opG Operator.Add) a b)
                                      fun v => bnd (ok []) fun l => ok (v :: l))
                                    fun l => ok (v :: l))
                                pMin2)
                              fun v => bnd (ok []) fun l => ok (v :: l))
                            fun l => ok (v :: l))
                        pNewList)
                      fun v =>
                      bnd (pLoc 3) fun a =>
                        bnd (pLoc 4) fun b => bnd (pSetItem v a b) fun x => ok AF.next)))
                64 0 σ)
          (bnd (bnd (pLoc 3) fun a => bnd (ok (AV.int 0)) fun b => pItem a b) fun v => ok (AF.ret v))))
noncomputable def qLeast : HF := runBody 8 2 fLeast
noncomputable def fLaw (scr : Option (Nat × List Int)) : AM AF :=
  andThen
      (bnd
        (bnd
          (bnd
            (bnd (pLoc 0) fun a =>
              bnd (ok (AV.int 5)) fun b =>
                pUpTo
                  scr
                  a b)
            pIter)
          (pComp [] (ok true)
            (bnd (bnd (bnd (pLoc 0) fun v => bnd (ok []) fun l => ok (v :: l)) pInt) fun a =>
              bnd (bnd (ok (AV.int 10)) fun a => bnd (ok (AV.int 6)) fun b => pInt2 (opG Operator.Pow) a b) fun b =>
                pInt2 (opG Operator.Mod) a b)
            40 pLi))
        fun v => bnd (pStore 1 v) fun x => ok AF.next)
      (andThen
        (bnd
          (bnd (pLoc 1) fun a =>
            bnd
              (bnd
                (bnd
                  (bnd (ok (AV.int 3361)) fun v =>
                    bnd
                      (bnd (ok (AV.int 3944)) fun v =>
                        bnd
                          (bnd (ok (AV.int 69122)) fun v =>
                            bnd
                              (bnd (ok (AV.int 36863)) fun v =>
                                bnd (bnd (ok (AV.int 396291)) fun v => bnd (ok []) fun l => ok (v :: l)) fun l =>
                                  ok (v :: l))
                              fun l => ok (v :: l))
                          fun l => ok (v :: l))
                      fun l => ok (v :: l))
                  pLi)
                fun a =>
                bnd (bnd (bnd (pLoc 1) fun v => bnd (ok []) fun l => ok (v :: l)) pLen) fun b => pFrom a b)
              fun b => pCat a b)
          fun v => bnd (pStore 2 v) fun x => ok AF.next)
        (andThen
          (bnd
            (bnd (bnd (pLoc 2) pIter)
              (pComp [] (ok true)
                (bnd
                  (bnd (ok (AV.int 4096)) fun a =>
                    bnd
                      (bnd
                        (bnd
                          (bnd (ok (AV.int 4)) fun v =>
                            bnd
                              (bnd (ok (AV.int 8)) fun v =>
                                bnd
                                  (bnd (ok (AV.int 4)) fun v =>
                                    bnd
                                      (bnd (ok (AV.int 8)) fun v =>
                                        bnd
                                          (bnd (ok (AV.int 4)) fun v =>
                                            bnd
                                              (bnd (ok (AV.int 8)) fun v =>
                                                bnd
                                                  (bnd (ok (AV.int 6)) fun v =>
                                                    bnd (bnd (ok (AV.int 12)) fun v => bnd (ok []) fun l => ok (v :: l))
                                                      fun l => ok (v :: l))
                                                  fun l => ok (v :: l))
                                              fun l => ok (v :: l))
                                          fun l => ok (v :: l))
                                      fun l => ok (v :: l))
                                  fun l => ok (v :: l))
                              fun l => ok (v :: l))
                          pTup)
                        fun a =>
                        bnd (bnd (pLoc 0) fun a => bnd (ok (AV.int 8)) fun b => pInt2 (opG Operator.Mod) a b) fun b =>
                          pItem a b)
                      fun b => pInt2 (opG Operator.Mult) a b)
                  fun a =>
                  bnd
                    (bnd (bnd (pLoc 0) fun a => bnd (ok (AV.int 8)) fun b => pInt2 (opG Operator.FloorDiv) a b) fun a =>
                      bnd (ok (AV.int 4096)) fun b => pInt2 (opG Operator.Mod) a b)
                    fun b => pInt2 (opG Operator.Add) a b)
                40 pLi))
            fun v => bnd (pStore 3 v) fun x => ok AF.next)
          (andThen
            (bnd
              (bnd (bnd (pLoc 2) pIter)
                (pComp [] (ok true)
                  (bnd
                    (bnd
                      (bnd (ok (AV.int 0)) fun v =>
                        bnd
                          (bnd (ok (AV.int 1)) fun v =>
                            bnd
                              (bnd (ok (AV.int 0)) fun v =>
                                bnd
                                  (bnd (ok (AV.int 1)) fun v =>
                                    bnd
                                      (bnd (ok (AV.int 0)) fun v =>
                                        bnd
                                          (bnd (ok (AV.int 1)) fun v =>
                                            bnd
                                              (bnd (ok (AV.int 2)) fun v =>
                                                bnd (bnd (ok (AV.int 2)) fun v => bnd (ok []) fun l => ok (v :: l))
                                                  fun l => ok (v :: l))
                                              fun l => ok (v :: l))
                                          fun l => ok (v :: l))
                                      fun l => ok (v :: l))
                                  fun l => ok (v :: l))
                              fun l => ok (v :: l))
                          fun l => ok (v :: l))
                      pTup)
                    fun a =>
                    bnd (bnd (pLoc 0) fun a => bnd (ok (AV.int 8)) fun b => pInt2 (opG Operator.Mod) a b) fun b =>
                      pItem a b)
                  40 pLi))
              fun v => bnd (pStore 4 v) fun x => ok AF.next)
            (andThen
              (bnd
                (bnd (bnd (pLoc 2) pIter)
                  (pComp [] (ok true)
                    (bnd (bnd (pLoc 0) fun a => bnd (ok (AV.int 8)) fun b => pInt2 (opG Operator.FloorDiv) a b) fun a =>
                      bnd (ok (AV.int 4096)) fun b => pInt2 (opG Operator.Mod) a b)
                    40 pLi))
                fun v => bnd (pStore 5 v) fun x => ok AF.next)
              (andThen
                (bnd
                  (bnd (bnd (bnd (ok (AV.int 5)) fun v => bnd (ok []) fun l => ok (v :: l)) pRange1)
                    (pComp [(Str.ofString "numbers", 2)] (ok true)
                      (bnd (bnd (bnd (pLoc 0) fun v => bnd (ok []) fun l => ok (v :: l)) pRange1)
                        (pComp [(Str.ofString "j", 0), (Str.ofString "numbers", 1)]
                          (bnd
                            (bnd
                              (bnd
                                (bnd (bnd (pLoc 2) fun a => bnd (pLoc 1) fun b => pItem a b) fun a =>
                                  bnd (ok (AV.int 32768)) fun b => pInt2 (opG Operator.FloorDiv) a b)
                                fun a =>
                                bnd (bnd (ok (AV.int 2)) fun a => bnd (pLoc 0) fun b => pInt2 (opG Operator.Pow) a b)
                                  fun b => pInt2 (opG Operator.FloorDiv) a b)
                              fun a => bnd (ok (AV.int 2)) fun b => pInt2 (opG Operator.Mod) a b)
                            pTruth)
                          (pLoc 0) 40 pLi))
                      40 pLli))
                  fun v => bnd (pStore 6 v) fun x => ok AF.next)
                (andThen
                  (bnd
                    (bnd
                      (bnd (pLoc 4) fun v =>
                        bnd (bnd (pLoc 6) fun v => bnd (ok []) fun l => ok (v :: l)) fun l =>
                          ok (v :: l))
                      (lift (settle qLeast)))
                    fun v => bnd (pStore 7 v) fun x => ok AF.next)
                  (andThen
                    (bnd (bnd (bnd (ok (AV.int 2)) fun v => bnd (ok []) fun l => ok (v :: l)) pRange1) fun src =>
                      AF.unlocked fun σ =>
                        aFor src true σ.hp.length (pStore 8)
                          (andThen
                            (bnd
                              (bnd
                                (bnd
                                  (bnd (pLoc 3) fun v =>
                                    bnd
                                      (bnd (pLoc 6) fun v =>
                                        bnd
                                          (bnd (pLoc 8) fun v =>
                                            bnd (ok []) fun l => ok (v :: l))
                                          fun l => ok (v :: l))
                                      fun l => ok (v :: l))
                                  (lift qSwept))
                                pItems)
                              fun l =>
                              bnd
                                (storeL
                                  [9, 10] l)
                                fun x => ok AF.next)
                            (bnd
                              (bnd
                                (bnd (pLoc 9) fun a =>
                                  bnd
                                    (bnd
                                      (bnd (pLoc 5) fun v =>
                                        bnd
                                          (bnd (pLoc 4) fun v =>
                                            bnd
                                              (bnd (pLoc 6) fun v =>
                                                bnd
                                                  (bnd (pLoc 8) fun v =>
                                                    bnd (ok []) fun l => ok (v :: l))
                                                  fun l => ok (v :: l))
                                              fun l => ok (v :: l))
                                          fun l => ok (v :: l))
                                      (lift (settle qCourse)))
                                    fun b => bnd (pCmpA CmpOp.NotEq a b) pBool)
                                fun b =>
                                if b = true then ok true
                                else
                                  bnd
                                    (bnd (pLoc 10) fun a =>
                                      bnd
                                        (bnd (pLoc 7) fun a =>
                                          bnd (pLoc 8) fun b => pItem a b)
                                        fun b => bnd (pCmpA CmpOp.NotEq a b) pBool)
                                    fun b => if b = true then ok true else ok false)
                              fun b =>
                              if b = true then bnd (ok (AV.bool false)) fun v => ok (AF.ret v) else ok AF.next))
                          64 0 σ)
                    (bnd (ok (AV.bool true)) fun v => ok (AF.ret v)))))))))
noncomputable def qLaw (scr : Option (Nat × List Int)) : HF := runBody 11 1 (fLaw scr)
end Mine

end
section
open PySem PySem.W PySem.Calls PyProof.Rows
set_option Elab.async false
set_option maxRecDepth 100000
namespace Mine
set_option maxHeartbeats 4000000 in
theorem tSd {w : World} {mean : ExcName → Option Value} {mg mb : Str → Option Value} : FC (Wof w mean mg mb) 162 1 103 qSd := by
  refine' fc_def ["heap", "startpos", "pos", "newitem", "parentpos", "parent"] 3 0 100 (f := fSd) (by rfl) (by rfl) ?b (by rfl) (by rfl) (by rfl) (by decide) ?h
  case b =>
    intro s cvs h
    obtain ⟨a, b, d, rfl⟩ := len3 h
    exact BindsTo.of_eq rfl
  case h =>
    refine' sb_cons ?_ ?_
    refine' sx_assign ?_ (store_locS (by rfl) (by rfl)) (fun _ => rfl)
    refine' se_sub ?_ ?_ (fun _ _ _ => by with_unfolding_all rfl)
    exact se_locS (by rfl) (by rfl) (by decide)
    exact se_locS (by rfl) (by rfl) (by decide)
    refine' sb_cons ?_ ?_
    refine' sx_while false 64 ?_ ?_ ?_
    refine' st_cmpA ?_ ?_ (by decide) (by rfl)
    exact se_locS (by rfl) (by rfl) (by decide)
    exact se_locS (by rfl) (by rfl) (by decide)
    refine' sb_cons ?_ ?_
    refine' sx_assign ?_ (store_locS (by rfl) (by rfl)) (fun _ => rfl)
    refine' se_int2 ?_ ?_
    refine' se_int2 ?_ ?_
    exact se_locS (by rfl) (by rfl) (by decide)
    exact se_int
    exact se_int
    refine' sb_cons ?_ ?_
    refine' sx_assign ?_ (store_locS (by rfl) (by rfl)) (fun _ => rfl)
    refine' se_sub ?_ ?_ (fun _ _ _ => by with_unfolding_all rfl)
    exact se_locS (by rfl) (by rfl) (by decide)
    exact se_locS (by rfl) (by rfl) (by decide)
    refine' sb_cons ?_ ?_
    refine' sx_if ?_ ?_ ?_
    refine' st_cmpA ?_ ?_ (by decide) (by rfl)
    exact se_locS (by rfl) (by rfl) (by decide)
    exact se_locS (by rfl) (by rfl) (by decide)
    refine' sb_cons ?_ ?_
    refine' sx_assignSub ?_ ?_ ?_ (fun _ => rfl)
    exact se_locS (by rfl) (by rfl) (by decide)
    exact se_locS (by rfl) (by rfl) (by decide)
    exact se_locS (by rfl) (by rfl) (by decide)
    refine' sb_cons ?_ ?_
    refine' sx_assign ?_ (store_locS (by rfl) (by rfl)) (fun _ => rfl)
    exact se_locS (by rfl) (by rfl) (by decide)
    refine' sb_one ?_
    exact sx_continue
    exact sb_nil
    refine' sb_one ?_
    exact sx_break
    exact sb_nil
    refine' sb_one ?_
    refine' sx_assignSub ?_ ?_ ?_ (fun _ => rfl)
    exact se_locS (by rfl) (by rfl) (by decide)
    exact se_locS (by rfl) (by rfl) (by decide)
    exact se_locS (by rfl) (by rfl) (by decide)
set_option maxHeartbeats 4000000 in
theorem tImode {w : World} {mean : ExcName → Option Value} {mg mb : Str → Option Value} : FC (Wof w mean mg mb) 176 1 103 qImode := by
  refine' fc_def ["mode"] 1 0 100 (f := fImode) (by rfl) (by rfl) ?b (by rfl) (by rfl) (by rfl) (by decide) ?h
  case b =>
    intro s cvs h
    obtain ⟨a, rfl⟩ := len1 h
    exact BindsTo.of_eq rfl
  case h =>
    refine' sb_one ?_
    refine' sx_ret ?_
    refine' se_int2 ?_ ?_
    exact se_locS (by rfl) (by rfl) (by decide)
    exact se_int
set_option maxHeartbeats 4000000 in
theorem tIfmt {w : World} {mean : ExcName → Option Value} {mg mb : Str → Option Value} : FC (Wof w mean mg mb) 183 1 103 qIfmt := by
  refine' fc_def ["mode"] 1 0 100 (f := fIfmt) (by rfl) (by rfl) ?b (by rfl) (by rfl) (by rfl) (by decide) ?h
  case b =>
    intro s cvs h
    obtain ⟨a, rfl⟩ := len1 h
    exact BindsTo.of_eq rfl
  case h =>
    refine' sb_one ?_
    refine' sx_ret ?_
    refine' se_int2 ?_ ?_
    exact se_locS (by rfl) (by rfl) (by decide)
    exact se_int
set_option maxHeartbeats 4000000 in
theorem tIsdir {w : World} {mean : ExcName → Option Value} {mg mb : Str → Option Value} : FC (Wof w mean mg mb) 190 2 113 qIsdir := by
  refine' fc_def ["mode"] 1 1 110 (f := fIsdir) (by rfl) (by rfl) ?b (by rfl) (by rfl) (by rfl) (by decide) ?h
  case b =>
    intro s cvs h
    obtain ⟨a, rfl⟩ := len1 h
    exact BindsTo.of_eq rfl
  case h =>
    refine' sb_one ?_
    refine' sx_ret ?_
    refine' se_cmpA ?_ ?_ (by decide) (by rfl)
    refine' se_call (tIfmt) ?_ (by rfl) (by rfl) (by decide) (by rfl) (by rfl) (by decide) (by decide) (by rfl) (fun _ => rfl) (fun _ => rfl)
    refine' sa_cons ?_ ?_ (fun _ => rfl)
    exact se_locS (by rfl) (by rfl) (by decide)
    exact sa_nil
    exact se_global (by rfl) (by rfl) (by decide)
set_option maxHeartbeats 4000000 in
theorem tIsreg {w : World} {mean : ExcName → Option Value} {mg mb : Str → Option Value} : FC (Wof w mean mg mb) 197 2 113 qIsreg := by
  refine' fc_def ["mode"] 1 1 110 (f := fIsreg) (by rfl) (by rfl) ?b (by rfl) (by rfl) (by rfl) (by decide) ?h
  case b =>
    intro s cvs h
    obtain ⟨a, rfl⟩ := len1 h
    exact BindsTo.of_eq rfl
  case h =>
    refine' sb_one ?_
    refine' sx_ret ?_
    refine' se_cmpA ?_ ?_ (by decide) (by rfl)
    refine' se_call (tIfmt) ?_ (by rfl) (by rfl) (by decide) (by rfl) (by rfl) (by decide) (by decide) (by rfl) (fun _ => rfl) (fun _ => rfl)
    refine' sa_cons ?_ ?_ (fun _ => rfl)
    exact se_locS (by rfl) (by rfl) (by decide)
    exact sa_nil
    exact se_global (by rfl) (by rfl) (by decide)
set_option maxHeartbeats 4000000 in
theorem tSu {w : World} {mean : ExcName → Option Value} {mg mb : Str → Option Value} : FC (Wof w mean mg mb) 169 2 113 qSu := by
  refine' fc_def ["heap", "pos", "endpos", "startpos", "newitem", "childpos", "rightpos"] 2 1 110 (f := fSu) (by rfl) (by rfl) ?b (by rfl) (by rfl) (by rfl) (by decide) ?h
  case b =>
    intro s cvs h
    obtain ⟨a, b, rfl⟩ := len2 h
    exact BindsTo.of_eq rfl
  case h =>
    refine' sb_cons ?_ ?_
    refine' sx_assign ?_ (store_locS (by rfl) (by rfl)) (fun _ => rfl)
    refine' se_bcall prim_len ?_ (by rfl) (by rfl) Boot.len (by decide) (fun _ h => looks_blt _ h) (by decide) (fun _ => rfl) (fun _ => rfl)
    refine' sa_cons ?_ ?_ (fun _ => rfl)
    exact se_locS (by rfl) (by rfl) (by decide)
    exact sa_nil
    refine' sb_cons ?_ ?_
    refine' sx_assign ?_ (store_locS (by rfl) (by rfl)) (fun _ => rfl)
    exact se_locS (by rfl) (by rfl) (by decide)
    refine' sb_cons ?_ ?_
    refine' sx_assign ?_ (store_locS (by rfl) (by rfl)) (fun _ => rfl)
    refine' se_sub ?_ ?_ (fun _ _ _ => by with_unfolding_all rfl)
    exact se_locS (by rfl) (by rfl) (by decide)
    exact se_locS (by rfl) (by rfl) (by decide)
    refine' sb_cons ?_ ?_
    refine' sx_assign ?_ (store_locS (by rfl) (by rfl)) (fun _ => rfl)
    refine' se_int2 ?_ ?_
    refine' se_int2 ?_ ?_
    exact se_int
    exact se_locS (by rfl) (by rfl) (by decide)
    exact se_int
    refine' sb_cons ?_ ?_
    refine' sx_while false 64 ?_ ?_ ?_
    refine' st_cmpA ?_ ?_ (by decide) (by rfl)
    exact se_locS (by rfl) (by rfl) (by decide)
    exact se_locS (by rfl) (by rfl) (by decide)
    refine' sb_cons ?_ ?_
    refine' sx_assign ?_ (store_locS (by rfl) (by rfl)) (fun _ => rfl)
    refine' se_int2 ?_ ?_
    exact se_locS (by rfl) (by rfl) (by decide)
    exact se_int
    refine' sb_cons ?_ ?_
    refine' sx_if ?_ ?_ ?_
    refine' st_and ?_ ?_
    refine' st_cmpA ?_ ?_ (by decide) (by rfl)
    exact se_locS (by rfl) (by rfl) (by decide)
    exact se_locS (by rfl) (by rfl) (by decide)
    refine' st_and ?_ ?_
    refine' st_not ?_
    refine' st_cmpA ?_ ?_ (by decide) (by rfl)
    refine' se_sub ?_ ?_ (fun _ _ _ => by with_unfolding_all rfl)
    exact se_locS (by rfl) (by rfl) (by decide)
    exact se_locS (by rfl) (by rfl) (by decide)
    refine' se_sub ?_ ?_ (fun _ _ _ => by with_unfolding_all rfl)
    exact se_locS (by rfl) (by rfl) (by decide)
    exact se_locS (by rfl) (by rfl) (by decide)
    exact st_and0
    refine' sb_one ?_
    refine' sx_assign ?_ (store_locS (by rfl) (by rfl)) (fun _ => rfl)
    exact se_locS (by rfl) (by rfl) (by decide)
    exact sb_nil
    refine' sb_cons ?_ ?_
    refine' sx_assignSub ?_ ?_ ?_ (fun _ => rfl)
    refine' se_sub ?_ ?_ (fun _ _ _ => by with_unfolding_all rfl)
    exact se_locS (by rfl) (by rfl) (by decide)
    exact se_locS (by rfl) (by rfl) (by decide)
    exact se_locS (by rfl) (by rfl) (by decide)
    exact se_locS (by rfl) (by rfl) (by decide)
    refine' sb_cons ?_ ?_
    refine' sx_assign ?_ (store_locS (by rfl) (by rfl)) (fun _ => rfl)
    exact se_locS (by rfl) (by rfl) (by decide)
    refine' sb_one ?_
    refine' sx_assign ?_ (store_locS (by rfl) (by rfl)) (fun _ => rfl)
    refine' se_int2 ?_ ?_
    refine' se_int2 ?_ ?_
    exact se_int
    exact se_locS (by rfl) (by rfl) (by decide)
    exact se_int
    exact sb_nil
    refine' sb_cons ?_ ?_
    refine' sx_assignSub ?_ ?_ ?_ (fun _ => rfl)
    exact se_locS (by rfl) (by rfl) (by decide)
    exact se_locS (by rfl) (by rfl) (by decide)
    exact se_locS (by rfl) (by rfl) (by decide)
    refine' sb_one ?_
    refine' sx_expr ?_ (fun _ => rfl)
    refine' se_call (tSd) ?_ (by rfl) (by rfl) (by decide) (by rfl) (by rfl) (by decide) (by decide) (by rfl) (fun _ => rfl) (fun _ => rfl)
    refine' sa_cons ?_ ?_ (fun _ => rfl)
    exact se_locS (by rfl) (by rfl) (by decide)
    refine' sa_cons ?_ ?_ (fun _ => rfl)
    exact se_locS (by rfl) (by rfl) (by decide)
    refine' sa_cons ?_ ?_ (fun _ => rfl)
    exact se_locS (by rfl) (by rfl) (by decide)
    exact sa_nil
set_option maxHeartbeats 4000000 in
theorem tPush {w : World} {mean : ExcName → Option Value} {mg mb : Str → Option Value} : FC (Wof w mean mg mb) 148 2 113 qPush := by
  refine' fc_def ["heap", "item"] 2 1 110 (f := fPush) (by rfl) (by rfl) ?b (by rfl) (by rfl) (by rfl) (by decide) ?h
  case b =>
    intro s cvs h
    obtain ⟨a, b, rfl⟩ := len2 h
    exact BindsTo.of_eq rfl
  case h =>
    refine' sb_cons ?_ ?_
    refine' sx_expr ?_ (fun _ => rfl)
    refine' se_meth PySem.F.plainAttrs_list PySem.F.slot_list_append PySem.F.type_list_append holds_L ?_ ?_ prim_append (fun _ => rfl) (fun _ => ⟨_, rfl⟩)
    exact se_locS (by rfl) (by rfl) (by decide)
    refine' sa_cons ?_ ?_ (fun _ => rfl)
    exact se_locS (by rfl) (by rfl) (by decide)
    exact sa_nil
    refine' sb_one ?_
    refine' sx_expr ?_ (fun _ => rfl)
    refine' se_call (tSd) ?_ (by rfl) (by rfl) (by decide) (by rfl) (by rfl) (by decide) (by decide) (by rfl) (fun _ => rfl) (fun _ => rfl)
    refine' sa_cons ?_ ?_ (fun _ => rfl)
    exact se_locS (by rfl) (by rfl) (by decide)
    refine' sa_cons ?_ ?_ (fun _ => rfl)
    exact se_int
    refine' sa_cons ?_ ?_ (fun _ => rfl)
    refine' se_int2 ?_ ?_
    refine' se_bcall prim_len ?_ (by rfl) (by rfl) Boot.len (by decide) (fun _ h => looks_blt _ h) (by decide) (fun _ => rfl) (fun _ => rfl)
    refine' sa_cons ?_ ?_ (fun _ => rfl)
    exact se_locS (by rfl) (by rfl) (by decide)
    exact sa_nil
    exact se_int
    exact sa_nil
set_option maxHeartbeats 4000000 in
theorem tPop {w : World} {mean : ExcName → Option Value} {mg mb : Str → Option Value} : FC (Wof w mean mg mb) 155 3 123 qPop := by
  refine' fc_def ["heap", "lastelt", "returnitem"] 1 2 120 (f := fPop) (by rfl) (by rfl) ?b (by rfl) (by rfl) (by rfl) (by decide) ?h
  case b =>
    intro s cvs h
    obtain ⟨a, rfl⟩ := len1 h
    exact BindsTo.of_eq rfl
  case h =>
    refine' sb_cons ?_ ?_
    refine' sx_assign ?_ (store_locS (by rfl) (by rfl)) (fun _ => rfl)
    refine' se_meth PySem.F.plainAttrs_list PySem.F.slot_list_pop PySem.F.type_list_pop holds_L ?_ ?_ prim_pop (fun _ => rfl) (fun _ => ⟨_, rfl⟩)
    exact se_locS (by rfl) (by rfl) (by decide)
    exact sa_nil
    refine' sb_cons ?_ ?_
    refine' sx_if ?_ ?_ ?_
    refine' st_plain ?_ (fun _ _ => rfl)
    exact se_locS (by rfl) (by rfl) (by decide)
    refine' sb_cons ?_ ?_
    refine' sx_assign ?_ (store_locS (by rfl) (by rfl)) (fun _ => rfl)
    refine' se_sub ?_ ?_ (fun _ _ _ => by with_unfolding_all rfl)
    exact se_locS (by rfl) (by rfl) (by decide)
    exact se_int
    refine' sb_cons ?_ ?_
    refine' sx_assignSub ?_ ?_ ?_ (fun _ => rfl)
    exact se_locS (by rfl) (by rfl) (by decide)
    exact se_locS (by rfl) (by rfl) (by decide)
    exact se_int
    refine' sb_cons ?_ ?_
    refine' sx_expr ?_ (fun _ => rfl)
    refine' se_call (tSu) ?_ (by rfl) (by rfl) (by decide) (by rfl) (by rfl) (by decide) (by decide) (by rfl) (fun _ => rfl) (fun _ => rfl)
    refine' sa_cons ?_ ?_ (fun _ => rfl)
    exact se_locS (by rfl) (by rfl) (by decide)
    refine' sa_cons ?_ ?_ (fun _ => rfl)
    exact se_int
    exact sa_nil
    refine' sb_one ?_
    refine' sx_ret ?_
    exact se_locS (by rfl) (by rfl) (by decide)
    exact sb_nil
    refine' sb_one ?_
    refine' sx_ret ?_
    exact se_locS (by rfl) (by rfl) (by decide)
set_option maxHeartbeats 4000000 in
theorem tIni {w : World} {mean : ExcName → Option Value} {mg mb : Str → Option Value} : FC (Wof w mean mg mb) 36 1 103 qIni := by
  refine' fc_def ["self", "node"] 2 0 100 (f := fIni) (by rfl) (by rfl) ?b (by rfl) (by rfl) (by rfl) (by decide) ?h
  case b =>
    intro s cvs h
    obtain ⟨a, b, rfl⟩ := len2 h
    exact BindsTo.of_eq rfl
  case h =>
    refine' sb_cons ?_ ?_
    refine' sx_assignAttr ?_ ?_ (put_N an0) (fun _ => rfl)
    exact se_locS (by rfl) (by rfl) (by decide)
    exact se_locS (by rfl) (by rfl) (by decide)
    refine' sb_cons ?_ ?_
    refine' sx_assignAttr ?_ ?_ (put_N an1) (fun _ => rfl)
    exact se_int
    exact se_locS (by rfl) (by rfl) (by decide)
    refine' sb_one ?_
    refine' sx_assignAttr ?_ ?_ (put_N an2) (fun _ => rfl)
    refine' se_list ?_ prim_newList
    exact sa_nil
    exact se_locS (by rfl) (by rfl) (by decide)
set_option maxHeartbeats 4000000 in
theorem tIns {w : World} {mean : ExcName → Option Value} {mg mb : Str → Option Value} : FC (Wof w mean mg mb) 73 1 103 qIns := by
  refine' fc_none ["self", "graph", "node", "predecessors"] 1 0 100 (f := fIns) (by rfl) (by rfl) ?b (by rfl) (by rfl) (by rfl) (by decide) ?h
  case b =>
    intro s cvs X h
    obtain ⟨a, rfl⟩ := len1 h
    exact BindsTo.of_defaults (items := #[Value.none]) (n := 0) rfl (X _ _ (by rfl)) rfl (by rfl) (by rfl)
  case h =>
    refine' sb_cons ?_ ?_
    refine' sx_assignAttr ?_ ?_ (put_S (j := 0) as0) (fun _ => rfl)
    exact se_dict0 (fun x ok => modules_low ok.T.nolimit)
    exact se_locS (by rfl) (by rfl) (by decide)
    refine' sb_cons ?_ ?_
    refine' sx_assignAttr ?_ ?_ (put_S (j := 1) as1) (fun _ => rfl)
    exact se_none
    exact se_locS (by rfl) (by rfl) (by decide)
    refine' sb_cons ?_ ?_
    refine' sx_assignAttr ?_ ?_ (put_S (j := 2) as2) (fun _ => rfl)
    exact se_int
    exact se_locS (by rfl) (by rfl) (by decide)
    refine' sb_cons ?_ ?_
    refine' sx_assignAttr ?_ ?_ (put_S (j := 3) as3) (fun _ => rfl)
    exact se_int
    exact se_locS (by rfl) (by rfl) (by decide)
    refine' sb_one ?_
    refine' sx_if ?_ ?_ ?_
    refine' st_cmpA ?_ ?_ (by decide) (by rfl)
    exact se_locS (by rfl) (by rfl) (by decide)
    exact se_none
    refine' sb_one ?_
    exact sx_never
    exact sb_nil
set_option maxHeartbeats 4000000 in
theorem tGni {w : World} {mean : ExcName → Option Value} {mg mb : Str → Option Value} : FC (Wof w mean mg mb) 80 3 113 qGni := by
  refine' fc_def ["self", "node", "result"] 2 2 110 (f := fGni) (by rfl) (by rfl) ?b (by rfl) (by rfl) (by rfl) (by decide) ?h
  case b =>
    intro s cvs h
    obtain ⟨a, b, rfl⟩ := len2 h
    exact BindsTo.of_eq rfl
  case h =>
    refine' sb_cons ?_ ?_
    refine' sx_if ?_ ?_ ?_
    refine' st_cmpA ?_ ?_ (by decide) (by rfl)
    refine' se_named ?_ (store_locS (by rfl) (by rfl))
    refine' se_meth PySem.F.plainAttrs_dict PySem.F.slot_dict_get PySem.F.type_dict_get holds_D ?_ ?_ prim_get (fun _ => rfl) (fun _ => ⟨_, rfl⟩)
    refine' se_attr ?_ (prim_getS (j := 0) as0 true) (fun _ => rfl)
    exact se_locS (by rfl) (by rfl) (by decide)
    refine' sa_cons ?_ ?_ (fun _ => rfl)
    exact se_locS (by rfl) (by rfl) (by decide)
    exact sa_nil
    exact se_none
    refine' sb_one ?_
    refine' sx_assignTwo ?_ ?_ ?_ (store_locS (by rfl) (by rfl)) (fun _ => rfl) (fun _ => rfl)
    refine' se_call (fc_class (A0 := .npart []) tIni (by rfl) (by rfl) (by rfl) (fun _ _ _ a b => ⟨a, b, [], rfl, .nil⟩)) ?_ (by rfl) (by rfl) (by decide) (by rfl) (by rfl) (by decide) (by decide) (by rfl) (fun _ => rfl) (fun _ => rfl)
    refine' sa_cons ?_ ?_ (fun _ => rfl)
    exact se_locS (by rfl) (by rfl) (by decide)
    exact sa_nil
    refine' se_attr ?_ (prim_getS (j := 0) as0 true) (fun _ => rfl)
    exact se_locS (by rfl) (by rfl) (by decide)
    exact se_locS (by rfl) (by rfl) (by decide)
    exact sb_nil
    refine' sb_one ?_
    refine' sx_ret ?_
    exact se_locS (by rfl) (by rfl) (by decide)
set_option maxHeartbeats 4000000 in
theorem tAdd {w : World} {mean : ExcName → Option Value} {mg mb : Str → Option Value} : FC (Wof w mean mg mb) 87 4 123 qAdd := by
  refine' fc_rest ["self", "node", "predecessors", "nodeinfo", "pred", "pred_info"] 2 3 120 "predecessors" (f := fAdd) (by rfl) (by rfl) ?b (by rfl) (by rfl) (by rfl) (by decide) ?h
  case b =>
    intro cvs rest h hr
    obtain ⟨a, b, rfl⟩ := len2 h
    match rest, hr with
    | [], _ => exact ⟨rfl, _, by rfl, fun _ => rfl⟩
    | [_], _ => exact ⟨rfl, _, by rfl, fun _ => rfl⟩
    | [_, _], _ => exact ⟨rfl, _, by rfl, fun _ => rfl⟩
    | [_, _, _], _ => exact ⟨rfl, _, by rfl, fun _ => rfl⟩
    | [_, _, _, _], _ => exact ⟨rfl, _, by rfl, fun _ => rfl⟩
    | _ :: _ :: _ :: _ :: _ :: _, hr => exact absurd hr (by simp only [List.length_cons]; omega)
  case h =>
    refine' sb_cons ?_ ?_
    refine' sx_if ?_ ?_ ?_
    refine' st_cmpA ?_ ?_ (by decide) (by rfl)
    refine' se_attr ?_ (prim_getS (j := 1) as1 true) (fun _ => rfl)
    exact se_locS (by rfl) (by rfl) (by decide)
    exact se_none
    refine' sb_one ?_
    exact sx_never
    exact sb_nil
    refine' sb_cons ?_ ?_
    refine' sx_assign ?_ (store_locS (by rfl) (by rfl)) (fun _ => rfl)
    refine' se_mcall msGni (tGni) ?_ ?_ (by rfl) (by rfl) (by decide) (by decide) (fun _ => rfl) (fun _ => ⟨_, rfl⟩)
    exact se_locS (by rfl) (by rfl) (by decide)
    refine' sa_cons ?_ ?_ (fun _ => rfl)
    exact se_locS (by rfl) (by rfl) (by decide)
    exact sa_nil
    refine' sb_cons ?_ ?_
    refine' sx_augAttr ?_ (prim_getN an1 true) ?_ (prim_iint2 iadd_ok) (put_N an1)
    exact se_locS (by rfl) (by rfl) (by decide)
    refine' se_bcall prim_len ?_ (by rfl) (by rfl) Boot.len (by decide) (fun _ h => looks_blt _ h) (by decide) (fun _ => rfl) (fun _ => rfl)
    refine' sa_cons ?_ ?_ (fun _ => rfl)
    exact se_locS (by rfl) (by rfl) (by decide)
    exact sa_nil
    refine' sb_one ?_
    refine' sx_for false 64 ?_ (store_locS (by rfl) (by rfl)) ?_ (fun _ _ => by rfl) (by rfl)
    refine' si_val ?_
    exact se_locS (by rfl) (by rfl) (by decide)
    refine' sb_cons ?_ ?_
    refine' sx_assign ?_ (store_locS (by rfl) (by rfl)) (fun _ => rfl)
    refine' se_mcall msGni (tGni) ?_ ?_ (by rfl) (by rfl) (by decide) (by decide) (fun _ => rfl) (fun _ => ⟨_, rfl⟩)
    exact se_locS (by rfl) (by rfl) (by decide)
    refine' sa_cons ?_ ?_ (fun _ => rfl)
    exact se_locS (by rfl) (by rfl) (by decide)
    exact sa_nil
    refine' sb_one ?_
    refine' sx_expr ?_ (fun _ => rfl)
    refine' se_meth PySem.F.plainAttrs_list PySem.F.slot_list_append PySem.F.type_list_append holds_L ?_ ?_ prim_append (fun _ => rfl) (fun _ => ⟨_, rfl⟩)
    refine' se_attr ?_ (prim_getN an2 true) (fun _ => rfl)
    exact se_locS (by rfl) (by rfl) (by decide)
    refine' sa_cons ?_ ?_ (fun _ => rfl)
    exact se_locS (by rfl) (by rfl) (by decide)
    exact sa_nil
set_option maxHeartbeats 4000000 in
theorem tRdy {w : World} {mean : ExcName → Option Value} {mg mb : Str → Option Value} : FC (Wof w mean mg mb) 99 1 103 qRdy := by
  refine' fc_def ["self", "result", "n2i", "node"] 1 0 100 (f := fRdy) (by rfl) (by rfl) ?b (by rfl) (by rfl) (by rfl) (by decide) ?h
  case b =>
    intro s cvs h
    obtain ⟨a, rfl⟩ := len1 h
    exact BindsTo.of_eq rfl
  case h =>
    refine' sb_cons ?_ ?_
    refine' sx_if ?_ ?_ ?_
    refine' st_cmpA ?_ ?_ (by decide) (by rfl)
    refine' se_attr ?_ (prim_getS (j := 1) as1 true) (fun _ => rfl)
    exact se_locS (by rfl) (by rfl) (by decide)
    exact se_none
    refine' sb_one ?_
    exact sx_never
    exact sb_nil
    refine' sb_cons ?_ ?_
    refine' sx_assign ?_ (store_locS (by rfl) (by rfl)) (fun _ => rfl)
    refine' se_bcall prim_tupOf ?_ (by rfl) (by rfl) Boot.tuple (by decide) (fun _ h => looks_type _ h) (by decide) (fun _ => rfl) (fun _ => rfl)
    refine' sa_cons ?_ ?_ (fun _ => rfl)
    refine' se_attr ?_ (prim_getS (j := 1) as1 true) (fun _ => rfl)
    exact se_locS (by rfl) (by rfl) (by decide)
    exact sa_nil
    refine' sb_cons ?_ ?_
    refine' sx_assign ?_ (store_locS (by rfl) (by rfl)) (fun _ => rfl)
    refine' se_attr ?_ (prim_getS (j := 0) as0 true) (fun _ => rfl)
    exact se_locS (by rfl) (by rfl) (by decide)
    refine' sb_cons ?_ ?_
    refine' sx_for false 64 ?_ (store_locS (by rfl) (by rfl)) ?_ (fun _ _ => by rfl) (by rfl)
    refine' si_val ?_
    exact se_locS (by rfl) (by rfl) (by decide)
    refine' sb_one ?_
    refine' sx_assignAttr ?_ ?_ (put_N an1) (fun _ => rfl)
    exact se_global (by rfl) (by rfl) (by decide)
    refine' se_sub ?_ ?_ (fun _ _ _ => by with_unfolding_all rfl)
    exact se_locS (by rfl) (by rfl) (by decide)
    exact se_locS (by rfl) (by rfl) (by decide)
    refine' sb_cons ?_ ?_
    refine' sx_expr ?_ (fun _ => rfl)
    refine' se_meth PySem.F.plainAttrs_list PySem.F.slot_list_clear PySem.F.type_list_clear holds_L ?_ ?_ prim_clear (fun _ => rfl) (fun _ => ⟨_, rfl⟩)
    refine' se_attr ?_ (prim_getS (j := 1) as1 true) (fun _ => rfl)
    exact se_locS (by rfl) (by rfl) (by decide)
    exact sa_nil
    refine' sb_cons ?_ ?_
    refine' sx_augAttr ?_ (prim_getS (j := 2) as2 true) ?_ (prim_iint2 iadd_ok) (put_S (j := 2) as2)
    exact se_locS (by rfl) (by rfl) (by decide)
    refine' se_bcall prim_len ?_ (by rfl) (by rfl) Boot.len (by decide) (fun _ h => looks_blt _ h) (by decide) (fun _ => rfl) (fun _ => rfl)
    refine' sa_cons ?_ ?_ (fun _ => rfl)
    exact se_locS (by rfl) (by rfl) (by decide)
    exact sa_nil
    refine' sb_one ?_
    refine' sx_ret ?_
    exact se_locS (by rfl) (by rfl) (by decide)
set_option maxHeartbeats 4000000 in
theorem tAct {w : World} {mean : ExcName → Option Value} {mg mb : Str → Option Value} : FC (Wof w mean mg mb) 106 1 103 qAct := by
  refine' fc_def ["self"] 1 0 100 (f := fAct) (by rfl) (by rfl) ?b (by rfl) (by rfl) (by rfl) (by decide) ?h
  case b =>
    intro s cvs h
    obtain ⟨a, rfl⟩ := len1 h
    exact BindsTo.of_eq rfl
  case h =>
    refine' sb_cons ?_ ?_
    refine' sx_if ?_ ?_ ?_
    refine' st_cmpA ?_ ?_ (by decide) (by rfl)
    refine' se_attr ?_ (prim_getS (j := 1) as1 true) (fun _ => rfl)
    exact se_locS (by rfl) (by rfl) (by decide)
    exact se_none
    refine' sb_one ?_
    exact sx_never
    exact sb_nil
    refine' sb_one ?_
    refine' sx_ret ?_
    refine' se_or2 ?_ ?_
    refine' se_cmpA ?_ ?_ (by decide) (by rfl)
    refine' se_attr ?_ (prim_getS (j := 3) as3 true) (fun _ => rfl)
    exact se_locS (by rfl) (by rfl) (by decide)
    refine' se_attr ?_ (prim_getS (j := 2) as2 true) (fun _ => rfl)
    exact se_locS (by rfl) (by rfl) (by decide)
    refine' se_orOne ?_
    refine' se_bcall prim_bool ?_ (by rfl) (by rfl) Boot.bool (by decide) (fun _ h => looks_type _ h) (by decide) (fun _ => rfl) (fun _ => rfl)
    refine' sa_cons ?_ ?_ (fun _ => rfl)
    refine' se_attr ?_ (prim_getS (j := 1) as1 true) (fun _ => rfl)
    exact se_locS (by rfl) (by rfl) (by decide)
    exact sa_nil
set_option maxHeartbeats 4000000 in
theorem tDone {w : World} {mean : ExcName → Option Value} {mg mb : Str → Option Value} : FC (Wof w mean mg mb) 120 1 103 qDone := by
  refine' fc_rest ["self", "nodes", "n2i", "node", "nodeinfo", "stat", "successor", "successor_info"] 1 0 100 "nodes" (f := fDone) (by rfl) (by rfl) ?b (by rfl) (by rfl) (by rfl) (by decide) ?h
  case b =>
    intro cvs rest h hr
    obtain ⟨a, rfl⟩ := len1 h
    match rest, hr with
    | [], _ => exact ⟨rfl, _, by rfl, fun _ => rfl⟩
    | [_], _ => exact ⟨rfl, _, by rfl, fun _ => rfl⟩
    | [_, _], _ => exact ⟨rfl, _, by rfl, fun _ => rfl⟩
    | [_, _, _], _ => exact ⟨rfl, _, by rfl, fun _ => rfl⟩
    | [_, _, _, _], _ => exact ⟨rfl, _, by rfl, fun _ => rfl⟩
    | _ :: _ :: _ :: _ :: _ :: _, hr => exact absurd hr (by simp only [List.length_cons]; omega)
  case h =>
    refine' sb_cons ?_ ?_
    refine' sx_if ?_ ?_ ?_
    refine' st_cmpA ?_ ?_ (by decide) (by rfl)
    refine' se_attr ?_ (prim_getS (j := 1) as1 true) (fun _ => rfl)
    exact se_locS (by rfl) (by rfl) (by decide)
    exact se_none
    refine' sb_one ?_
    exact sx_never
    exact sb_nil
    refine' sb_cons ?_ ?_
    refine' sx_assign ?_ (store_locS (by rfl) (by rfl)) (fun _ => rfl)
    refine' se_attr ?_ (prim_getS (j := 0) as0 true) (fun _ => rfl)
    exact se_locS (by rfl) (by rfl) (by decide)
    refine' sb_one ?_
    refine' sx_for false 64 ?_ (store_locS (by rfl) (by rfl)) ?_ (fun _ _ => by rfl) (by rfl)
    refine' si_val ?_
    exact se_locS (by rfl) (by rfl) (by decide)
    refine' sb_cons ?_ ?_
    refine' sx_if ?_ ?_ ?_
    refine' st_cmpA ?_ ?_ (by decide) (by rfl)
    refine' se_named ?_ (store_locS (by rfl) (by rfl))
    refine' se_meth PySem.F.plainAttrs_dict PySem.F.slot_dict_get PySem.F.type_dict_get holds_D ?_ ?_ prim_get (fun _ => rfl) (fun _ => ⟨_, rfl⟩)
    exact se_locS (by rfl) (by rfl) (by decide)
    refine' sa_cons ?_ ?_ (fun _ => rfl)
    exact se_locS (by rfl) (by rfl) (by decide)
    exact sa_nil
    exact se_none
    refine' sb_one ?_
    exact sx_never
    exact sb_nil
    refine' sb_cons ?_ ?_
    refine' sx_assign ?_ (store_locS (by rfl) (by rfl)) (fun _ => rfl)
    refine' se_attr ?_ (prim_getN an1 true) (fun _ => rfl)
    exact se_locS (by rfl) (by rfl) (by decide)
    refine' sb_cons ?_ ?_
    refine' sx_if ?_ ?_ ?_
    refine' st_cmpA ?_ ?_ (by decide) (by rfl)
    exact se_locS (by rfl) (by rfl) (by decide)
    exact se_global (by rfl) (by rfl) (by decide)
    refine' sb_one ?_
    refine' sx_if ?_ ?_ ?_
    refine' st_cmpA ?_ ?_ (by decide) (by rfl)
    exact se_locS (by rfl) (by rfl) (by decide)
    exact se_int
    refine' sb_one ?_
    exact sx_never
    refine' sb_one ?_
    refine' sx_if ?_ ?_ ?_
    refine' st_cmpA ?_ ?_ (by decide) (by rfl)
    exact se_locS (by rfl) (by rfl) (by decide)
    exact se_global (by rfl) (by rfl) (by decide)
    refine' sb_one ?_
    exact sx_never
    refine' sb_one ?_
    exact sx_never
    exact sb_nil
    refine' sb_cons ?_ ?_
    refine' sx_assignAttr ?_ ?_ (put_N an1) (fun _ => rfl)
    exact se_global (by rfl) (by rfl) (by decide)
    exact se_locS (by rfl) (by rfl) (by decide)
    refine' sb_cons ?_ ?_
    refine' sx_for false 64 ?_ (store_locS (by rfl) (by rfl)) ?_ (fun _ _ => by rfl) (by rfl)
    refine' si_val ?_
    refine' se_attr ?_ (prim_getN an2 true) (fun _ => rfl)
    exact se_locS (by rfl) (by rfl) (by decide)
    refine' sb_cons ?_ ?_
    refine' sx_assign ?_ (store_locS (by rfl) (by rfl)) (fun _ => rfl)
    refine' se_sub ?_ ?_ (fun _ _ _ => by with_unfolding_all rfl)
    exact se_locS (by rfl) (by rfl) (by decide)
    exact se_locS (by rfl) (by rfl) (by decide)
    refine' sb_cons ?_ ?_
    refine' sx_augAttr ?_ (prim_getN an1 true) ?_ (prim_iint2 isub_ok) (put_N an1)
    exact se_locS (by rfl) (by rfl) (by decide)
    exact se_int
    refine' sb_one ?_
    refine' sx_if ?_ ?_ ?_
    refine' st_cmpA ?_ ?_ (by decide) (by rfl)
    refine' se_attr ?_ (prim_getN an1 true) (fun _ => rfl)
    exact se_locS (by rfl) (by rfl) (by decide)
    exact se_int
    refine' sb_one ?_
    refine' sx_expr ?_ (fun _ => rfl)
    refine' se_meth PySem.F.plainAttrs_list PySem.F.slot_list_append PySem.F.type_list_append holds_L ?_ ?_ prim_append (fun _ => rfl) (fun _ => ⟨_, rfl⟩)
    refine' se_attr ?_ (prim_getS (j := 1) as1 true) (fun _ => rfl)
    exact se_locS (by rfl) (by rfl) (by decide)
    refine' sa_cons ?_ ?_ (fun _ => rfl)
    exact se_locS (by rfl) (by rfl) (by decide)
    exact sa_nil
    exact sb_nil
    refine' sb_one ?_
    refine' sx_augAttr ?_ (prim_getS (j := 3) as3 true) ?_ (prim_iint2 iadd_ok) (put_S (j := 3) as3)
    exact se_locS (by rfl) (by rfl) (by decide)
    exact se_int
set_option maxHeartbeats 4000000 in
theorem tFc {w : World} {mean : ExcName → Option Value} {mg mb : Str → Option Value} : FC (Wof w mean mg mb) 127 1 103 qFc := by
  refine' fc_def ["self", "n2i", "stack", "itstack", "seen", "node2stacki", "node"] 1 0 100 (f := fFc) (by rfl) (by rfl) ?b (by rfl) (by rfl) (by rfl) (by decide) ?h
  case b =>
    intro s cvs h
    obtain ⟨a, rfl⟩ := len1 h
    exact BindsTo.of_eq rfl
  case h =>
    refine' sb_cons ?_ ?_
    refine' sx_assign ?_ (store_locS (by rfl) (by rfl)) (fun _ => rfl)
    refine' se_attr ?_ (prim_getS (j := 0) as0 true) (fun _ => rfl)
    exact se_locS (by rfl) (by rfl) (by decide)
    refine' sb_cons ?_ ?_
    refine' sx_assign ?_ (store_locS (by rfl) (by rfl)) (fun _ => rfl)
    refine' se_list ?_ prim_newList
    exact sa_nil
    refine' sb_cons ?_ ?_
    refine' sx_assign ?_ (store_locS (by rfl) (by rfl)) (fun _ => rfl)
    refine' se_list ?_ prim_newList
    exact sa_nil
    refine' sb_cons ?_ ?_
    refine' sx_assign ?_ (store_locS (by rfl) (by rfl)) (fun _ => rfl)
    refine' se_bcall prim_set0 ?_ (by rfl) (by rfl) Boot.set (by decide) (fun _ h => looks_type _ h) (by decide) (fun _ => rfl) (fun _ => rfl)
    exact sa_nil
    refine' sb_cons ?_ ?_
    refine' sx_assign ?_ (store_locS (by rfl) (by rfl)) (fun _ => rfl)
    exact se_dict0 (fun x ok => modules_low ok.T.nolimit)
    refine' sb_cons ?_ ?_
    refine' sx_for false 64 ?_ (store_locS (by rfl) (by rfl)) ?_ (fun _ _ => by rfl) (by rfl)
    refine' si_val ?_
    exact se_locS (by rfl) (by rfl) (by decide)
    refine' sb_cons ?_ ?_
    refine' sx_if ?_ ?_ ?_
    refine' st_cmpA ?_ ?_ (by decide) (by rfl)
    exact se_locS (by rfl) (by rfl) (by decide)
    exact se_locS (by rfl) (by rfl) (by decide)
    refine' sb_one ?_
    exact sx_continue
    exact sb_nil
    refine' sb_one ?_
    refine' sx_while false 64 ?_ ?_ ?_
    refine' st_plain ?_ (fun _ _ => rfl)
    exact se_bool
    refine' sb_cons ?_ ?_
    refine' sx_if ?_ ?_ ?_
    refine' st_cmpA ?_ ?_ (by decide) (by rfl)
    exact se_locS (by rfl) (by rfl) (by decide)
    exact se_locS (by rfl) (by rfl) (by decide)
    refine' sb_one ?_
    refine' sx_if ?_ ?_ ?_
    refine' st_cmpA ?_ ?_ (by decide) (by rfl)
    exact se_locS (by rfl) (by rfl) (by decide)
    exact se_locS (by rfl) (by rfl) (by decide)
    refine' sb_one ?_
    exact sx_never
    exact sb_nil
    refine' sb_cons ?_ ?_
    refine' sx_expr ?_ (fun _ => rfl)
    refine' se_meth PySem.F.plainAttrs_set PySem.F.slot_set_add PySem.F.type_set_add holds_S ?_ ?_ prim_add (fun _ => rfl) (fun _ => ⟨_, rfl⟩)
    exact se_locS (by rfl) (by rfl) (by decide)
    refine' sa_cons ?_ ?_ (fun _ => rfl)
    exact se_locS (by rfl) (by rfl) (by decide)
    exact sa_nil
    refine' sb_cons ?_ ?_
    refine' sx_expr ?_ (fun _ => rfl)
    refine' se_meth PySem.F.plainAttrs_list PySem.F.slot_list_append PySem.F.type_list_append holds_L ?_ ?_ prim_append (fun _ => rfl) (fun _ => ⟨_, rfl⟩)
    exact se_locS (by rfl) (by rfl) (by decide)
    refine' sa_cons ?_ ?_ (fun _ => rfl)
    refine' se_iterNext ?_ (by rfl) (by rfl) (fun _ => rfl) (fun _ => rfl) (fun _ => rfl)
    refine' se_attr ?_ (prim_getN an2 true) (fun _ => rfl)
    refine' se_sub ?_ ?_ (fun _ _ _ => by with_unfolding_all rfl)
    exact se_locS (by rfl) (by rfl) (by decide)
    exact se_locS (by rfl) (by rfl) (by decide)
    exact sa_nil
    refine' sb_cons ?_ ?_
    refine' sx_assignSub ?_ ?_ ?_ (fun _ => rfl)
    refine' se_bcall prim_len ?_ (by rfl) (by rfl) Boot.len (by decide) (fun _ h => looks_blt _ h) (by decide) (fun _ => rfl) (fun _ => rfl)
    refine' sa_cons ?_ ?_ (fun _ => rfl)
    exact se_locS (by rfl) (by rfl) (by decide)
    exact sa_nil
    exact se_locS (by rfl) (by rfl) (by decide)
    exact se_locS (by rfl) (by rfl) (by decide)
    refine' sb_one ?_
    refine' sx_expr ?_ (fun _ => rfl)
    refine' se_meth PySem.F.plainAttrs_list PySem.F.slot_list_append PySem.F.type_list_append holds_L ?_ ?_ prim_append (fun _ => rfl) (fun _ => ⟨_, rfl⟩)
    exact se_locS (by rfl) (by rfl) (by decide)
    refine' sa_cons ?_ ?_ (fun _ => rfl)
    exact se_locS (by rfl) (by rfl) (by decide)
    exact sa_nil
    refine' sb_one ?_
    refine' sx_while false 64 ?_ ?_ ?_
    refine' st_plain ?_ (fun _ _ => rfl)
    exact se_locS (by rfl) (by rfl) (by decide)
    refine' sb_one ?_
    refine' sx_tryNext ?_ (store_locS (by rfl) (by rfl)) ?_ (by rfl) (by rfl) (by rfl) (by rfl) (by decide +kernel) (fun _ => rfl) (fun _ => rfl)
    refine' se_last ?_ se_neg1 (fun _ _ _ => by with_unfolding_all rfl)
    exact se_locS (by rfl) (by rfl) (by decide)
    refine' sb_cons ?_ ?_
    refine' sx_del ?_ ?_
    exact se_locS (by rfl) (by rfl) (by decide)
    refine' se_meth PySem.F.plainAttrs_list PySem.F.slot_list_pop PySem.F.type_list_pop holds_L ?_ ?_ prim_pop (fun _ => rfl) (fun _ => ⟨_, rfl⟩)
    exact se_locS (by rfl) (by rfl) (by decide)
    exact sa_nil
    refine' sb_one ?_
    refine' sx_expr ?_ (fun _ => rfl)
    refine' se_meth PySem.F.plainAttrs_list PySem.F.slot_list_pop PySem.F.type_list_pop holds_L ?_ ?_ prim_pop (fun _ => rfl) (fun _ => ⟨_, rfl⟩)
    exact se_locS (by rfl) (by rfl) (by decide)
    exact sa_nil
    refine' sb_one ?_
    exact sx_break
    exact sb_nil
    refine' sb_one ?_
    refine' sx_ret ?_
    exact se_none
set_option maxHeartbeats 4000000 in
theorem tPrep {w : World} {mean : ExcName → Option Value} {mg mb : Str → Option Value} : FC (Wof w mean mg mb) 92 2 113 qPrep := by
  refine' fc_def ["self", "cycle"] 1 1 110 (f := fPrep) (by rfl) (by rfl) ?b (by rfl) (by rfl) (by rfl) (by decide) ?h
  case b =>
    intro s cvs h
    obtain ⟨a, rfl⟩ := len1 h
    exact BindsTo.of_eq rfl
  case h =>
    refine' sb_cons ?_ ?_
    refine' sx_if ?_ ?_ ?_
    refine' st_cmpA ?_ ?_ (by decide) (by rfl)
    refine' se_attr ?_ (prim_getS (j := 1) as1 true) (fun _ => rfl)
    exact se_locS (by rfl) (by rfl) (by decide)
    exact se_none
    refine' sb_one ?_
    exact sx_never
    exact sb_nil
    refine' sb_cons ?_ ?_
    refine' sx_assignAttr ?_ ?_ (put_S (j := 1) as1) (fun _ => rfl)
    refine' se_compB false [] 40 end_list (by decide) (fun _ _ _ => ⟨rfl, rfl⟩) (by rfl) (fun _ _ => by rfl) (store_locS (by rfl) (by rfl)) ?_ ?_ ?_
    refine' si_values ?_ (fun _ => ⟨_, rfl⟩)
    refine' se_attr ?_ (prim_getS (j := 0) as0 true) (fun _ => rfl)
    exact se_locS (by rfl) (by rfl) (by decide)
    refine' sts_one ?_
    refine' st_cmpA ?_ ?_ (by decide) (by rfl)
    refine' se_attr ?_ (prim_getN an1 true) (fun _ => rfl)
    exact se_locS (by rfl) (by rfl) (by decide)
    exact se_int
    refine' se_attr ?_ (prim_getN an0 true) (fun _ => rfl)
    exact se_locS (by rfl) (by rfl) (by decide)
    exact se_locS (by rfl) (by rfl) (by decide)
    refine' sb_cons ?_ ?_
    refine' sx_assign ?_ (store_locS (by rfl) (by rfl)) (fun _ => rfl)
    refine' se_mcall msFc ((tFc).settle) ?_ ?_ (by rfl) (by rfl) (by decide) (by decide) (fun _ => rfl) (fun _ => ⟨_, rfl⟩)
    exact se_locS (by rfl) (by rfl) (by decide)
    exact sa_nil
    refine' sb_one ?_
    refine' sx_if ?_ ?_ ?_
    refine' st_plain ?_ (fun _ _ => rfl)
    exact se_locS (by rfl) (by rfl) (by decide)
    refine' sb_one ?_
    exact sx_never
    exact sb_nil
set_option maxHeartbeats 4000000 in
theorem tSwept {w : World} {mean : ExcName → Option Value} {mg mb : Str → Option Value} : FC (Wof w mean mg mb) 204 5 133 qSwept := by
  refine' fc_def ["modes", "waits", "first", "sorter", "j", "heap", "course", "sweep", "late", "rights"] 3 4 130 (f := fSwept) (by rfl) (by rfl) ?b (by rfl) (by rfl) (by rfl) (by decide) ?h
  case b =>
    intro s cvs h
    obtain ⟨a, b, d, rfl⟩ := len3 h
    exact BindsTo.of_eq rfl
  case h =>
    refine' sb_cons ?_ ?_
    refine' sx_assign ?_ (store_locS (by rfl) (by rfl)) (fun _ => rfl)
    refine' se_call (fc_class (A0 := .part []) tIns (by rfl) (by rfl) (by rfl) (fun _ _ _ a b => ⟨a, b, 0, [], [], rfl, .nil, rfl⟩)) ?_ (by rfl) (by rfl) (by decide) (by rfl) (by rfl) (by decide) (by decide) (by rfl) (fun _ => rfl) (fun _ => rfl)
    exact sa_nil
    refine' sb_cons ?_ ?_
    refine' sx_for false 64 ?_ (store_locS (by rfl) (by rfl)) ?_ (fun _ _ => by rfl) (by rfl)
    refine' si_range ?_ (by rfl) (by rfl) range1_ok (fun _ => rfl) (fun _ => rfl)
    refine' sa_cons ?_ ?_ (fun _ => rfl)
    exact se_int
    exact sa_nil
    refine' sb_one ?_
    refine' sx_expr ?_ (fun _ => rfl)
    refine' se_mcallS bsAdd (tAdd) ?_ ?_ (by rfl) (by rfl) (by decide) (by decide) (fun _ => rfl) (fun _ => rfl) (fun _ => rfl)
    exact se_locS (by rfl) (by rfl) (by decide)
    refine' sa_cons ?_ ?_ (fun _ => rfl)
    exact se_locS (by rfl) (by rfl) (by decide)
    refine' sa_star ?_ ?_ (fun _ => rfl)
    refine' se_sub ?_ ?_ (fun _ _ _ => by with_unfolding_all rfl)
    exact se_locS (by rfl) (by rfl) (by decide)
    exact se_locS (by rfl) (by rfl) (by decide)
    exact sa_nil
    refine' sb_cons ?_ ?_
    refine' sx_expr ?_ (fun _ => rfl)
    refine' se_mcall msPrep (tPrep) ?_ ?_ (by rfl) (by rfl) (by decide) (by decide) (fun _ => rfl) (fun _ => ⟨_, rfl⟩)
    exact se_locS (by rfl) (by rfl) (by decide)
    exact sa_nil
    refine' sb_cons ?_ ?_
    refine' sx_swap3 ?_ (by rfl) (store_locS (by rfl) (by rfl)) (store_locS (by rfl) (by rfl)) (store_locS (by rfl) (by rfl)) (fun _ => rfl) (by intro env he; cases env; cases he; rfl)
    refine' su_disp ?_
    refine' sa_cons ?_ ?_ (fun _ => rfl)
    refine' se_list ?_ prim_newList
    exact sa_nil
    refine' sa_cons ?_ ?_ (fun _ => rfl)
    refine' se_list ?_ prim_newList
    exact sa_nil
    refine' sa_cons ?_ ?_ (fun _ => rfl)
    exact se_int
    exact sa_nil
    refine' sb_cons ?_ ?_
    refine' sx_while false 64 ?_ ?_ ?_
    refine' st_plain ?_ (fun _ _ => rfl)
    refine' se_mcall msAct (tAct) ?_ ?_ (by rfl) (by rfl) (by decide) (by decide) (fun _ => rfl) (fun _ => ⟨_, rfl⟩)
    exact se_locS (by rfl) (by rfl) (by decide)
    exact sa_nil
    refine' sb_cons ?_ ?_
    refine' sx_for false 64 ?_ (store_locS (by rfl) (by rfl)) ?_ (fun _ _ => by rfl) (by rfl)
    refine' si_val ?_
    refine' se_mcall msRdy (tRdy) ?_ ?_ (by rfl) (by rfl) (by decide) (by decide) (fun _ => rfl) (fun _ => ⟨_, rfl⟩)
    exact se_locS (by rfl) (by rfl) (by decide)
    exact sa_nil
    refine' sb_cons ?_ ?_
    refine' sx_if ?_ ?_ ?_
    refine' st_cmpA ?_ ?_ (by decide) (by rfl)
    refine' se_int2 ?_ ?_
    refine' se_int2 ?_ ?_
    exact se_locS (by rfl) (by rfl) (by decide)
    exact se_locS (by rfl) (by rfl) (by decide)
    exact se_int
    exact se_int
    refine' sb_one ?_
    refine' sx_assign ?_ (store_locS (by rfl) (by rfl)) (fun _ => rfl)
    refine' se_call (tIsreg) ?_ (by rfl) (by rfl) (by decide) (by rfl) (by rfl) (by decide) (by decide) (by rfl) (fun _ => rfl) (fun _ => rfl)
    refine' sa_cons ?_ ?_ (fun _ => rfl)
    refine' se_sub ?_ ?_ (fun _ _ _ => by with_unfolding_all rfl)
    exact se_locS (by rfl) (by rfl) (by decide)
    exact se_locS (by rfl) (by rfl) (by decide)
    exact sa_nil
    refine' sb_one ?_
    refine' sx_assign ?_ (store_locS (by rfl) (by rfl)) (fun _ => rfl)
    refine' se_call (tIsdir) ?_ (by rfl) (by rfl) (by decide) (by rfl) (by rfl) (by decide) (by decide) (by rfl) (fun _ => rfl) (fun _ => rfl)
    refine' sa_cons ?_ ?_ (fun _ => rfl)
    refine' se_sub ?_ ?_ (fun _ _ _ => by with_unfolding_all rfl)
    exact se_locS (by rfl) (by rfl) (by decide)
    exact se_locS (by rfl) (by rfl) (by decide)
    exact sa_nil
    refine' sb_one ?_
    refine' sx_expr ?_ (fun _ => rfl)
    refine' se_call (tPush) ?_ (by rfl) (by rfl) (by decide) (by rfl) (by rfl) (by decide) (by decide) (by rfl) (fun _ => rfl) (fun _ => rfl)
    refine' sa_cons ?_ ?_ (fun _ => rfl)
    exact se_locS (by rfl) (by rfl) (by decide)
    refine' sa_cons ?_ ?_ (fun _ => rfl)
    refine' se_tuple ?_ prim_tup
    refine' sa_cons ?_ ?_ (fun _ => rfl)
    refine' se_ifexp ?_ ?_ ?_
    refine' st_plain ?_ (fun _ _ => rfl)
    exact se_locS (by rfl) (by rfl) (by decide)
    refine' se_int2 ?_ ?_
    exact se_locS (by rfl) (by rfl) (by decide)
    exact se_int
    exact se_locS (by rfl) (by rfl) (by decide)
    refine' sa_cons ?_ ?_ (fun _ => rfl)
    refine' se_call (tImode) ?_ (by rfl) (by rfl) (by decide) (by rfl) (by rfl) (by decide) (by decide) (by rfl) (fun _ => rfl) (fun _ => rfl)
    refine' sa_cons ?_ ?_ (fun _ => rfl)
    refine' se_sub ?_ ?_ (fun _ _ _ => by with_unfolding_all rfl)
    exact se_locS (by rfl) (by rfl) (by decide)
    exact se_locS (by rfl) (by rfl) (by decide)
    exact sa_nil
    refine' sa_cons ?_ ?_ (fun _ => rfl)
    exact se_locS (by rfl) (by rfl) (by decide)
    exact sa_nil
    exact sa_nil
    refine' sb_cons ?_ ?_
    refine' sx_tup3 ?_ (by rfl) (store_locS (by rfl) (by rfl)) (store_locS (by rfl) (by rfl)) (store_locS (by rfl) (by rfl)) (fun _ => rfl) (by intro env he; cases env; cases he; rfl)
    refine' su_val ?_
    refine' se_call (tPop) ?_ (by rfl) (by rfl) (by decide) (by rfl) (by rfl) (by decide) (by decide) (by rfl) (fun _ => rfl) (fun _ => rfl)
    refine' sa_cons ?_ ?_ (fun _ => rfl)
    exact se_locS (by rfl) (by rfl) (by decide)
    exact sa_nil
    refine' sb_cons ?_ ?_
    refine' sx_expr ?_ (fun _ => rfl)
    refine' se_meth PySem.F.plainAttrs_list PySem.F.slot_list_append PySem.F.type_list_append holds_L ?_ ?_ prim_append (fun _ => rfl) (fun _ => ⟨_, rfl⟩)
    exact se_locS (by rfl) (by rfl) (by decide)
    refine' sa_cons ?_ ?_ (fun _ => rfl)
    exact se_locS (by rfl) (by rfl) (by decide)
    exact sa_nil
    refine' sb_one ?_
    refine' sx_expr ?_ (fun _ => rfl)
    refine' se_mcall msDone (tDone) ?_ ?_ (by rfl) (by rfl) (by decide) (by decide) (fun _ => rfl) (fun _ => ⟨_, rfl⟩)
    exact se_locS (by rfl) (by rfl) (by decide)
    refine' sa_cons ?_ ?_ (fun _ => rfl)
    exact se_locS (by rfl) (by rfl) (by decide)
    exact sa_nil
    exact sb_nil
    refine' sb_one ?_
    refine' sx_ret (se_tuple ?_ prim_pair)
    refine' sa_cons ?_ ?_ (fun _ => rfl)
    exact se_locS (by rfl) (by rfl) (by decide)
    refine' sa_cons ?_ ?_ (fun _ => rfl)
    exact se_locS (by rfl) (by rfl) (by decide)
    exact sa_nil
set_option maxHeartbeats 4000000 in
theorem tCourse {w : World} {mean : ExcName → Option Value} {mg mb : Str → Option Value} : FC (Wof w mean mg mb) 209 1 103 qCourse := by
  refine' fc_cells [("ranks", false), ("kinds", false), ("waits", false), ("first", false), ("course", true), ("kind", false), ("free", false), ("j", false)] 4 0 100 (f := fCourse) (by rfl) (by rfl) ?b (by rfl) (by rfl) (by rfl) (by decide) ?h
  case b =>
    intro s cvs h
    obtain ⟨a, b, d, e, rfl⟩ := len4 h
    exact BindsTo.of_eq rfl
  case h =>
    refine' sb_cons ?_ ?_
    refine' sx_tup2 ?_ (by rfl) (store_cellS (by rfl) (by decide) (by rfl)) (store_locS (by rfl) (by rfl)) (fun _ => rfl) (by intro env he; cases env; cases he; rfl)
    refine' su_disp ?_
    refine' sa_cons ?_ ?_ (fun _ => rfl)
    refine' se_list ?_ prim_newList
    exact sa_nil
    refine' sa_cons ?_ ?_ (fun _ => rfl)
    exact se_locS (by rfl) (by rfl) (by decide)
    exact sa_nil
    refine' sb_cons ?_ ?_
    refine' sx_while true 64 ?_ ?_ ?_
    refine' st_cmpA ?_ ?_ (by decide) (by rfl)
    refine' se_bcall prim_len ?_ (by rfl) (by rfl) Boot.len (by decide) (fun _ h => looks_blt _ h) (by decide) (fun _ => rfl) (fun _ => rfl)
    refine' sa_cons ?_ ?_ (fun _ => rfl)
    exact se_cellS (by rfl) (by rfl) (by decide)
    exact sa_nil
    exact se_int
    refine' sb_cons ?_ ?_
    refine' sx_assign ?_ (store_locS (by rfl) (by rfl)) (fun _ => rfl)
    refine' se_list ?_ prim_newList
    exact sa_nil
    refine' sb_cons ?_ ?_
    refine' sx_for false 64 ?_ (store_locS (by rfl) (by rfl)) ?_ (fun _ _ => by rfl) (by rfl)
    refine' si_range ?_ (by rfl) (by rfl) range1_ok (fun _ => rfl) (fun _ => rfl)
    refine' sa_cons ?_ ?_ (fun _ => rfl)
    exact se_int
    exact sa_nil
    refine' sb_one ?_
    refine' sx_if ?_ ?_ ?_
    refine' st_and ?_ ?_
    refine' st_cmpA ?_ ?_ (by decide) (by rfl)
    exact se_locS (by rfl) (by rfl) (by decide)
    exact se_cellS (by rfl) (by rfl) (by decide)
    refine' st_and ?_ ?_
    refine' st_cmpA ?_ ?_ (by decide) (by rfl)
    refine' se_sub ?_ ?_ (fun _ _ _ => by with_unfolding_all rfl)
    exact se_locS (by rfl) (by rfl) (by decide)
    exact se_locS (by rfl) (by rfl) (by decide)
    refine' se_int2 ?_ ?_
    exact se_int
    exact se_locS (by rfl) (by rfl) (by decide)
    refine' st_and ?_ ?_
    refine' st_cmpA ?_ (se_list sa_nil prim_li) (by decide) (by rfl)
    refine' se_compB false [("course", 4)] 40 end_li (by decide) (fun _ _ _ => ⟨rfl, rfl⟩) (by rfl) (fun _ _ => by rfl) (store_locS (by rfl) (by rfl)) ?_ ?_ ?_
    refine' si_val ?_
    refine' se_sub ?_ ?_ (fun _ _ _ => by with_unfolding_all rfl)
    exact se_locS (by rfl) (by rfl) (by decide)
    exact se_locS (by rfl) (by rfl) (by decide)
    refine' sts_one ?_
    refine' st_cmpA ?_ ?_ (by decide) (by rfl)
    exact se_locS (by rfl) (by rfl) (by decide)
    exact se_cellS (by rfl) (by rfl) (by decide)
    exact se_locS (by rfl) (by rfl) (by decide)
    exact st_and0
    refine' sb_one ?_
    refine' sx_expr ?_ (fun _ => rfl)
    refine' se_meth PySem.F.plainAttrs_list PySem.F.slot_list_append PySem.F.type_list_append holds_L ?_ ?_ prim_append (fun _ => rfl) (fun _ => ⟨_, rfl⟩)
    exact se_locS (by rfl) (by rfl) (by decide)
    refine' sa_cons ?_ ?_ (fun _ => rfl)
    refine' se_tuple ?_ prim_tup
    refine' sa_cons ?_ ?_ (fun _ => rfl)
    refine' se_sub ?_ ?_ (fun _ _ _ => by with_unfolding_all rfl)
    exact se_locS (by rfl) (by rfl) (by decide)
    exact se_locS (by rfl) (by rfl) (by decide)
    refine' sa_cons ?_ ?_ (fun _ => rfl)
    exact se_locS (by rfl) (by rfl) (by decide)
    exact sa_nil
    exact sa_nil
    exact sb_nil
    refine' sb_one ?_
    refine' sx_if ?_ ?_ ?_
    refine' st_plain ?_ (fun _ _ => rfl)
    exact se_locS (by rfl) (by rfl) (by decide)
    refine' sb_one ?_
    refine' sx_expr ?_ (fun _ => rfl)
    refine' se_meth PySem.F.plainAttrs_list PySem.F.slot_list_append PySem.F.type_list_append holds_L ?_ ?_ prim_append (fun _ => rfl) (fun _ => ⟨_, rfl⟩)
    exact se_cellS (by rfl) (by rfl) (by decide)
    refine' sa_cons ?_ ?_ (fun _ => rfl)
    refine' se_sub ?_ ?_ (fun _ _ _ => by with_unfolding_all rfl)
    refine' se_bcall (prim_minT (by rfl) (by decide)) ?_ (by rfl) (by rfl) Boot.min (by decide) (fun _ h => looks_blt _ h) (by decide) (fun _ => rfl) (fun _ => rfl)
    refine' sa_cons ?_ ?_ (fun _ => rfl)
    exact se_locS (by rfl) (by rfl) (by decide)
    exact sa_nil
    exact se_int
    exact sa_nil
    refine' sb_one ?_
    refine' sx_assign ?_ (store_locS (by rfl) (by rfl)) (fun _ => rfl)
    refine' se_int2 ?_ ?_
    exact se_int
    exact se_locS (by rfl) (by rfl) (by decide)
    exact sb_nil
    refine' sb_one ?_
    refine' sx_ret ?_
    exact se_cellS (by rfl) (by rfl) (by decide)
set_option maxHeartbeats 4000000 in
theorem tLeast {w : World} {mean : ExcName → Option Value} {mg mb : Str → Option Value} : FC (Wof w mean mg mb) 214 1 103 qLeast := by
  refine' fc_cells [("kinds", false), ("waits", true), ("masks", false), ("least", false), ("gone", false), ("stay", false), ("j", false), ("kind", false)] 2 0 100 (f := fLeast) (by rfl) (by rfl) ?b (by rfl) (by rfl) (by rfl) (by decide) ?h
  case b =>
    intro s cvs h
    obtain ⟨a, b, rfl⟩ := len2 h
    exact BindsTo.of_eq rfl
  case h =>
    refine' sb_cons ?_ ?_
    refine' sx_assignCompB false [("waits", 1)] 40 end_li (by decide) (fun _ _ _ => ⟨rfl, rfl⟩) (by rfl) (fun _ _ => by rfl) (store_locS (by rfl) (by rfl)) (store_locS (by rfl) (by rfl)) (swaps_comp (by rfl) (by rfl) (by rfl) (by decide)) ?_ ?_ ?_
    refine' si_range ?_ (by rfl) (by rfl) range1_ok (fun _ => rfl) (fun _ => rfl)
    refine' sa_cons ?_ ?_ (fun _ => rfl)
    exact se_int
    exact sa_nil
    exact sts_nil
    refine' se_bcall (prim_sum (by rfl)) ?_ (by rfl) (by rfl) Boot.sum (by decide) (fun _ h => looks_blt _ h) (by decide) (fun _ => rfl) (fun _ => rfl)
    refine' sa_cons ?_ ?_ (fun _ => rfl)
    refine' se_compB false [] 40 end_li (by decide) (fun _ _ _ => ⟨rfl, rfl⟩) (by rfl) (fun _ _ => by rfl) (store_locS (by rfl) (by rfl)) ?_ ?_ ?_
    refine' si_val ?_
    refine' se_sub ?_ ?_ (fun _ _ _ => by with_unfolding_all rfl)
    exact se_cellS (by rfl) (by rfl) (by decide)
    exact se_locS (by rfl) (by rfl) (by decide)
    exact sts_nil
    refine' se_int2 ?_ ?_
    exact se_int
    exact se_locS (by rfl) (by rfl) (by decide)
    exact sa_nil
    refine' sb_cons ?_ ?_
    refine' sx_assignCompB false [] 40 end_list (by decide) (fun _ _ _ => ⟨rfl, rfl⟩) (by rfl) (fun _ _ => by rfl) (store_locS (by rfl) (by rfl)) (store_locS (by rfl) (by rfl)) (swaps_comp (by rfl) (by rfl) (by rfl) (by decide)) ?_ ?_ ?_
    refine' si_range ?_ (by rfl) (by rfl) range1_ok (fun _ => rfl) (fun _ => rfl)
    refine' sa_cons ?_ ?_ (fun _ => rfl)
    exact se_int
    exact sa_nil
    exact sts_nil
    refine' se_list ?_ prim_newList
    refine' sa_cons ?_ ?_ (fun _ => rfl)
    exact se_int
    refine' sa_cons ?_ ?_ (fun _ => rfl)
    exact se_int
    exact sa_nil
    refine' sb_cons ?_ ?_
    refine' sx_for false 64 ?_ (store_locS (by rfl) (by rfl)) ?_ (fun _ _ => by rfl) (by rfl)
    refine' si_range ?_ (by rfl) (by rfl) range3_ok (fun _ => rfl) (fun _ => rfl)
    refine' sa_cons ?_ ?_ (fun _ => rfl)
    exact se_int
    refine' sa_cons ?_ ?_ (fun _ => rfl)
    exact se_neg1
    refine' sa_cons ?_ ?_ (fun _ => rfl)
    exact se_neg1
    exact sa_nil
    refine' sb_cons ?_ ?_
    refine' sx_assign ?_ (store_locS (by rfl) (by rfl)) (fun _ => rfl)
    refine' se_list ?_ prim_newList
    refine' sa_cons ?_ ?_ (fun _ => rfl)
    exact se_int
    refine' sa_cons ?_ ?_ (fun _ => rfl)
    exact se_int
    exact sa_nil
    refine' sb_cons ?_ ?_
    refine' sx_for false 64 ?_ (store_locS (by rfl) (by rfl)) ?_ (fun _ _ => by rfl) (by rfl)
    refine' si_range ?_ (by rfl) (by rfl) range1_ok (fun _ => rfl) (fun _ => rfl)
    refine' sa_cons ?_ ?_ (fun _ => rfl)
    exact se_int
    exact sa_nil
    refine' sb_one ?_
    refine' sx_if ?_ ?_ ?_
    refine' st_and ?_ ?_
    refine' st_cmpA ?_ ?_ (by decide) (by rfl)
    refine' se_int2 ?_ ?_
    exact se_locS (by rfl) (by rfl) (by decide)
    refine' se_int2 ?_ ?_
    exact se_int
    exact se_locS (by rfl) (by rfl) (by decide)
    exact se_int
    refine' st_and ?_ ?_
    refine' st_cmpA ?_ ?_ (by decide) (by rfl)
    refine' se_int2 ?_ ?_
    exact se_locS (by rfl) (by rfl) (by decide)
    refine' se_sub ?_ ?_ (fun _ _ _ => by with_unfolding_all rfl)
    exact se_locS (by rfl) (by rfl) (by decide)
    exact se_locS (by rfl) (by rfl) (by decide)
    refine' se_sub ?_ ?_ (fun _ _ _ => by with_unfolding_all rfl)
    exact se_locS (by rfl) (by rfl) (by decide)
    exact se_locS (by rfl) (by rfl) (by decide)
    exact st_and0
    refine' sb_one ?_
    refine' sx_for false 64 ?_ (store_locS (by rfl) (by rfl)) ?_ (fun _ _ => by rfl) (by rfl)
    refine' si_range ?_ (by rfl) (by rfl) range1_ok (fun _ => rfl) (fun _ => rfl)
    refine' sa_cons ?_ ?_ (fun _ => rfl)
    exact se_int
    exact sa_nil
    refine' sb_one ?_
    refine' sx_if ?_ ?_ ?_
    refine' st_cmpA ?_ ?_ (by decide) (by rfl)
    refine' se_sub ?_ ?_ (fun _ _ _ => by with_unfolding_all rfl)
    exact se_locS (by rfl) (by rfl) (by decide)
    exact se_locS (by rfl) (by rfl) (by decide)
    refine' se_int2 ?_ ?_
    exact se_int
    exact se_locS (by rfl) (by rfl) (by decide)
    refine' sb_one ?_
    refine' sx_assignSub ?_ ?_ ?_ (fun _ => rfl)
    refine' se_bcall (prim_min2 (by rfl)) ?_ (by rfl) (by rfl) Boot.min (by decide) (fun _ h => looks_blt _ h) (by decide) (fun _ => rfl) (fun _ => rfl)
    refine' sa_cons ?_ ?_ (fun _ => rfl)
    refine' se_sub ?_ ?_ (fun _ _ _ => by with_unfolding_all rfl)
    exact se_locS (by rfl) (by rfl) (by decide)
    exact se_locS (by rfl) (by rfl) (by decide)
    refine' sa_cons ?_ ?_ (fun _ => rfl)
    refine' se_sub ?_ ?_ (fun _ _ _ => by with_unfolding_all rfl)
    refine' se_sub ?_ ?_ (fun _ _ _ => by with_unfolding_all rfl)
    exact se_locS (by rfl) (by rfl) (by decide)
    refine' se_int2 ?_ ?_
    exact se_locS (by rfl) (by rfl) (by decide)
    refine' se_int2 ?_ ?_
    exact se_int
    exact se_locS (by rfl) (by rfl) (by decide)
    exact se_locS (by rfl) (by rfl) (by decide)
    exact sa_nil
    exact se_locS (by rfl) (by rfl) (by decide)
    exact se_locS (by rfl) (by rfl) (by decide)
    exact sb_nil
    exact sb_nil
    refine' sb_one ?_
    refine' sx_assignSub ?_ ?_ ?_ (fun _ => rfl)
    refine' se_list ?_ prim_newList
    refine' sa_cons ?_ ?_ (fun _ => rfl)
    refine' se_bcall (prim_min2 (by rfl)) ?_ (by rfl) (by rfl) Boot.min (by decide) (fun _ h => looks_blt _ h) (by decide) (fun _ => rfl) (fun _ => rfl)
    refine' sa_cons ?_ ?_ (fun _ => rfl)
    refine' se_sub ?_ ?_ (fun _ _ _ => by with_unfolding_all rfl)
    exact se_locS (by rfl) (by rfl) (by decide)
    exact se_int
    refine' sa_cons ?_ ?_ (fun _ => rfl)
    refine' se_int2 ?_ ?_
    refine' se_sub ?_ ?_ (fun _ _ _ => by with_unfolding_all rfl)
    exact se_locS (by rfl) (by rfl) (by decide)
    exact se_int
    exact se_int
    exact sa_nil
    refine' sa_cons ?_ ?_ (fun _ => rfl)
    refine' se_bcall (prim_min2 (by rfl)) ?_ (by rfl) (by rfl) Boot.min (by decide) (fun _ h => looks_blt _ h) (by decide) (fun _ => rfl) (fun _ => rfl)
    refine' sa_cons ?_ ?_ (fun _ => rfl)
    refine' se_sub ?_ ?_ (fun _ _ _ => by with_unfolding_all rfl)
    exact se_locS (by rfl) (by rfl) (by decide)
    exact se_int
    refine' sa_cons ?_ ?_ (fun _ => rfl)
    refine' se_int2 ?_ ?_
    refine' se_sub ?_ ?_ (fun _ _ _ => by with_unfolding_all rfl)
    exact se_locS (by rfl) (by rfl) (by decide)
    exact se_int
    exact se_int
    exact sa_nil
    exact sa_nil
    exact se_locS (by rfl) (by rfl) (by decide)
    exact se_locS (by rfl) (by rfl) (by decide)
    refine' sb_one ?_
    refine' sx_ret ?_
    refine' se_sub ?_ ?_ (fun _ _ _ => by with_unfolding_all rfl)
    exact se_locS (by rfl) (by rfl) (by decide)
    exact se_int
set_option maxHeartbeats 4000000 in
theorem topLaw {w : World} {mean : ExcName → Option Value} {mg mb : Str → Option Value} {A : Around} {s : Shared} {a : Addr} {vs : List Value} {ns : List Int} (KX : (Wof w mean mg mb).K.In s.heap) (T : Top (Wof w mean mg mb).p (Wof w mean mg mb).loose (Wof w mean mg mb).mean (Wof w mean mg mb).mg (Wof w mean mg mb).mb s.heap) (hA : A.frames = some []) (hh : A.handled = none) (hdep : A.depth + 1 + 6 < recursionLimit) (huni : A.units + 3 + 150 < cLine)
    (hL : s.heap.IsList a vs.toArray) (hi : IntsAre vs ns) {v : AV} {hp' : List AO} (e : qLaw (some (a, ns)) [.scr a ns] [] = some (v, hp')) {Rr : Result → Shared → Prop}
    (k : ∀ h' tk' cv Z L m fps, VR (rho fps) Z v cv → Fr s.heap L h' m → Rr (.ok (.ret cv)) { s with heap := h', toks := tk' }) :
    codeAny (model (Wof w mean mg mb).prog (Wof w mean mg mb).w) A (.call (.ref 219) ⟨[.ref a], []⟩) Rr s := by
  refine' top_cells [("script", false), ("drawn", false), ("numbers", true), ("modes", false), ("kinds", false), ("ranks", false), ("waits", false), ("least", false), ("first", false), ("course", false), ("sweep", false)] 6 150 (f := fLaw (some (a, ns))) (by rfl) (by rfl) ?b (by rfl) (by rfl) (by rfl) (by decide) KX T hA hh hdep huni hL hi ?h e k
  case b =>
    intro s cvs h
    obtain ⟨a, rfl⟩ := len1 h
    exact BindsTo.of_eq rfl
  case h =>
    refine' sb_cons ?_ ?_
    refine' sx_assignCompB false [] 40 end_li (by first | decide | exact Nat.le_of_ble_eq_true rfl | rfl) (fun _ _ _ => ⟨rfl, rfl⟩) (by rfl) (fun _ _ => by rfl) (store_locS (by rfl) (by rfl)) (store_locS (by rfl) (by rfl)) (swaps_comp (by rfl) (by rfl) (by rfl) (by first | decide | exact Nat.le_of_ble_eq_true rfl | rfl)) ?_ ?_ ?_
    refine' si_val ?_
    refine' se_upTo ?_ ?_ (fun _ _ => by rfl)
    exact se_locS (by rfl) (by rfl) (by first | decide | exact Nat.le_of_ble_eq_true rfl | rfl)
    exact se_int
    exact sts_nil
    refine' se_int2 ?_ ?_
    refine' se_bcall prim_int ?_ (by rfl) (by rfl) Boot.int (by first | decide | exact Nat.le_of_ble_eq_true rfl | rfl) (fun _ h => looks_type _ h) (by first | decide | exact Nat.le_of_ble_eq_true rfl | rfl) (fun _ => rfl) (fun _ => rfl)
    refine' sa_cons ?_ ?_ (fun _ => rfl)
    exact se_locS (by rfl) (by rfl) (by first | decide | exact Nat.le_of_ble_eq_true rfl | rfl)
    exact sa_nil
    refine' se_int2 ?_ ?_
    exact se_int
    exact se_int
    refine' sb_cons ?_ ?_
    refine' sx_assign ?_ (store_cellS (by rfl) (by first | decide | exact Nat.le_of_ble_eq_true rfl | rfl) (by rfl)) (fun _ => rfl)
    refine' se_bin ?_ ?_ prim_cat
    exact se_locS (by rfl) (by rfl) (by first | decide | exact Nat.le_of_ble_eq_true rfl | rfl)
    refine' se_fromT (se_list ?_ prim_li) ?_
    refine' sa_cons ?_ ?_ (fun _ => rfl)
    exact se_int
    refine' sa_cons ?_ ?_ (fun _ => rfl)
    exact se_int
    refine' sa_cons ?_ ?_ (fun _ => rfl)
    exact se_int
    refine' sa_cons ?_ ?_ (fun _ => rfl)
    exact se_int
    refine' sa_cons ?_ ?_ (fun _ => rfl)
    exact se_int
    exact sa_nil
    refine' se_bcall prim_len ?_ (by rfl) (by rfl) Boot.len (by first | decide | exact Nat.le_of_ble_eq_true rfl | rfl) (fun _ h => looks_blt _ h) (by first | decide | exact Nat.le_of_ble_eq_true rfl | rfl) (fun _ => rfl) (fun _ => rfl)
    refine' sa_cons ?_ ?_ (fun _ => rfl)
    exact se_locS (by rfl) (by rfl) (by first | decide | exact Nat.le_of_ble_eq_true rfl | rfl)
    exact sa_nil
    refine' sb_cons ?_ ?_
    refine' sx_assignCompB false [] 40 end_li (by first | decide | exact Nat.le_of_ble_eq_true rfl | rfl) (fun _ _ _ => ⟨rfl, rfl⟩) (by rfl) (fun _ _ => by rfl) (store_locS (by rfl) (by rfl)) (store_locS (by rfl) (by rfl)) (swaps_comp (by rfl) (by rfl) (by rfl) (by first | decide | exact Nat.le_of_ble_eq_true rfl | rfl)) ?_ ?_ ?_
    refine' si_val ?_
    exact se_cellS (by rfl) (by rfl) (by first | decide | exact Nat.le_of_ble_eq_true rfl | rfl)
    exact sts_nil
    refine' se_int2 ?_ ?_
    refine' se_int2 ?_ ?_
    exact se_int
    refine' se_sub ?_ ?_ (fun _ _ _ => by with_unfolding_all rfl)
    refine' se_tuple ?_ prim_tup
    refine' sa_cons ?_ ?_ (fun _ => rfl)
    exact se_int
    refine' sa_cons ?_ ?_ (fun _ => rfl)
    exact se_int
    refine' sa_cons ?_ ?_ (fun _ => rfl)
    exact se_int
    refine' sa_cons ?_ ?_ (fun _ => rfl)
    exact se_int
    refine' sa_cons ?_ ?_ (fun _ => rfl)
    exact se_int
    refine' sa_cons ?_ ?_ (fun _ => rfl)
    exact se_int
    refine' sa_cons ?_ ?_ (fun _ => rfl)
    exact se_int
    refine' sa_cons ?_ ?_ (fun _ => rfl)
    exact se_int
    exact sa_nil
    refine' se_int2 ?_ ?_
    exact se_locS (by rfl) (by rfl) (by first | decide | exact Nat.le_of_ble_eq_true rfl | rfl)
    exact se_int
    refine' se_int2 ?_ ?_
    refine' se_int2 ?_ ?_
    exact se_locS (by rfl) (by rfl) (by first | decide | exact Nat.le_of_ble_eq_true rfl | rfl)
    exact se_int
    exact se_int
    refine' sb_cons ?_ ?_
    refine' sx_assignCompB false [] 40 end_li (by first | decide | exact Nat.le_of_ble_eq_true rfl | rfl) (fun _ _ _ => ⟨rfl, rfl⟩) (by rfl) (fun _ _ => by rfl) (store_locS (by rfl) (by rfl)) (store_locS (by rfl) (by rfl)) (swaps_comp (by rfl) (by rfl) (by rfl) (by first | decide | exact Nat.le_of_ble_eq_true rfl | rfl)) ?_ ?_ ?_
    refine' si_val ?_
    exact se_cellS (by rfl) (by rfl) (by first | decide | exact Nat.le_of_ble_eq_true rfl | rfl)
    exact sts_nil
    refine' se_sub ?_ ?_ (fun _ _ _ => by with_unfolding_all rfl)
    refine' se_tuple ?_ prim_tup
    refine' sa_cons ?_ ?_ (fun _ => rfl)
    exact se_int
    refine' sa_cons ?_ ?_ (fun _ => rfl)
    exact se_int
    refine' sa_cons ?_ ?_ (fun _ => rfl)
    exact se_int
    refine' sa_cons ?_ ?_ (fun _ => rfl)
    exact se_int
    refine' sa_cons ?_ ?_ (fun _ => rfl)
    exact se_int
    refine' sa_cons ?_ ?_ (fun _ => rfl)
    exact se_int
    refine' sa_cons ?_ ?_ (fun _ => rfl)
    exact se_int
    refine' sa_cons ?_ ?_ (fun _ => rfl)
    exact se_int
    exact sa_nil
    refine' se_int2 ?_ ?_
    exact se_locS (by rfl) (by rfl) (by first | decide | exact Nat.le_of_ble_eq_true rfl | rfl)
    exact se_int
    refine' sb_cons ?_ ?_
    refine' sx_assignCompB false [] 40 end_li (by first | decide | exact Nat.le_of_ble_eq_true rfl | rfl) (fun _ _ _ => ⟨rfl, rfl⟩) (by rfl) (fun _ _ => by rfl) (store_locS (by rfl) (by rfl)) (store_locS (by rfl) (by rfl)) (swaps_comp (by rfl) (by rfl) (by rfl) (by first | decide | exact Nat.le_of_ble_eq_true rfl | rfl)) ?_ ?_ ?_
    refine' si_val ?_
    exact se_cellS (by rfl) (by rfl) (by first | decide | exact Nat.le_of_ble_eq_true rfl | rfl)
    exact sts_nil
    refine' se_int2 ?_ ?_
    refine' se_int2 ?_ ?_
    exact se_locS (by rfl) (by rfl) (by first | decide | exact Nat.le_of_ble_eq_true rfl | rfl)
    exact se_int
    exact se_int
    refine' sb_cons ?_ ?_
    refine' sx_assignCompB true [("numbers", 2)] 40 end_lli (by first | decide | exact Nat.le_of_ble_eq_true rfl | rfl) (fun _ _ _ => ⟨rfl, rfl⟩) (by rfl) (fun _ _ => by rfl) (store_cellS (by rfl) (by first | decide | exact Nat.le_of_ble_eq_true rfl | rfl) (by rfl)) (store_locS (by rfl) (by rfl)) (swaps_comp (by rfl) (by rfl) (by rfl) (by first | decide | exact Nat.le_of_ble_eq_true rfl | rfl)) ?_ ?_ ?_
    refine' si_range ?_ (by rfl) (by rfl) range1_ok (fun _ => rfl) (fun _ => rfl)
    refine' sa_cons ?_ ?_ (fun _ => rfl)
    exact se_int
    exact sa_nil
    exact sts_nil
    refine' se_compB false [("j", 0), ("numbers", 1)] 40 end_li (by first | decide | exact Nat.le_of_ble_eq_true rfl | rfl) (fun _ _ _ => ⟨rfl, rfl⟩) (by rfl) (fun _ _ => by rfl) (store_locS (by rfl) (by rfl)) ?_ ?_ ?_
    refine' si_range ?_ (by rfl) (by rfl) range1_ok (fun _ => rfl) (fun _ => rfl)
    refine' sa_cons ?_ ?_ (fun _ => rfl)
    exact se_cellS (by rfl) (by rfl) (by first | decide | exact Nat.le_of_ble_eq_true rfl | rfl)
    exact sa_nil
    refine' sts_one ?_
    refine' st_plain ?_ (fun _ _ => rfl)
    refine' se_int2 ?_ ?_
    refine' se_int2 ?_ ?_
    refine' se_int2 ?_ ?_
    refine' se_sub ?_ ?_ (fun _ _ _ => by with_unfolding_all rfl)
    exact se_cellS (by rfl) (by rfl) (by first | decide | exact Nat.le_of_ble_eq_true rfl | rfl)
    exact se_cellS (by rfl) (by rfl) (by first | decide | exact Nat.le_of_ble_eq_true rfl | rfl)
    exact se_int
    refine' se_int2 ?_ ?_
    exact se_int
    exact se_locS (by rfl) (by rfl) (by first | decide | exact Nat.le_of_ble_eq_true rfl | rfl)
    exact se_int
    exact se_locS (by rfl) (by rfl) (by first | decide | exact Nat.le_of_ble_eq_true rfl | rfl)
    refine' sb_cons ?_ ?_
    refine' sx_assign ?_ (store_locS (by rfl) (by rfl)) (fun _ => rfl)
    refine' se_call ((tLeast).settle) ?_ (by rfl) (by rfl) (by first | decide | exact Nat.le_of_ble_eq_true rfl | rfl) (by rfl) (by rfl) (by first | decide | exact Nat.le_of_ble_eq_true rfl | rfl) (by first | decide | exact Nat.le_of_ble_eq_true rfl | rfl) (by rfl) (fun _ => rfl) (fun _ => rfl)
    refine' sa_cons ?_ ?_ (fun _ => rfl)
    exact se_locS (by rfl) (by rfl) (by first | decide | exact Nat.le_of_ble_eq_true rfl | rfl)
    refine' sa_cons ?_ ?_ (fun _ => rfl)
    exact se_locS (by rfl) (by rfl) (by first | decide | exact Nat.le_of_ble_eq_true rfl | rfl)
    exact sa_nil
    refine' sb_cons ?_ ?_
    refine' sx_for true 64 ?_ (store_locS (by rfl) (by rfl)) ?_ (fun _ _ => by rfl) (by rfl)
    refine' si_range ?_ (by rfl) (by rfl) range1_ok (fun _ => rfl) (fun _ => rfl)
    refine' sa_cons ?_ ?_ (fun _ => rfl)
    exact se_int
    exact sa_nil
    refine' sb_cons ?_ ?_
    refine' sx_tup2 ?_ (by rfl) (store_locS (by rfl) (by rfl)) (store_locS (by rfl) (by rfl)) (fun _ => rfl) (by intro env he; cases env; cases he; rfl)
    refine' su_val ?_
    refine' se_call (tSwept) ?_ (by rfl) (by rfl) (by first | decide | exact Nat.le_of_ble_eq_true rfl | rfl) (by rfl) (by rfl) (by first | decide | exact Nat.le_of_ble_eq_true rfl | rfl) (by first | decide | exact Nat.le_of_ble_eq_true rfl | rfl) (by rfl) (fun _ => rfl) (fun _ => rfl)
    refine' sa_cons ?_ ?_ (fun _ => rfl)
    exact se_locS (by rfl) (by rfl) (by first | decide | exact Nat.le_of_ble_eq_true rfl | rfl)
    refine' sa_cons ?_ ?_ (fun _ => rfl)
    exact se_locS (by rfl) (by rfl) (by first | decide | exact Nat.le_of_ble_eq_true rfl | rfl)
    refine' sa_cons ?_ ?_ (fun _ => rfl)
    exact se_locS (by rfl) (by rfl) (by first | decide | exact Nat.le_of_ble_eq_true rfl | rfl)
    exact sa_nil
    refine' sb_one ?_
    refine' sx_if ?_ ?_ ?_
    refine' st_or ?_ ?_
    refine' st_cmpA ?_ ?_ (by first | decide | exact Nat.le_of_ble_eq_true rfl | rfl) (by rfl)
    exact se_locS (by rfl) (by rfl) (by first | decide | exact Nat.le_of_ble_eq_true rfl | rfl)
    refine' se_call ((tCourse).settle) ?_ (by rfl) (by rfl) (by first | decide | exact Nat.le_of_ble_eq_true rfl | rfl) (by rfl) (by rfl) (by first | decide | exact Nat.le_of_ble_eq_true rfl | rfl) (by first | decide | exact Nat.le_of_ble_eq_true rfl | rfl) (by rfl) (fun _ => rfl) (fun _ => rfl)
    refine' sa_cons ?_ ?_ (fun _ => rfl)
    exact se_locS (by rfl) (by rfl) (by first | decide | exact Nat.le_of_ble_eq_true rfl | rfl)
    refine' sa_cons ?_ ?_ (fun _ => rfl)
    exact se_locS (by rfl) (by rfl) (by first | decide | exact Nat.le_of_ble_eq_true rfl | rfl)
    refine' sa_cons ?_ ?_ (fun _ => rfl)
    exact se_locS (by rfl) (by rfl) (by first | decide | exact Nat.le_of_ble_eq_true rfl | rfl)
    refine' sa_cons ?_ ?_ (fun _ => rfl)
    exact se_locS (by rfl) (by rfl) (by first | decide | exact Nat.le_of_ble_eq_true rfl | rfl)
    exact sa_nil
    refine' st_or ?_ ?_
    refine' st_cmpA ?_ ?_ (by first | decide | exact Nat.le_of_ble_eq_true rfl | rfl) (by rfl)
    exact se_locS (by rfl) (by rfl) (by first | decide | exact Nat.le_of_ble_eq_true rfl | rfl)
    refine' se_sub ?_ ?_ (fun _ _ _ => by with_unfolding_all rfl)
    exact se_locS (by rfl) (by rfl) (by first | decide | exact Nat.le_of_ble_eq_true rfl | rfl)
    exact se_locS (by rfl) (by rfl) (by first | decide | exact Nat.le_of_ble_eq_true rfl | rfl)
    exact st_or0
    refine' sb_one ?_
    refine' sx_ret ?_
    exact se_bool
    exact sb_nil
    refine' sb_one ?_
    refine' sx_ret ?_
    exact se_bool
end Mine

end
section
open PySem PySem.W PySem.Calls PyProof.Rows
set_option Elab.async false
namespace Mine
noncomputable def tk (x : Int) : List Int := [x / 32768, x / 8 % 4096, x % 8]
noncomputable def T (x : Int) : AV := .tup (tk x)
theorem lexLt_tk {x y : Int} : lexLt (tk x) (tk y) = decide (x < y) := by
  unfold tk
  simp only [lexLt]
  split
  · split
    · split
      · rw [eq_comm, decide_eq_false_iff_not]; omega
      · rw [decide_eq_decide]; omega
    · rw [decide_eq_decide]; omega
  · rw [decide_eq_decide]; omega
theorem tk_of {s r j : Int} (hr : 0 ≤ r) (hr2 : r < 4096) (hj : 0 ≤ j) (hj2 : j < 8) : tk (s * 32768 + r * 8 + j) = [s, r, j] := by
  unfold tk
  refine List.cons_eq_cons.mpr ⟨?_, List.cons_eq_cons.mpr ⟨?_, List.cons_eq_cons.mpr ⟨?_, rfl⟩⟩⟩ <;> omega

/-! siftdown -/
noncomputable def sdGo : Nat → List Int → Nat → Int → List Int × Nat
  | 0, l, p, _ => (l, p)
  | f + 1, l, p, x => if p = 0 then (l, p) else if x < l.getD ((p - 1) / 2) 0 then sdGo f (l.set p (l.getD ((p - 1) / 2) 0)) ((p - 1) / 2) x else (l, p)
theorem sdGo_fuel' {x : Int} : ∀ (p m : Nat) (l : List Int), p ≤ m → sdGo m l p x = sdGo p l p x := by
  intro p
  induction p using Nat.strongRecOn with
  | ind p ih =>
    intro m l h
    cases p with
    | zero => cases m <;> rfl
    | succ q =>
      obtain ⟨m, rfl⟩ : ∃ m', m = m' + 1 := ⟨m - 1, by omega⟩
      show (if q + 1 = 0 then _ else if x < l.getD ((q + 1 - 1) / 2) 0 then sdGo m _ _ x else _) = (if q + 1 = 0 then _ else if x < l.getD ((q + 1 - 1) / 2) 0 then sdGo q _ _ x else _)
      rw [ih _ (by omega) m _ (by omega), ih ((q + 1 - 1) / 2) (by omega) q _ (by omega)]
theorem sdGo_fuel {x : Int} {m p : Nat} {l : List Int} (h : p ≤ m) : sdGo m l p x = sdGo p l p x := sdGo_fuel' p m l h
noncomputable def sd (l : List Int) (p : Nat) : List Int := ((sdGo p l p (l.getD p 0)).1).set (sdGo p l p (l.getD p 0)).2 (l.getD p 0)

theorem getD_some {l : List Int} {i : Nat} (h : i < l.length) : l[i]? = some (l.getD i 0) := by
  rw [List.getD_eq_getElem?_getD, List.getElem?_eq_getElem h]; rfl
theorem mapT {l : List Int} {i : Nat} (h : i < l.length) : (l.map T)[i]? = some (T (l.getD i 0)) := by
  rw [List.getElem?_map, getD_some h]; rfl

/-! one step after the other -/
theorem int_add (a b : Int) : pInt2 (opG Operator.Add) (.int a) (.int b) = ok (.int (a + b)) := rfl
theorem int_sub (a b : Int) : pInt2 (opG Operator.Sub) (.int a) (.int b) = ok (.int (a - b)) := rfl
theorem cmp_gt (a b : Int) : pCmpA CmpOp.Gt (.int a) (.int b) = ok (.bool (decide (b < a))) := rfl
theorem cmp_lt (a b : Int) : pCmpA CmpOp.Lt (.int a) (.int b) = ok (.bool (decide (a < b))) := rfl
theorem cmp_ge (a b : Int) : pCmpA CmpOp.GtE (.int a) (.int b) = ok (.bool (decide (b ≤ a))) := rfl
theorem cmp_eq (a b : Int) : pCmpA CmpOp.Eq (.int a) (.int b) = ok (.bool (decide (a = b))) := rfl
theorem cmp_ne (a b : Int) : pCmpA CmpOp.NotEq (.int a) (.int b) = ok (.bool (decide (a ≠ b))) := rfl
noncomputable def sdTest : AM Bool := bnd (pLoc 2) fun a => bnd (pLoc 1) fun b => bnd (pCmpA CmpOp.Gt a b) pBool
noncomputable def sdBody : AM AF :=
  (andThen
    (bnd
      (bnd (bnd (pLoc 2) fun a => bnd (ok (AV.int 1)) fun b => pInt2 (opG Operator.Sub) a b)
        fun a => bnd (ok (AV.int 1)) fun b => pInt2 (opG Operator.RShift) a b)
      fun v => bnd (pStore 4 v) fun x => ok AF.next)
    (andThen
      (bnd (bnd (pLoc 0) fun a => bnd (pLoc 4) fun b => pItem a b) fun v =>
        bnd (pStore 5 v) fun x => ok AF.next)
      (andThen
        (bnd
          (bnd (pLoc 3) fun a =>
            bnd (pLoc 5) fun b => bnd (pCmpA CmpOp.Lt a b) pBool)
          fun b =>
          if b = true then
            andThen
              (bnd (pLoc 5) fun v =>
                bnd (pLoc 0) fun a =>
                  bnd (pLoc 2) fun b => bnd (pSetItem v a b) fun x => ok AF.next)
              (andThen
                (bnd (pLoc 4) fun v => bnd (pStore 2 v) fun x => ok AF.next)
                (ok AF.cont))
          else ok AF.next)
        (ok AF.brk))))
theorem item_list {hp : List AO} {k : Nat} {l : List AV} {loc : List (Option AV)} {i : Nat} {v : AV} (h : hp[k]? = some (.list l)) (hi : l[i]? = some v) (hl : l.length ≤ 1000) : pItem (.ref k) (.int i) ⟨loc, hp⟩ = some (v, ⟨loc, hp⟩) := by
  have hlt := (List.getElem?_eq_some_iff.mp hi).1
  simp only [pItem, h, Int.toNat_natCast, hi]
  rw [if_pos (by omega)]
theorem set_list {hp : List AO} {k : Nat} {l : List AV} {loc : List (Option AV)} {i : Nat} {v : AV} (h : hp[k]? = some (.list l)) (hi : i < l.length) (hl : l.length ≤ 1000) : pSetItem v (.ref k) (.int i) ⟨loc, hp⟩ = some ((), ⟨loc, hp.set k (.list (l.set i v))⟩) := by
  simp only [pSetItem, h, Int.toNat_natCast]
  rw [if_pos (by omega)]
theorem at_set {hp : List AO} {k : Nat} {o o' : AO} (h : hp[k]? = some o) : (hp.set k o')[k]? = some o' := by
  rw [List.getElem?_set_self (List.getElem?_eq_some_iff.mp h).1]
theorem lt_T {x y : Int} {σ : AS} : pCmpA CmpOp.Lt (T x) (T y) σ = some (.bool (decide (x < y)), σ) := by
  show some (AV.bool (lexLt (tk x) (tk y)), σ) = _
  rw [lexLt_tk]
theorem shr1 {p : Nat} (h : p ≠ 0) : pInt2 (opG Operator.RShift) (.int ((p : Int) - 1)) (.int 1) = ok (.int (((p - 1) / 2 : Nat) : Int)) := by
  funext σ
  have e : Int.fdiv ((p : Int) - 1) (2 ^ (1 : Int).toNat) = (((p - 1) / 2 : Nat) : Int) := by
    have : ((p : Int) - 1) = ((p - 1 : Nat) : Int) := by omega
    rw [this]
    show Int.fdiv _ 2 = _
    rw [Int.fdiv_eq_ediv_of_nonneg _ (by omega)]
    rfl
  show (match gShr ((p : Int) - 1) 1 with | some r => some (AV.int r, σ) | none => none) = _
  have : gShr ((p : Int) - 1) 1 = some (((p - 1) / 2 : Nat) : Int) := by
    unfold gShr
    rw [if_pos (by omega), e]
  rw [this]; rfl
theorem sd_turn_zero {k n : Nat} {hp : List AO} {x : AV} {o4 o5 : Option AV} {fuel : Nat} : aWhile false n sdTest sdBody (ok .next) (fuel + 1) ⟨[some (.ref k), some (.int 0), some (.int ((0 : Nat) : Int)), some x, o4, o5], hp⟩ = some (.next, ⟨[some (.ref k), some (.int 0), some (.int ((0 : Nat) : Int)), some x, o4, o5], hp⟩) := by
  rfl
theorem sd_body {k : Nat} {hp : List AO} {l : List Int} {p : Nat} {x : Int} {o4 o5 : Option AV} (hk : hp[k]? = some (.list (l.map T))) (hp0 : p ≠ 0) (hpl : p < l.length) (hl : l.length ≤ 1000) :
    sdBody ⟨[some (.ref k), some (.int 0), some (.int (p : Nat)), some (T x), o4, o5], hp⟩ =
      if x < l.getD ((p - 1) / 2) 0 then some (.cont, ⟨[some (.ref k), some (.int 0), some (.int (((p - 1) / 2 : Nat) : Int)), some (T x), some (.int (((p - 1) / 2 : Nat) : Int)), some (T (l.getD ((p - 1) / 2) 0))], hp.set k (.list ((l.set p (l.getD ((p - 1) / 2) 0)).map T))⟩)
      else some (.brk, ⟨[some (.ref k), some (.int 0), some (.int (p : Nat)), some (T x), some (.int (((p - 1) / 2 : Nat) : Int)), some (T (l.getD ((p - 1) / 2) 0))], hp⟩) := by
  have hq : (p - 1) / 2 < l.length := by omega
  have i1 := item_list (loc := [some (.ref k), some (.int 0), some (.int (p : Nat)), some (T x), some (.int (((p - 1) / 2 : Nat) : Int)), o5]) hk (mapT hq) (by simpa using hl)
  have s1 := set_list (loc := [some (.ref k), some (.int 0), some (.int (p : Nat)), some (T x), some (.int (((p - 1) / 2 : Nat) : Int)), some (T (l.getD ((p - 1) / 2) 0))]) (v := T (l.getD ((p - 1) / 2) 0)) hk (i := p) (by simpa using hpl) (by simpa using hl)
  have sh := shr1 hp0
  unfold sdBody
  by_cases hc : x < l.getD ((p - 1) / 2) 0
  · simp only [andThen, bnd, ok, pLoc, pStore, List.set_cons_succ, List.set_cons_zero, List.getElem?_cons_succ, List.getElem?_cons_zero, int_sub, pBool, decide_true, if_true, sh, i1, lt_T, hc, s1, List.map_set]
  · simp only [andThen, bnd, ok, pLoc, pStore, List.set_cons_succ, List.set_cons_zero, List.getElem?_cons_succ, List.getElem?_cons_zero, int_sub, pBool, decide_false, if_false, Bool.false_eq_true, sh, i1, lt_T, hc]
theorem sd_loop {k n : Nat} {x : Int} : ∀ (p fuel : Nat) (l : List Int) (hp : List AO) (o4 o5 : Option AV), hp[k]? = some (.list (l.map T)) → p < l.length → l.length ≤ 1000 → p < fuel →
    ∃ o4' o5', aWhile false n sdTest sdBody (ok .next) fuel ⟨[some (.ref k), some (.int 0), some (.int (p : Nat)), some (T x), o4, o5], hp⟩ =
      some (.next, ⟨[some (.ref k), some (.int 0), some (.int ((sdGo p l p x).2 : Nat)), some (T x), o4', o5'], hp.set k (.list ((sdGo p l p x).1.map T))⟩) ∧ (sdGo p l p x).2 < (sdGo p l p x).1.length ∧ (sdGo p l p x).1.length = l.length := by
  intro p
  induction p using Nat.strongRecOn with
  | ind p ih =>
    intro fuel l hp o4 o5 hk hpl hl hf
    obtain ⟨fuel, rfl⟩ : ∃ f, fuel = f + 1 := ⟨fuel - 1, by omega⟩
    have hset : hp.set k (.list (l.map T)) = hp := by
      obtain ⟨h1, h2⟩ := List.getElem?_eq_some_iff.mp hk
      rw [← h2]; simp
    cases p with
    | zero =>
      refine ⟨o4, o5, ?_, hpl, rfl⟩
      simp only [sdGo]
      rw [hset]
      exact sd_turn_zero
    | succ q =>
      have hb := sd_body (k := k) (hp := hp) (l := l) (p := q + 1) (x := x) (o4 := o4) (o5 := o5) hk (by omega) hpl hl
      have ht : sdTest ⟨[some (.ref k), some (.int 0), some (.int ((q + 1 : Nat) : Int)), some (T x), o4, o5], hp⟩ = some (true, ⟨[some (.ref k), some (.int 0), some (.int ((q + 1 : Nat) : Int)), some (T x), o4, o5], hp⟩) := by
        unfold sdTest
        simp only [bnd, ok, pLoc, List.getElem?_cons_succ, List.getElem?_cons_zero, cmp_gt, pBool]
        rw [decide_eq_true (by omega)]
      by_cases hc : x < l.getD ((q + 1 - 1) / 2) 0
      · rw [if_pos hc] at hb
        obtain ⟨a, b, e1, e2, e3⟩ := ih ((q + 1 - 1) / 2) (by omega) fuel (l.set (q + 1) (l.getD ((q + 1 - 1) / 2) 0)) (hp.set k (.list ((l.set (q + 1) (l.getD ((q + 1 - 1) / 2) 0)).map T))) (some (.int (((q + 1 - 1) / 2 : Nat) : Int))) (some (T (l.getD ((q + 1 - 1) / 2) 0))) (at_set hk) (by rw [List.length_set]; omega) (by rw [List.length_set]; exact hl) (by omega)
        have hg : ∀ m, (q + 1 - 1) / 2 ≤ m → sdGo m (l.set (q + 1) (l.getD ((q + 1 - 1) / 2) 0)) ((q + 1 - 1) / 2) x = sdGo ((q + 1 - 1) / 2) (l.set (q + 1) (l.getD ((q + 1 - 1) / 2) 0)) ((q + 1 - 1) / 2) x := fun m hm => sdGo_fuel hm
        have e0 : sdGo (q + 1) l (q + 1) x = sdGo ((q + 1 - 1) / 2) (l.set (q + 1) (l.getD ((q + 1 - 1) / 2) 0)) ((q + 1 - 1) / 2) x := by
          rw [← hg q (by omega)]
          show (if q + 1 = 0 then _ else if x < l.getD ((q + 1 - 1) / 2) 0 then _ else _) = _
          rw [if_neg (by omega), if_pos hc]
        rw [e0]
        refine ⟨a, b, ?_, e2, e3.trans (List.length_set ..)⟩
        rw [aWhile]
        simp only [bnd, ht, hb, if_true, turnEnd, Bool.false_eq_true, if_false]
        rw [e1, List.set_set]
      · rw [if_neg hc] at hb
        have e0 : sdGo (q + 1) l (q + 1) x = (l, q + 1) := by
          show (if q + 1 = 0 then _ else if x < l.getD ((q + 1 - 1) / 2) 0 then _ else _) = _
          rw [if_neg (by omega), if_neg hc]
        rw [e0]
        refine ⟨some (.int (((q + 1 - 1) / 2 : Nat) : Int)), some (T (l.getD ((q + 1 - 1) / 2) 0)), ?_, hpl, rfl⟩
        rw [aWhile]
        simp only [bnd, ht, hb, if_true, ok]
        rw [hset]
theorem sd_runs {k p : Nat} {l : List Int} {hp : List AO} (hk : hp[k]? = some (.list (l.map T))) (hpl : p < l.length) (hl : l.length ≤ 60) : qSd [.ref k, .int 0, .int (p : Nat)] hp = some (.none, hp.set k (.list ((sd l p).map T))) := by
  have i1 := item_list (loc := [some (.ref k), some (.int 0), some (.int (p : Nat)), none, none, none]) hk (mapT hpl) (by simp; omega)
  obtain ⟨a, b, e1, e2, e3⟩ := sd_loop (k := k) (n := hp.length) (x := l.getD p 0) p 64 l hp none none hk hpl (by omega) (by omega)
  have s1 := set_list (loc := [some (.ref k), some (.int 0), some (.int ((sdGo p l p (l.getD p 0)).2 : Nat)), some (T (l.getD p 0)), a, b]) (v := T (l.getD p 0)) (at_set (o' := .list ((sdGo p l p (l.getD p 0)).1.map T)) hk) (i := (sdGo p l p (l.getD p 0)).2) (by rw [List.length_map]; exact e2) (by rw [List.length_map]; omega)
  have hrun : fSd ⟨[some (.ref k), some (.int 0), some (.int (p : Nat)), none, none, none], hp⟩ = some (.next, ⟨[some (.ref k), some (.int 0), some (.int ((sdGo p l p (l.getD p 0)).2 : Nat)), some (T (l.getD p 0)), a, b], hp.set k (.list ((sd l p).map T))⟩) := by
    have e1' : aWhile false hp.length sdTest sdBody (ok .next) 64 ⟨[some (.ref k), some (.int 0), some (.int (p : Nat)), some (T (l.getD p 0)), none, none], hp⟩ = _ := e1
    show andThen (bnd (bnd (pLoc 0) fun a => bnd (pLoc 2) fun b => pItem a b) fun v => bnd (pStore 3 v) fun x => ok AF.next) (andThen (fun σ => aWhile false σ.hp.length sdTest sdBody (ok .next) 64 σ) _) _ = _
    simp only [andThen, bnd, ok, pLoc, pStore, List.set_cons_succ, List.set_cons_zero, List.getElem?_cons_succ, List.getElem?_cons_zero, i1, e1', s1]
    rw [List.set_set, ← List.map_set]
    rfl
  show finish (fSd ⟨[some (.ref k), some (.int 0), some (.int (p : Nat)), none, none, none], hp⟩) = _
  rw [hrun]; rfl

/-! siftup -/
noncomputable def suGo : Nat → List Int → Nat → List Int × Nat
  | 0, l, p => (l, p)
  | f + 1, l, p => if 2 * p + 1 < l.length then
      if 2 * p + 2 < l.length ∧ ¬ l.getD (2 * p + 1) 0 < l.getD (2 * p + 2) 0 then suGo f (l.set p (l.getD (2 * p + 2) 0)) (2 * p + 2) else suGo f (l.set p (l.getD (2 * p + 1) 0)) (2 * p + 1)
    else (l, p)
noncomputable def su (l : List Int) : List Int := sd ((suGo l.length l 0).1.set (suGo l.length l 0).2 (l.getD 0 0)) (suGo l.length l 0).2
noncomputable def suTest : AM Bool := bnd (pLoc 5) fun a => bnd (pLoc 2) fun b => bnd (pCmpA CmpOp.Lt a b) pBool
noncomputable def suBody : AM AF :=
  (andThen
    (bnd
      (bnd (pLoc 5) fun a =>
        bnd (ok (AV.int 1)) fun b => pInt2 (opG Operator.Add) a b)
      fun v => bnd (pStore 6 v) fun x => ok AF.next)
    (andThen
      (bnd
        (bnd
          (bnd (pLoc 6) fun a =>
            bnd (pLoc 2) fun b => bnd (pCmpA CmpOp.Lt a b) pBool)
          fun b =>
          if b = true then
            bnd
              (bnd
                (bnd (bnd (pLoc 0) fun a => bnd (pLoc 5) fun b => pItem a b)
                  fun a =>
                  bnd (bnd (pLoc 0) fun a => bnd (pLoc 6) fun b => pItem a b)
                    fun b => bnd (pCmpA CmpOp.Lt a b) pBool)
                fun b => ok !b)
              fun b => if b = true then ok true else ok false
          else ok false)
        fun b =>
        if b = true then
          bnd (pLoc 6) fun v =>
            bnd (pStore 5 v) fun x => ok AF.next
        else ok AF.next)
      (andThen
        (bnd (bnd (pLoc 0) fun a => bnd (pLoc 5) fun b => pItem a b) fun v =>
          bnd (pLoc 0) fun a => bnd (pLoc 1) fun b => bnd (pSetItem v a b) fun x => ok AF.next)
        (andThen
          (bnd (pLoc 5) fun v => bnd (pStore 1 v) fun x => ok AF.next)
          (bnd
            (bnd
              (bnd (ok (AV.int 2)) fun a => bnd (pLoc 1) fun b => pInt2 (opG Operator.Mult) a b)
              fun a => bnd (ok (AV.int 1)) fun b => pInt2 (opG Operator.Add) a b)
            fun v => bnd (pStore 5 v) fun x => ok AF.next)))))
theorem int_mul2 (p : Nat) : pInt2 (opG Operator.Mult) (.int 2) (.int (p : Int)) = ok (.int ((2 * p : Nat) : Int)) := by
  show pInt2 (opG Operator.Mult) (.int 2) (.int (p : Int)) = ok (.int ((2 * p : Nat) : Int))
  have : ((2 * p : Nat) : Int) = 2 * (p : Int) := by omega
  rw [this]; rfl
theorem su_body {k : Nat} {hp : List AO} {l : List Int} {p : Nat} {o3 o4 o6 : Option AV} (hk : hp[k]? = some (.list (l.map T))) (hpl : 2 * p + 1 < l.length) (hl : l.length ≤ 1000) :
    suBody ⟨[some (.ref k), some (.int (p : Nat)), some (.int (l.length : Nat)), o3, o4, some (.int ((2 * p + 1 : Nat) : Int)), o6], hp⟩ =
      if 2 * p + 2 < l.length ∧ ¬ l.getD (2 * p + 1) 0 < l.getD (2 * p + 2) 0 then some (.next, ⟨[some (.ref k), some (.int ((2 * p + 2 : Nat) : Int)), some (.int (l.length : Nat)), o3, o4, some (.int ((2 * (2 * p + 2) + 1 : Nat) : Int)), some (.int ((2 * p + 2 : Nat) : Int))], hp.set k (.list ((l.set p (l.getD (2 * p + 2) 0)).map T))⟩)
      else some (.next, ⟨[some (.ref k), some (.int ((2 * p + 1 : Nat) : Int)), some (.int (l.length : Nat)), o3, o4, some (.int ((2 * (2 * p + 1) + 1 : Nat) : Int)), some (.int ((2 * p + 2 : Nat) : Int))], hp.set k (.list ((l.set p (l.getD (2 * p + 1) 0)).map T))⟩) := by
  have hml : (l.map T).length ≤ 1000 := by simpa using hl
  have i1 := fun loc => item_list (loc := loc) hk (mapT hpl) hml
  have c1 : ((2 * p + 1 : Nat) : Int) + 1 = ((2 * p + 2 : Nat) : Int) := by omega
  have c2 : ∀ q : Nat, ((2 * q : Nat) : Int) + 1 = ((2 * q + 1 : Nat) : Int) := fun q => by omega
  have sA := fun loc => set_list (loc := loc) (v := T (l.getD (2 * p + 2) 0)) hk (i := p) (by simp; omega) hml
  have sB := fun loc => set_list (loc := loc) (v := T (l.getD (2 * p + 1) 0)) hk (i := p) (by simp; omega) hml
  unfold suBody
  by_cases h2 : 2 * p + 2 < l.length
  · have i2 := fun loc => item_list (loc := loc) hk (mapT h2) hml
    have h2' : ((2 * p + 2 : Nat) : Int) < (l.length : Int) := by omega
    by_cases hc : l.getD (2 * p + 1) 0 < l.getD (2 * p + 2) 0
    · rw [if_neg (by intro z; exact z.2 hc)]
      simp only [andThen, bnd, ok, pLoc, pStore, List.set_cons_succ, List.set_cons_zero, List.getElem?_cons_succ, List.getElem?_cons_zero, int_add, cmp_lt, pBool, decide_true, if_true, if_false, Bool.false_eq_true, c1, h2', i1, i2, lt_T, hc, Bool.not_true, sB, List.map_set, int_mul2, c2]
    · rw [if_pos ⟨h2, hc⟩]
      simp only [andThen, bnd, ok, pLoc, pStore, List.set_cons_succ, List.set_cons_zero, List.getElem?_cons_succ, List.getElem?_cons_zero, int_add, cmp_lt, pBool, decide_true, decide_false, if_true, c1, h2', i1, i2, lt_T, hc, Bool.not_false, sA, List.map_set, int_mul2, c2]
  · have h2' : ¬ ((2 * p + 2 : Nat) : Int) < (l.length : Int) := by omega
    rw [if_neg (by intro z; exact h2 z.1)]
    simp only [andThen, bnd, ok, pLoc, pStore, List.set_cons_succ, List.set_cons_zero, List.getElem?_cons_succ, List.getElem?_cons_zero, int_add, cmp_lt, pBool, decide_false, if_false, Bool.false_eq_true, c1, h2', i1, sB, List.map_set, int_mul2, c2]
theorem su_loop {k n : Nat} {o3 o4 : Option AV} : ∀ (fuel m p : Nat) (l : List Int) (hp : List AO) (o6 : Option AV), hp[k]? = some (.list (l.map T)) → p < l.length → l.length ≤ 1000 → l.length ≤ m + p → m < fuel →
    ∃ o6', aWhile false n suTest suBody (ok .next) fuel ⟨[some (.ref k), some (.int (p : Nat)), some (.int (l.length : Nat)), o3, o4, some (.int ((2 * p + 1 : Nat) : Int)), o6], hp⟩ =
      some (.next, ⟨[some (.ref k), some (.int ((suGo m l p).2 : Nat)), some (.int (l.length : Nat)), o3, o4, some (.int ((2 * (suGo m l p).2 + 1 : Nat) : Int)), o6'], hp.set k (.list ((suGo m l p).1.map T))⟩) ∧ (suGo m l p).2 < (suGo m l p).1.length ∧ (suGo m l p).1.length = l.length := by
  intro fuel
  induction fuel with
  | zero => intro m p l hp o6 _ _ _ _ h; omega
  | succ fuel ih =>
    intro m p l hp o6 hk hpl hl hm hf
    obtain ⟨m, rfl⟩ : ∃ m', m = m' + 1 := ⟨m - 1, by omega⟩
    have hset : hp.set k (.list (l.map T)) = hp := by
      obtain ⟨h1, h2⟩ := List.getElem?_eq_some_iff.mp hk
      rw [← h2]; simp
    by_cases h1 : 2 * p + 1 < l.length
    · have ht : suTest ⟨[some (.ref k), some (.int (p : Nat)), some (.int (l.length : Nat)), o3, o4, some (.int ((2 * p + 1 : Nat) : Int)), o6], hp⟩ = some (true, ⟨[some (.ref k), some (.int (p : Nat)), some (.int (l.length : Nat)), o3, o4, some (.int ((2 * p + 1 : Nat) : Int)), o6], hp⟩) := by
        unfold suTest
        simp only [bnd, ok, pLoc, List.getElem?_cons_succ, List.getElem?_cons_zero, cmp_lt, pBool]
        rw [decide_eq_true (by omega)]
      have hb := su_body (k := k) (hp := hp) (l := l) (p := p) (o3 := o3) (o4 := o4) (o6 := o6) hk h1 hl
      by_cases hc : 2 * p + 2 < l.length ∧ ¬ l.getD (2 * p + 1) 0 < l.getD (2 * p + 2) 0
      · rw [if_pos hc] at hb
        obtain ⟨a, e1, e2, e3⟩ := ih m (2 * p + 2) (l.set p (l.getD (2 * p + 2) 0)) (hp.set k (.list ((l.set p (l.getD (2 * p + 2) 0)).map T))) (some (.int ((2 * p + 2 : Nat) : Int))) (at_set hk) (by rw [List.length_set]; exact hc.1) (by rw [List.length_set]; exact hl) (by rw [List.length_set]; omega) (by omega)
        have e0 : suGo (m + 1) l p = suGo m (l.set p (l.getD (2 * p + 2) 0)) (2 * p + 2) := by
          show (if 2 * p + 1 < l.length then if 2 * p + 2 < l.length ∧ ¬ l.getD (2 * p + 1) 0 < l.getD (2 * p + 2) 0 then _ else _ else _) = _
          rw [if_pos h1, if_pos hc]
        rw [e0]
        rw [List.length_set] at e1 e3
        refine ⟨a, ?_, e2, e3⟩
        rw [aWhile]
        simp only [bnd, ht, hb, if_true, turnEnd, Bool.false_eq_true, if_false]
        rw [e1, List.set_set]
      · rw [if_neg hc] at hb
        obtain ⟨a, e1, e2, e3⟩ := ih m (2 * p + 1) (l.set p (l.getD (2 * p + 1) 0)) (hp.set k (.list ((l.set p (l.getD (2 * p + 1) 0)).map T))) (some (.int ((2 * p + 2 : Nat) : Int))) (at_set hk) (by rw [List.length_set]; exact h1) (by rw [List.length_set]; exact hl) (by rw [List.length_set]; omega) (by omega)
        have e0 : suGo (m + 1) l p = suGo m (l.set p (l.getD (2 * p + 1) 0)) (2 * p + 1) := by
          show (if 2 * p + 1 < l.length then if 2 * p + 2 < l.length ∧ ¬ l.getD (2 * p + 1) 0 < l.getD (2 * p + 2) 0 then _ else _ else _) = _
          rw [if_pos h1, if_neg hc]
        rw [e0]
        rw [List.length_set] at e1 e3
        refine ⟨a, ?_, e2, e3⟩
        rw [aWhile]
        simp only [bnd, ht, hb, if_true, turnEnd, Bool.false_eq_true, if_false]
        rw [e1, List.set_set]
    · have ht : suTest ⟨[some (.ref k), some (.int (p : Nat)), some (.int (l.length : Nat)), o3, o4, some (.int ((2 * p + 1 : Nat) : Int)), o6], hp⟩ = some (false, ⟨[some (.ref k), some (.int (p : Nat)), some (.int (l.length : Nat)), o3, o4, some (.int ((2 * p + 1 : Nat) : Int)), o6], hp⟩) := by
        unfold suTest
        simp only [bnd, ok, pLoc, List.getElem?_cons_succ, List.getElem?_cons_zero, cmp_lt, pBool]
        rw [decide_eq_false (by omega)]
      have e0 : suGo (m + 1) l p = (l, p) := by
        show (if 2 * p + 1 < l.length then _ else _) = _
        rw [if_neg h1]
      rw [e0]
      refine ⟨o6, ?_, hpl, rfl⟩
      rw [aWhile]
      simp only [bnd, ht, Bool.false_eq_true, if_false, ok]
      rw [hset]
theorem len_list {hp : List AO} {k : Nat} {l : List AV} {loc : List (Option AV)} (h : hp[k]? = some (.list l)) (hl : l.length ≤ 1000) : pLen [.ref k] ⟨loc, hp⟩ = some (.int l.length, ⟨loc, hp⟩) := by
  simp only [pLen, h]
  rw [if_pos (by omega)]
theorem su_runs {k : Nat} {l : List Int} {hp : List AO} (hk : hp[k]? = some (.list (l.map T))) (h0 : 0 < l.length) (hl : l.length ≤ 60) : qSu [.ref k, .int 0] hp = some (.none, hp.set k (.list ((su l).map T))) := by
  have hml : (l.map T).length ≤ 1000 := by simp; omega
  have n1 := fun loc => len_list (loc := loc) hk hml
  rw [List.length_map] at n1
  have i1 := fun loc => item_list (loc := loc) hk (mapT h0) hml
  obtain ⟨a, e1, e2, e3⟩ := su_loop (k := k) (n := hp.length) (o3 := some (.int 0)) (o4 := some (T (l.getD 0 0))) 64 l.length 0 l hp none hk h0 (by omega) (by omega) (by omega)
  have s1 := fun loc => set_list (loc := loc) (v := T (l.getD 0 0)) (at_set (o' := .list ((suGo l.length l 0).1.map T)) hk) (i := (suGo l.length l 0).2) (by rw [List.length_map]; exact e2) (by rw [List.length_map]; omega)
  have r1 := sd_runs (k := k) (p := (suGo l.length l 0).2) (l := (suGo l.length l 0).1.set (suGo l.length l 0).2 (l.getD 0 0)) (hp := hp.set k (.list (((suGo l.length l 0).1.set (suGo l.length l 0).2 (l.getD 0 0)).map T))) (at_set hk) (by rw [List.length_set]; exact e2) (by rw [List.length_set]; omega)
  rw [List.set_set] at r1
  have e1' : aWhile false hp.length suTest suBody (ok .next) 64 ⟨[some (.ref k), some (.int 0), some (.int (l.length : Nat)), some (.int 0), some (T (l.getD 0 0)), some (.int 1), none], hp⟩ = _ := e1
  have i1' : ∀ loc, pItem (.ref k) (.int 0) ⟨loc, hp⟩ = some (T (l.getD 0 0), ⟨loc, hp⟩) := i1
  have m0 : pInt2 (opG Operator.Mult) (.int 2) (.int 0) = ok (.int 0) := rfl
  have a0 : (0 : Int) + 1 = 1 := rfl
  have hrun : ∃ loc, fSu ⟨[some (.ref k), some (.int 0), none, none, none, none, none], hp⟩ = some (.next, ⟨loc, hp.set k (.list ((su l).map T))⟩) := by
    refine ⟨?_, ?_⟩
    rotate_left
    · show andThen _ (andThen _ (andThen _ (andThen _ (andThen (fun σ => aWhile false σ.hp.length suTest suBody (ok .next) 64 σ) _)))) _ = _
      simp only [andThen, bnd, ok, pLoc, pStore, List.set_cons_succ, List.set_cons_zero, List.getElem?_cons_succ, List.getElem?_cons_zero, int_add, n1, i1', m0, a0, e1', s1, List.set_set, ← List.map_set, lift, r1]
      rfl
  obtain ⟨loc, hrun⟩ := hrun
  show finish (fSu ⟨[some (.ref k), some (.int 0), none, none, none, none, none], hp⟩) = _
  rw [hrun]; rfl
end Mine

end
section
open PySem PySem.W PySem.Calls PyProof.Rows
set_option Elab.async false
namespace Mine
theorem push_runs {k : Nat} {x : Int} {l : List Int} {hp : List AO} (hk : hp[k]? = some (.list (l.map T))) (hl : l.length ≤ 50) : qPush [.ref k, T x] hp = some (.none, hp.set k (.list ((sd (l ++ [x]) l.length).map T))) := by
  have hap : ∀ loc, pAppend [.ref k, T x] ⟨loc, hp⟩ = some (.none, ⟨loc, hp.set k (.list ((l ++ [x]).map T))⟩) := fun loc => by
    simp only [pAppend, hk]
    rw [if_pos (by simp; omega)]
    simp
  have n1 := fun loc => len_list (loc := loc) (at_set (o' := .list ((l ++ [x]).map T)) hk) (by simp; omega)
  have r1 := sd_runs (k := k) (p := l.length) (l := l ++ [x]) (hp := hp.set k (.list ((l ++ [x]).map T))) (at_set hk) (by simp) (by simp; omega)
  rw [List.set_set] at r1
  have c1 : (((l ++ [x]).map T).length : Int) - 1 = (l.length : Int) := by simp
  have hL : ∀ loc, isL (.ref k) ⟨loc, hp⟩ = true := fun loc => by simp only [isL, hk]
  have hrun : ∃ loc, fPush ⟨[some (.ref k), some (T x)], hp⟩ = some (.next, ⟨loc, hp.set k (.list ((sd (l ++ [x]) l.length).map T))⟩) := by
    refine ⟨?_, ?_⟩
    rotate_left
    · unfold fPush
      simp only [andThen, bnd, ok, pLoc, List.getElem?_cons_succ, List.getElem?_cons_zero, int_sub, if_true, hL, hap, n1, c1, lift, r1]
      rfl
  obtain ⟨loc, hrun⟩ := hrun
  show finish (fPush ⟨[some (.ref k), some (T x)], hp⟩) = _
  rw [hrun]; rfl
theorem pop_runs1 {k : Nat} {y : Int} {hp : List AO} (hk : hp[k]? = some (.list ([y].map T))) : qPop [.ref k] hp = some (T y, hp.set k (.list [])) := by
  have hL : ∀ loc, isL (.ref k) ⟨loc, hp⟩ = true := fun loc => by simp only [isL, hk]
  have hpo : ∀ loc, pPop [.ref k] ⟨loc, hp⟩ = some (T y, ⟨loc, hp.set k (.list [])⟩) := fun loc => by
    simp only [pPop, hk]; rfl
  have ht : ∀ loc, pTruth (.ref k) ⟨loc, hp.set k (.list [])⟩ = some (false, ⟨loc, hp.set k (.list [])⟩) := fun loc => by
    simp only [pTruth, at_set (o' := .list []) hk]; rfl
  have hrun : ∃ loc, fPop ⟨[some (.ref k), none, none], hp⟩ = some (.ret (T y), ⟨loc, hp.set k (.list [])⟩) := by
    refine ⟨?_, ?_⟩
    rotate_left
    · unfold fPop
      simp only [andThen, bnd, ok, pLoc, pStore, List.set_cons_succ, List.set_cons_zero, List.getElem?_cons_succ, List.getElem?_cons_zero, if_true, if_false, Bool.false_eq_true, hL, hpo, ht]
      rfl
  obtain ⟨loc, hrun⟩ := hrun
  show finish (fPop ⟨[some (.ref k), none, none], hp⟩) = _
  rw [hrun]; rfl
theorem pop_runs2 {k : Nat} {a y : Int} {l : List Int} {hp : List AO} (hk : hp[k]? = some (.list ((a :: (l ++ [y])).map T))) (hl : l.length ≤ 50) : qPop [.ref k] hp = some (T a, hp.set k (.list ((su (y :: l)).map T))) := by
  have hL : ∀ loc, isL (.ref k) ⟨loc, hp⟩ = true := fun loc => by simp only [isL, hk]
  have hpo : ∀ loc, pPop [.ref k] ⟨loc, hp⟩ = some (T y, ⟨loc, hp.set k (.list ((a :: l).map T))⟩) := fun loc => by
    simp only [pPop, hk]
    have e0 : (a :: (l ++ [y])).map T = (a :: l).map T ++ [T y] := by simp
    have e1 : ((a :: (l ++ [y])).map T).getLast? = some (T y) := by rw [e0]; exact List.getLast?_concat
    have e2 : ((a :: (l ++ [y])).map T).dropLast = (a :: l).map T := by rw [e0]; exact List.dropLast_concat
    rw [e1, e2]
    simp only
    rw [if_pos (by simp; omega)]
  have ht : ∀ loc, pTruth (.ref k) ⟨loc, hp.set k (.list ((a :: l).map T))⟩ = some (true, ⟨loc, hp.set k (.list ((a :: l).map T))⟩) := fun loc => by
    simp only [pTruth, at_set (o' := .list ((a :: l).map T)) hk]
    rw [if_pos (by simp; omega)]
    simp
  have i1 : ∀ loc, pItem (.ref k) (.int 0) ⟨loc, hp.set k (.list ((a :: l).map T))⟩ = some (T a, ⟨loc, hp.set k (.list ((a :: l).map T))⟩) := fun loc => item_list (i := 0) (at_set hk) rfl (by simp; omega)
  have s1 : ∀ loc, pSetItem (T y) (.ref k) (.int 0) ⟨loc, hp.set k (.list ((a :: l).map T))⟩ = some ((), ⟨loc, hp.set k (.list ((y :: l).map T))⟩) := fun loc => by
    have := set_list (loc := loc) (v := T y) (at_set (o' := .list ((a :: l).map T)) hk) (i := 0) (by simp) (by simp; omega)
    rw [List.set_set] at this
    exact this
  have r1 := su_runs (k := k) (l := y :: l) (hp := hp.set k (.list ((y :: l).map T))) (at_set hk) (by simp) (by simp; omega)
  rw [List.set_set] at r1
  have hrun : ∃ loc, fPop ⟨[some (.ref k), none, none], hp⟩ = some (.ret (T a), ⟨loc, hp.set k (.list ((su (y :: l)).map T))⟩) := by
    refine ⟨?_, ?_⟩
    rotate_left
    · unfold fPop
      simp only [andThen, bnd, ok, pLoc, pStore, List.set_cons_succ, List.set_cons_zero, List.getElem?_cons_succ, List.getElem?_cons_zero, if_true, hL, hpo, ht, i1, s1, lift, r1]
      rfl
  obtain ⟨loc, hrun⟩ := hrun
  show finish (fPop ⟨[some (.ref k), none, none], hp⟩) = _
  rw [hrun]; rfl

/-! heaps of up to five -/
noncomputable def Hp : List Int → Prop
  | [] => True
  | [_] => True
  | [a, b] => a ≤ b
  | [a, b, c] => a ≤ b ∧ a ≤ c
  | [a, b, c, d] => a ≤ b ∧ a ≤ c ∧ b ≤ d
  | [a, b, c, d, e] => a ≤ b ∧ a ≤ c ∧ b ≤ d ∧ b ≤ e
  | _ => False
theorem sd1 (a : Int) : sd [a] 0 = [a] := rfl
theorem sd2 (a x : Int) : sd [a, x] 1 = if x < a then [x, a] else [a, x] := by
  simp only [sd, sdGo, List.getD_cons_succ, List.getD_cons_zero]
  by_cases h : x < a <;> simp [h]
theorem sd3 (a b x : Int) : sd [a, b, x] 2 = if x < a then [x, b, a] else [a, b, x] := by
  simp only [sd, sdGo, List.getD_cons_succ, List.getD_cons_zero]
  by_cases h : x < a <;> simp [h]
theorem sd32 (a x c : Int) : sd [a, x, c] 1 = if x < a then [x, a, c] else [a, x, c] := by
  simp only [sd, sdGo, List.getD_cons_succ, List.getD_cons_zero]
  by_cases h : x < a <;> simp [h]
theorem sd4 (a b c x : Int) : sd [a, b, c, x] 3 = if x < b then (if x < a then [x, a, c, b] else [a, x, c, b]) else [a, b, c, x] := by
  simp only [sd, sdGo, List.getD_cons_succ, List.getD_cons_zero]
  by_cases h : x < b <;> by_cases h2 : x < a <;> simp [h, h2]
theorem sd42 (a b x d : Int) : sd [a, b, x, d] 2 = if x < a then [x, b, a, d] else [a, b, x, d] := by
  simp only [sd, sdGo, List.getD_cons_succ, List.getD_cons_zero]
  by_cases h : x < a <;> simp [h]
theorem sd5 (a b c d x : Int) : sd [a, b, c, d, x] 4 = if x < b then (if x < a then [x, a, c, d, b] else [a, x, c, d, b]) else [a, b, c, d, x] := by
  simp only [sd, sdGo, List.getD_cons_succ, List.getD_cons_zero]
  by_cases h : x < b <;> by_cases h2 : x < a <;> simp [h, h2]
theorem su1 (y : Int) : su [y] = [y] := rfl
theorem su2 (y b : Int) : su [y, b] = sd [b, y] 1 := by
  simp [su, suGo]
theorem su3 (y b c : Int) : su [y, b, c] = if b < c then sd [b, y, c] 1 else sd [c, b, y] 2 := by
  by_cases h : b < c
  · simp [su, suGo, h]
  · simp [su, suGo, h]
theorem su4 (y b c d : Int) : su [y, b, c, d] = if b < c then sd [b, d, c, y] 3 else sd [c, b, y, d] 2 := by
  by_cases h : b < c
  · simp [su, suGo, h]
  · simp [su, suGo, h]
theorem prmf (f : Nat → Int) {l k : List Nat} (h : l.Perm k) : (l.map f).Perm (k.map f) := h.map f
theorem hp_min {a : Int} : ∀ {l : List Int}, Hp (a :: l) → ∀ y ∈ l, a ≤ y
  | [], _, y, hy => by cases hy
  | [b], h, y, hy => by replace h : a ≤ b := h; simp only [List.mem_cons, List.not_mem_nil, or_false] at hy; subst hy; exact h
  | [b, c], h, y, hy => by replace h : a ≤ b ∧ a ≤ c := h; simp only [List.mem_cons, List.not_mem_nil, or_false] at hy; rcases hy with rfl | rfl; exact h.1; exact h.2
  | [b, c, d], h, y, hy => by replace h : a ≤ b ∧ a ≤ c ∧ b ≤ d := h; simp only [List.mem_cons, List.not_mem_nil, or_false] at hy; rcases hy with rfl | rfl | rfl; exact h.1; exact h.2.1; exact Int.le_trans h.1 h.2.2
  | [b, c, d, e], h, y, hy => by
    replace h : a ≤ b ∧ a ≤ c ∧ b ≤ d ∧ b ≤ e := h
    simp only [List.mem_cons, List.not_mem_nil, or_false] at hy
    rcases hy with rfl | rfl | rfl | rfl
    · exact h.1
    · exact h.2.1
    · exact Int.le_trans h.1 h.2.2.1
    · exact Int.le_trans h.1 h.2.2.2
  | _ :: _ :: _ :: _ :: _ :: _, h, _, _ => h.elim
theorem hp_min' {a : Int} {l : List Int} (h : Hp (a :: l)) (y : Int) (hy : y ∈ a :: l) : a ≤ y := by
  rcases List.mem_cons.mp hy with rfl | hy
  · exact Int.le_refl _
  · exact hp_min h y hy
theorem push_hp {x : Int} : ∀ {l : List Int}, l.length ≤ 4 → Hp l → Hp (sd (l ++ [x]) l.length) ∧ (sd (l ++ [x]) l.length).Perm (x :: l)
  | [], _, _ => ⟨trivial, List.Perm.refl _⟩
  | [a], _, _ => by
    show Hp (sd [a, x] 1) ∧ (sd [a, x] 1).Perm _
    rw [sd2]
    split
    · exact ⟨by first | (show _ ∧ _; omega) | (show _ ≤ _; omega), List.Perm.refl _⟩
    · exact ⟨by first | (show _ ∧ _; omega) | (show _ ≤ _; omega), List.Perm.swap _ _ _⟩
  | [a, b], _, h => by
    show Hp (sd [a, b, x] 2) ∧ (sd [a, b, x] 2).Perm _
    rw [sd3]
    replace h : a ≤ b := h
    split
    · exact ⟨by first | (show _ ∧ _; omega) | (show _ ≤ _; omega), prmf (fun i => [a, b, x].getD i 0) (l := [2, 1, 0]) (k := [2, 0, 1]) (by decide)⟩
    · exact ⟨by first | (show _ ∧ _; omega) | (show _ ≤ _; omega), prmf (fun i => [a, b, x].getD i 0) (l := [0, 1, 2]) (k := [2, 0, 1]) (by decide)⟩
  | [a, b, c], _, h => by
    show Hp (sd [a, b, c, x] 3) ∧ (sd [a, b, c, x] 3).Perm _
    rw [sd4]
    replace h : a ≤ b ∧ a ≤ c := h
    split
    · split
      · exact ⟨by first | (show _ ∧ _; omega) | (show _ ≤ _; omega), prmf (fun i => [a, b, c, x].getD i 0) (l := [3, 0, 2, 1]) (k := [3, 0, 1, 2]) (by decide)⟩
      · exact ⟨by first | (show _ ∧ _; omega) | (show _ ≤ _; omega), prmf (fun i => [a, b, c, x].getD i 0) (l := [0, 3, 2, 1]) (k := [3, 0, 1, 2]) (by decide)⟩
    · exact ⟨by first | (show _ ∧ _; omega) | (show _ ≤ _; omega), prmf (fun i => [a, b, c, x].getD i 0) (l := [0, 1, 2, 3]) (k := [3, 0, 1, 2]) (by decide)⟩
  | [a, b, c, d], _, h => by
    show Hp (sd [a, b, c, d, x] 4) ∧ (sd [a, b, c, d, x] 4).Perm _
    rw [sd5]
    replace h : a ≤ b ∧ a ≤ c ∧ b ≤ d := h
    split
    · split
      · exact ⟨by first | (show _ ∧ _; omega) | (show _ ≤ _; omega), prmf (fun i => [a, b, c, d, x].getD i 0) (l := [4, 0, 2, 3, 1]) (k := [4, 0, 1, 2, 3]) (by decide)⟩
      · exact ⟨by first | (show _ ∧ _; omega) | (show _ ≤ _; omega), prmf (fun i => [a, b, c, d, x].getD i 0) (l := [0, 4, 2, 3, 1]) (k := [4, 0, 1, 2, 3]) (by decide)⟩
    · exact ⟨by first | (show _ ∧ _; omega) | (show _ ≤ _; omega), prmf (fun i => [a, b, c, d, x].getD i 0) (l := [0, 1, 2, 3, 4]) (k := [4, 0, 1, 2, 3]) (by decide)⟩
  | _ :: _ :: _ :: _ :: _ :: _, h, _ => by simp at h
/-- one pop -/
theorem pop_hp {k : Nat} {hp : List AO} : ∀ {l : List Int}, l ≠ [] → Hp l → hp[k]? = some (.list (l.map T)) → ∃ m r, qPop [.ref k] hp = some (T m, hp.set k (.list (r.map T))) ∧ Hp r ∧ l.Perm (m :: r) ∧ ∀ y ∈ l, m ≤ y
  | [], h, _, _ => absurd rfl h
  | [a], _, _, hk => ⟨a, [], pop_runs1 hk, trivial, List.Perm.refl _, fun y hy => Int.le_of_eq (List.mem_singleton.mp hy).symm⟩
  | [a, b], _, h, hk => by
    refine ⟨a, _, pop_runs2 (l := []) hk (by simp), ?_⟩
    rw [su1]
    exact ⟨trivial, List.Perm.refl _, hp_min' h⟩
  | [a, b, c], _, h, hk => by
    refine ⟨a, _, pop_runs2 (l := [b]) hk (by simp), ?_⟩
    have h0 := h
    replace h : a ≤ b ∧ a ≤ c := h
    rw [su2, sd2]
    split
    · exact ⟨by first | (show _ ∧ _; omega) | (show _ ≤ _; omega), prmf (fun i => [a, b, c].getD i 0) (l := [0, 1, 2]) (k := [0, 2, 1]) (by decide), hp_min' h0⟩
    · exact ⟨by first | (show _ ∧ _; omega) | (show _ ≤ _; omega), prmf (fun i => [a, b, c].getD i 0) (l := [0, 1, 2]) (k := [0, 1, 2]) (by decide), hp_min' h0⟩
  | [a, b, c, d], _, h, hk => by
    refine ⟨a, _, pop_runs2 (l := [b, c]) hk (by simp), ?_⟩
    have h0 := h
    replace h : a ≤ b ∧ a ≤ c ∧ b ≤ d := h
    rw [su3, sd32, sd3]
    split
    · split
      · exact ⟨by first | (show _ ∧ _; omega) | (show _ ≤ _; omega), prmf (fun i => [a, b, c, d].getD i 0) (l := [0, 1, 2, 3]) (k := [0, 3, 1, 2]) (by decide), hp_min' h0⟩
      · exact ⟨by first | (show _ ∧ _; omega) | (show _ ≤ _; omega), prmf (fun i => [a, b, c, d].getD i 0) (l := [0, 1, 2, 3]) (k := [0, 1, 3, 2]) (by decide), hp_min' h0⟩
    · split
      · exact ⟨by first | (show _ ∧ _; omega) | (show _ ≤ _; omega), prmf (fun i => [a, b, c, d].getD i 0) (l := [0, 1, 2, 3]) (k := [0, 3, 1, 2]) (by decide), hp_min' h0⟩
      · exact ⟨by first | (show _ ∧ _; omega) | (show _ ≤ _; omega), prmf (fun i => [a, b, c, d].getD i 0) (l := [0, 1, 2, 3]) (k := [0, 2, 1, 3]) (by decide), hp_min' h0⟩
  | [a, b, c, d, e], _, h, hk => by
    refine ⟨a, _, pop_runs2 (l := [b, c, d]) hk (by simp), ?_⟩
    have h0 := h
    replace h : a ≤ b ∧ a ≤ c ∧ b ≤ d ∧ b ≤ e := h
    rw [su4, sd4, sd42]
    split
    · split
      · split
        · exact ⟨by first | (show _ ∧ _; omega) | (show _ ≤ _; omega), prmf (fun i => [a, b, c, d, e].getD i 0) (l := [0, 1, 2, 3, 4]) (k := [0, 4, 1, 2, 3]) (by decide), hp_min' h0⟩
        · exact ⟨by first | (show _ ∧ _; omega) | (show _ ≤ _; omega), prmf (fun i => [a, b, c, d, e].getD i 0) (l := [0, 1, 2, 3, 4]) (k := [0, 1, 4, 2, 3]) (by decide), hp_min' h0⟩
      · exact ⟨by first | (show _ ∧ _; omega) | (show _ ≤ _; omega), prmf (fun i => [a, b, c, d, e].getD i 0) (l := [0, 1, 2, 3, 4]) (k := [0, 1, 3, 2, 4]) (by decide), hp_min' h0⟩
    · split
      · exact ⟨by first | (show _ ∧ _; omega) | (show _ ≤ _; omega), prmf (fun i => [a, b, c, d, e].getD i 0) (l := [0, 1, 2, 3, 4]) (k := [0, 4, 1, 2, 3]) (by decide), hp_min' h0⟩
      · exact ⟨by first | (show _ ∧ _; omega) | (show _ ≤ _; omega), prmf (fun i => [a, b, c, d, e].getD i 0) (l := [0, 1, 2, 3, 4]) (k := [0, 2, 1, 4, 3]) (by decide), hp_min' h0⟩
  | _ :: _ :: _ :: _ :: _ :: _ :: _, _, h, _ => h.elim
end Mine

end
section
open PySem PySem.W PySem.Calls PyProof.Rows
set_option Elab.async false
namespace Mine
/-! the shape of the sorter's objects -/
noncomputable def hpS (p : Nat → Int) (s : Nat → List Int) (ready : List Int) (np nf : Int) (t : List AO) : List AO :=
  .sorter (.ref 1) (.ref 12) (.int np) (.int nf) :: .dict false [(0, .ref 2), (1, .ref 4), (2, .ref 6), (3, .ref 8), (4, .ref 10)] ::
  .node (.int 0) (.int (p 0)) (.ref 3) :: .list ((s 0).map .int) :: .node (.int 1) (.int (p 1)) (.ref 5) :: .list ((s 1).map .int) :: .node (.int 2) (.int (p 2)) (.ref 7) :: .list ((s 2).map .int) ::
  .node (.int 3) (.int (p 3)) (.ref 9) :: .list ((s 3).map .int) :: .node (.int 4) (.int (p 4)) (.ref 11) :: .list ((s 4).map .int) :: .list (ready.map .int) :: t
noncomputable def upd (p : Nat → Int) (i : Nat) (v : Int) : Nat → Int := fun j => if j = i then v else p j
section
variable {p : Nat → Int} {s : Nat → List Int} {ready : List Int} {np nf : Int} {t : List AO} {loc : List (Option AV)}
theorem item_n2i {i : Nat} (h : i < 5) : pItem (.ref 1) (.int (i : Nat)) ⟨loc, hpS p s ready np nf t⟩ = some (.ref (2 + 2 * i), ⟨loc, hpS p s ready np nf t⟩) := by
  match i, h with
  | 0, _ => rfl
  | 1, _ => rfl
  | 2, _ => rfl
  | 3, _ => rfl
  | 4, _ => rfl
theorem get_n2i {i : Nat} (h : i < 5) : pGet [.ref 1, .int (i : Nat)] ⟨loc, hpS p s ready np nf t⟩ = some (.ref (2 + 2 * i), ⟨loc, hpS p s ready np nf t⟩) := by
  match i, h with
  | 0, _ => rfl
  | 1, _ => rfl
  | 2, _ => rfl
  | 3, _ => rfl
  | 4, _ => rfl
theorem put_n {i : Nat} {v : Int} (h : i < 5) : pPutN 1 (.int v) (.ref (2 + 2 * i)) ⟨loc, hpS p s ready np nf t⟩ = some ((), ⟨loc, hpS (upd p i v) s ready np nf t⟩) := by
  match i, h with
  | 0, _ => rfl
  | 1, _ => rfl
  | 2, _ => rfl
  | 3, _ => rfl
  | 4, _ => rfl
theorem get_n {i : Nat} (h : i < 5) : pGetN 1 (.ref (2 + 2 * i)) ⟨loc, hpS p s ready np nf t⟩ = some (.int (p i), ⟨loc, hpS p s ready np nf t⟩) := by
  match i, h with
  | 0, _ => rfl
  | 1, _ => rfl
  | 2, _ => rfl
  | 3, _ => rfl
  | 4, _ => rfl
theorem get_s {i : Nat} (h : i < 5) : pGetN 2 (.ref (2 + 2 * i)) ⟨loc, hpS p s ready np nf t⟩ = some (.ref (3 + 2 * i), ⟨loc, hpS p s ready np nf t⟩) := by
  match i, h with
  | 0, _ => rfl
  | 1, _ => rfl
  | 2, _ => rfl
  | 3, _ => rfl
  | 4, _ => rfl
theorem at_s {i : Nat} (h : i < 5) : (hpS p s ready np nf t)[3 + 2 * i]? = some (.list ((s i).map .int)) := by
  match i, h with
  | 0, _ => rfl
  | 1, _ => rfl
  | 2, _ => rfl
  | 3, _ => rfl
  | 4, _ => rfl
/-! is_active -/
theorem act_runs (h : ready.length < 1000) : qAct [.ref 0] (hpS p s ready np nf t) = some (.bool (decide (nf < np) || decide (ready ≠ [])), hpS p s ready np nf t) := by
  have hb : ∀ loc, pBoolC [.ref 12] ⟨loc, hpS p s ready np nf t⟩ = some (.bool (decide (ready ≠ [])), ⟨loc, hpS p s ready np nf t⟩) := fun loc => by
    show (if (ready.map AV.int).length < 1000 then some (AV.bool (decide (ready.map AV.int ≠ [])), (⟨loc, hpS p s ready np nf t⟩ : AS)) else none) = _
    rw [if_pos (by simpa using h)]
    have : decide (ready.map AV.int ≠ []) = decide (ready ≠ []) := by cases ready <;> simp
    rw [this]
  have g1 : ∀ loc, pGetS 1 (.ref 0) ⟨loc, hpS p s ready np nf t⟩ = some (.ref 12, ⟨loc, hpS p s ready np nf t⟩) := fun _ => rfl
  have g2 : ∀ loc, pGetS 2 (.ref 0) ⟨loc, hpS p s ready np nf t⟩ = some (.int np, ⟨loc, hpS p s ready np nf t⟩) := fun _ => rfl
  have g3 : ∀ loc, pGetS 3 (.ref 0) ⟨loc, hpS p s ready np nf t⟩ = some (.int nf, ⟨loc, hpS p s ready np nf t⟩) := fun _ => rfl
  have is0 : ∀ k, pCmpA CmpOp.Is (.ref k) .none = ok (.bool false) := fun _ => rfl
  have tr : ∀ b, pTruth (.bool b) = ok b := fun _ => rfl
  show finish (fAct ⟨[some (.ref 0)], hpS p s ready np nf t⟩) = _
  unfold fAct
  by_cases hc : nf < np
  · simp only [andThen, bnd, ok, pLoc, List.getElem?_cons_zero, cmp_lt, pBool, decide_true, if_true, if_false, Bool.false_eq_true, g1, g2, g3, is0, tr, hc]
    simp [finish]
  · simp only [andThen, bnd, ok, pLoc, List.getElem?_cons_zero, cmp_lt, pBool, decide_false, if_false, Bool.false_eq_true, g1, g2, g3, is0, tr, hc, hb]
    simp [finish]
end
end Mine

end
section
open PySem PySem.W PySem.Calls PyProof.Rows
set_option Elab.async false
namespace Mine
/-- a loop by an invariant over its turns -/
theorem for_ind {src : Src} {l : List AV} {st : AV → AM Unit} {f : AM AF} {n : Nat} {P : Nat → AS → Prop} (hn : ∀ i σ, P i σ → nxt src i σ = some l[i]?)
    (hs : ∀ i v σ, l[i]? = some v → P i σ → ∃ σ₁ σ', st v σ = some ((), σ₁) ∧ f σ₁ = some (.next, σ') ∧ P (i + 1) σ') :
    ∀ (fuel i : Nat) (σ : AS), l.length < fuel + i → i ≤ l.length → P i σ → ∃ σ', aFor src false n st f fuel i σ = some (.next, σ') ∧ P l.length σ' := by
  intro fuel
  induction fuel with
  | zero => intro i σ h1 h2 _; omega
  | succ fuel ih =>
    intro i σ h1 h2 hP
    rw [aFor]
    dsimp only
    rw [hn i σ hP]
    cases hl : l[i]? with
    | none =>
      have : i = l.length := by rw [List.getElem?_eq_none_iff] at hl; omega
      exact ⟨σ, rfl, this ▸ hP⟩
    | some v =>
      obtain ⟨σ₁, σ', e1, e2, hP'⟩ := hs i v σ hl hP
      have hi : i < l.length := (List.getElem?_eq_some_iff.mp hl).1
      obtain ⟨σ₂, e3, hP₂⟩ := ih (i + 1) σ' (by omega) (by omega) hP'
      refine ⟨σ₂, ?_, hP₂⟩
      simp only [bnd, e1, e2, turnEnd, Bool.false_eq_true, if_false]
      exact e3
theorem intsOf_map : ∀ (l : List Int), intsOf (l.map AV.int) = some l
  | [] => rfl
  | a :: l => by simp only [List.map_cons, intsOf, intsOf_map l]
theorem map_int_at {l : List Int} {i : Nat} {v : AV} (h : (l.map AV.int)[i]? = some v) : ∃ x, l[i]? = some x ∧ v = .int x := by
  rw [List.getElem?_map] at h
  cases e : l[i]? with
  | none => rw [e] at h; cases h
  | some x => rw [e] at h; cases h; exact ⟨x, rfl, rfl⟩
theorem unlock_hpS {p : Nat → Int} {s : Nat → List Int} {ready : List Int} {np nf : Int} {t : List AO} (h : t.map AO.unl = t) : (hpS p s ready np nf t).map AO.unl = hpS p s ready np nf t := by
  unfold hpS
  simp only [List.map_cons, AO.unl, h]

section
variable {p : Nat → Int} {s : Nat → List Int} {ready : List Int} {np nf : Int} {t : List AO} {loc : List (Option AV)}
/-! get_ready -/
noncomputable def outP (p : Nat → Int) (l : List Int) : Nat → Int := fun j => if (j : Int) ∈ l then -1 else p j
theorem outP_step {l : List Int} {i : Nat} {x : Int} (h : l[i]? = some x) (h0 : 0 ≤ x) : upd (outP p (l.take i)) x.toNat (-1) = outP p (l.take (i + 1)) := by
  funext j
  unfold upd outP
  rw [List.take_add_one, h]
  simp only [Option.toList_some, List.mem_append, List.mem_singleton]
  by_cases hj : j = x.toNat
  · rw [if_pos hj, if_pos (.inr (by omega))]
  · rw [if_neg hj]
    have : ¬ (j : Int) = x := by omega
    simp only [this, or_false]
theorem rdy_runs (hr : ∀ x ∈ ready, 0 ≤ x ∧ x < 5) (hl : ready.length < 60) (ht : t.map AO.unl = t) : qRdy [.ref 0] (hpS p s ready np nf t) = some (.tup ready, hpS (outP p ready) s [] (np + ready.length) nf t) := by
  have g0 : ∀ loc p np ready, pGetS 0 (.ref 0) ⟨loc, hpS p s ready np nf t⟩ = some (.ref 1, ⟨loc, hpS p s ready np nf t⟩) := fun _ _ _ _ => rfl
  have g1 : ∀ loc p np ready, pGetS 1 (.ref 0) ⟨loc, hpS p s ready np nf t⟩ = some (.ref 12, ⟨loc, hpS p s ready np nf t⟩) := fun _ _ _ _ => rfl
  have g2 : ∀ loc p np ready, pGetS 2 (.ref 0) ⟨loc, hpS p s ready np nf t⟩ = some (.int np, ⟨loc, hpS p s ready np nf t⟩) := fun _ _ _ _ => rfl
  have pu : ∀ loc p np ready v, pPutS 2 (.int v) (.ref 0) ⟨loc, hpS p s ready np nf t⟩ = some ((), ⟨loc, hpS p s ready v nf t⟩) := fun _ _ _ _ _ => rfl
  have is0 : ∀ k, pCmpA CmpOp.Is (.ref k) .none = ok (.bool false) := fun _ => rfl
  have tu : ∀ loc, pTupOf [.ref 12] ⟨loc, hpS p s ready np nf t⟩ = some (.tup ready, ⟨loc, hpS p s ready np nf t⟩) := fun loc => by
    show (match intsOf (ready.map AV.int) with | some ns => if ns.length < 1000 then some (AV.tup ns, (⟨loc, hpS p s ready np nf t⟩ : AS)) else none | none => none) = _
    rw [intsOf_map]
    simp only
    rw [if_pos (by omega)]
  have it : ∀ σ, pIter (.tup ready) σ = some (.items (ready.map .int), σ) := fun _ => rfl
  have cl : ∀ loc p, pClear [.ref 12] ⟨loc, hpS p s ready np nf t⟩ = some (.none, ⟨loc, hpS p s [] np nf t⟩) := fun loc p => by
    show (if (ready.map AV.int).length < 1000 then some (AV.none, (⟨loc, hpS p s [] np nf t⟩ : AS)) else none) = _
    rw [if_pos (by simp; omega)]
  have hL : ∀ loc p, isL (.ref 12) ⟨loc, hpS p s ready np nf t⟩ = true := fun _ _ => rfl
  have le : ∀ σ, pLen [.tup ready] σ = some (.int ready.length, σ) := fun σ => by
    show (if ready.length < 100000 then some (AV.int ready.length, σ) else none) = _
    rw [if_pos (by omega)]
  obtain ⟨σ', e1, o3, rfl⟩ := for_ind (src := .items (ready.map .int)) (l := ready.map .int) (st := pStore 3) (n := (hpS p s ready np nf t).length)
    (f := bnd (ok (AV.int (-1))) fun v => bnd (bnd (pLoc 2) fun a => bnd (pLoc 3) fun b => pItem a b) fun a => bnd (pPutN 1 v a) fun x => ok AF.next)
    (P := fun i σ => ∃ o3, σ = ⟨[some (.ref 0), some (.tup ready), some (.ref 1), o3], hpS (outP p (ready.take i)) s ready np nf t⟩) (fun i σ _ => rfl) (by
      rintro i v σ hv ⟨o3, rfl⟩
      obtain ⟨x, hx, rfl⟩ := map_int_at hv
      have hx5 := hr x (List.mem_of_getElem? hx)
      obtain ⟨k, rfl⟩ : ∃ k : Nat, x = k := ⟨x.toNat, by omega⟩
      have hk : k < 5 := by omega
      refine ⟨_, ⟨[some (.ref 0), some (.tup ready), some (.ref 1), some (.int k)], hpS (upd (outP p (ready.take i)) k (-1)) s ready np nf t⟩, rfl, ?_, some (.int k), ?_⟩
      · simp only [bnd, ok, pLoc, List.set_cons_succ, List.set_cons_zero, List.getElem?_cons_succ, List.getElem?_cons_zero, item_n2i hk, put_n hk]
      · have := outP_step (p := p) hx (by omega)
        rw [Int.toNat_natCast] at this
        rw [this]) 64 0 ⟨[some (.ref 0), some (.tup ready), some (.ref 1), none], hpS p s ready np nf t⟩ (by simp; omega) (by omega) ⟨none, by
        have : outP p (ready.take 0) = p := by funext j; simp [outP]
        rw [this]⟩
  rw [List.length_map, List.take_length] at e1
  have hu := unlock_hpS (p := outP p ready) (s := s) (ready := ready) (np := np) (nf := nf) ht
  show finish (fRdy ⟨[some (.ref 0), none, none, none], hpS p s ready np nf t⟩) = _
  unfold fRdy
  simp only [andThen, bnd, ok, pLoc, pStore, List.set_cons_succ, List.set_cons_zero, List.getElem?_cons_succ, List.getElem?_cons_zero, pBool, if_true, if_false, Bool.false_eq_true, g0, g1, g2, is0, tu, it, AF.unlocked, e1, unlock, hu, hL, cl, le, gAdd, pInt2, pu]
  rfl
end
end Mine

end
section
open PySem PySem.W PySem.Calls PyProof.Rows
set_option Elab.async false
namespace Mine
section
variable {p : Nat → Int} {s : Nat → List Int} {ready : List Int} {np nf : Int} {t : List AO} {loc : List (Option AV)}
/-! done -/
noncomputable def dec (p : Nat → Int) (l : List Int) : Nat → Int := fun k => if (k : Int) ∈ l then p k - 1 else p k
noncomputable def newR (p : Nat → Int) (l : List Int) : List Int := l.filter fun x => decide (p x.toNat - 1 = 0)
theorem take_nodup_not {l : List Int} {i : Nat} {x : Int} (hd : l.Nodup) (h : l[i]? = some x) : x ∉ l.take i := by
  intro hm
  obtain ⟨j, hj⟩ := List.getElem?_of_mem hm
  rw [List.getElem?_take] at hj
  split at hj
  · rename_i hji
    obtain ⟨h1, r1⟩ := List.getElem?_eq_some_iff.mp h
    obtain ⟨h2, r2⟩ := List.getElem?_eq_some_iff.mp hj
    have := (List.getElem_inj hd).mp (r1.trans r2.symm)
    omega
  · cases hj
theorem dec_step {l : List Int} {i k : Nat} (hd : l.Nodup) (h : l[i]? = some (k : Int)) : dec p (l.take i) k = p k ∧ upd (dec p (l.take i)) k (p k - 1) = dec p (l.take (i + 1)) := by
  have hn := take_nodup_not hd h
  refine ⟨if_neg hn, ?_⟩
  funext j
  unfold upd dec
  rw [List.take_add_one, h]
  simp only [Option.toList_some, List.mem_append, List.mem_singleton]
  by_cases hj : j = k
  · subst hj
    rw [if_pos rfl, if_pos (.inr rfl)]
  · rw [if_neg hj]
    have : ¬ (j : Int) = (k : Int) := by omega
    simp only [this, or_false]
theorem newR_step {l : List Int} {i k : Nat} (h : l[i]? = some (k : Int)) : newR p (l.take (i + 1)) = if p k - 1 = 0 then newR p (l.take i) ++ [(k : Int)] else newR p (l.take i) := by
  unfold newR
  rw [List.take_add_one, h]
  simp only [Option.toList_some, List.filter_append]
  by_cases hc : p k - 1 = 0
  · rw [if_pos hc]; simp [hc]
  · rw [if_neg hc]; simp [hc]
theorem app_ready {x : Int} (hl : ready.length < 900) : pAppend [.ref 12, .int x] ⟨loc, hpS p s ready np nf t⟩ = some (.none, ⟨loc, hpS p s (ready ++ [x]) np nf t⟩) := by
  show (if (ready.map AV.int).length < 1000 then some (AV.none, (⟨loc, (hpS p s ready np nf t).set 12 (.list (ready.map AV.int ++ [AV.int x]))⟩ : AS)) else none) = _
  rw [if_pos (by simp; omega)]
  have : ready.map AV.int ++ [AV.int x] = (ready ++ [x]).map AV.int := by simp
  rw [this]; rfl
noncomputable def doneIn : AM AF :=
  (andThen
    (bnd
      (bnd (pLoc 2) fun a =>
        bnd (pLoc 6) fun b => pItem a b)
      fun v => bnd (pStore 7 v) fun x => ok AF.next)
    (andThen
      (bnd (pLoc 7) fun a =>
        bnd (pGetN 1 a) fun old =>
          bnd (ok (AV.int 1)) fun v =>
            bnd (pInt2 gSub old v) fun new => bnd (pPutN 1 new a) fun x => ok AF.next)
      (bnd
        (bnd (bnd (pLoc 7) (pGetN 1)) fun a =>
          bnd (ok (AV.int 0)) fun b => bnd (pCmpA CmpOp.Eq a b) pBool)
        fun b =>
        if b = true then
          bnd
            (bnd (bnd (pLoc 0) (pGetS 1)) fun ov σ =>
              if isL ov σ = true then
                bnd
                  (bnd (pLoc 6) fun v =>
                    bnd (ok []) fun l => ok (v :: l))
                  (fun vs => pAppend (ov :: vs)) σ
              else none)
            fun x => ok AF.next
        else ok AF.next)))
theorem upd_self {p : Nat → Int} {k : Nat} {v : Int} : upd p k v k = v := if_pos rfl
theorem int_gsub (a b : Int) : pInt2 gSub (.int a) (.int b) = ok (.int (a - b)) := rfl
theorem int_gadd (a b : Int) : pInt2 gAdd (.int a) (.int b) = ok (.int (a + b)) := rfl
theorem doneIn_runs {k : Nat} {o1 o3 o4 o5 o7 : Option AV} (hk : k < 5) (hl : ready.length < 900) : ∃ o7', doneIn ⟨[some (.ref 0), o1, some (.ref 1), o3, o4, o5, some (.int (k : Nat)), o7], hpS p s ready np nf t⟩ =
    some (.next, ⟨[some (.ref 0), o1, some (.ref 1), o3, o4, o5, some (.int (k : Nat)), o7'], hpS (upd p k (p k - 1)) s (if p k - 1 = 0 then ready ++ [(k : Int)] else ready) np nf t⟩) := by
  have u1 : upd p k (p k - 1) k = p k - 1 := if_pos rfl
  have g1 : ∀ loc p ready, pGetS 1 (.ref 0) ⟨loc, hpS p s ready np nf t⟩ = some (.ref 12, ⟨loc, hpS p s ready np nf t⟩) := fun _ _ _ => rfl
  have hL : ∀ loc p ready, isL (.ref 12) ⟨loc, hpS p s ready np nf t⟩ = true := fun _ _ _ => rfl
  refine ⟨some (.ref (2 + 2 * k)), ?_⟩
  unfold doneIn
  by_cases hc : p k - 1 = 0
  · rw [if_pos hc]
    simp only [andThen, bnd, ok, pLoc, pStore, List.set_cons_succ, List.set_cons_zero, List.getElem?_cons_succ, List.getElem?_cons_zero, cmp_eq, pBool, decide_true, if_true, item_n2i hk, get_n hk, int_gsub, put_n hk, upd_self, hc, g1, hL, app_ready hl]
  · rw [if_neg hc]
    simp only [andThen, bnd, ok, pLoc, pStore, List.set_cons_succ, List.set_cons_zero, List.getElem?_cons_succ, List.getElem?_cons_zero, cmp_eq, pBool, decide_false, if_false, Bool.false_eq_true, item_n2i hk, get_n hk, int_gsub, put_n hk, upd_self, hc]
noncomputable def doneOut : AM AF :=
  (andThen
                (bnd
                  (bnd
                    (bnd
                      (bnd (pLoc 2) fun ov σ =>
                        if isD ov σ = true then
                          bnd (bnd (pLoc 3) fun v => bnd (ok []) fun l => ok (v :: l))
                            (fun vs => pGet (ov :: vs)) σ
                        else none)
                      fun v => bnd (pStore 4 v) fun x => ok v)
                    fun a => bnd (ok AV.none) fun b => bnd (pCmpA CmpOp.Is a b) pBool)
                  fun b => if b = true then no else ok AF.next)
                (andThen
                  (bnd (bnd (pLoc 4) (pGetN 1)) fun v =>
                    bnd (pStore 5 v) fun x => ok AF.next)
                  (andThen
                    (bnd
                      (bnd (pLoc 5) fun a =>
                        bnd (ok (AV.int (-1))) fun b => bnd (pCmpA CmpOp.NotEq a b) pBool)
                      fun b =>
                      if b = true then
                        bnd
                          (bnd (pLoc 5) fun a =>
                            bnd (ok (AV.int 0)) fun b => bnd (pCmpA CmpOp.GtE a b) pBool)
                          fun b =>
                          if b = true then no
                          else
                            bnd
                              (bnd (pLoc 5) fun a =>
                                bnd (ok (AV.int (-2))) fun b => bnd (pCmpA CmpOp.Eq a b) pBool)
                              fun b => if b = true then no else no
                      else ok AF.next)
                    (andThen
                      (bnd (ok (AV.int (-2))) fun v =>
                        bnd (pLoc 4) fun a => bnd (pPutN 1 v a) fun x => ok AF.next)
                      (andThen
                        (bnd (bnd (bnd (pLoc 4) (pGetN 2)) pIter) fun src =>
                          AF.unlocked fun σ =>
                            aFor src false σ.hp.length (pStore 6) doneIn 64 0 σ)
                        (bnd (pLoc 0) fun a =>
                          bnd (pGetS 3 a) fun old =>
                            bnd (ok (AV.int 1)) fun v =>
                              bnd (pInt2 gAdd old v) fun new => bnd (pPutS 3 new a) fun x => ok AF.next))))))
theorem done_runs {j : Nat} (hj : j < 5) (hpj : p j = -1) (hs : ∀ x ∈ s j, 0 ≤ x ∧ x < 5) (hd : (s j).Nodup) (hl : (s j).length < 60) (hr : ready.length < 800) (ht : t.map AO.unl = t) :
    qDone [.ref 0, .int (j : Nat)] (hpS p s ready np nf t) = some (.none, hpS (dec (upd p j (-2)) (s j)) s (ready ++ newR (upd p j (-2)) (s j)) np (nf + 1) t) := by
  have g0 : ∀ loc p ready nf, pGetS 0 (.ref 0) ⟨loc, hpS p s ready np nf t⟩ = some (.ref 1, ⟨loc, hpS p s ready np nf t⟩) := fun _ _ _ _ => rfl
  have g1 : ∀ loc p ready nf, pGetS 1 (.ref 0) ⟨loc, hpS p s ready np nf t⟩ = some (.ref 12, ⟨loc, hpS p s ready np nf t⟩) := fun _ _ _ _ => rfl
  have g3 : ∀ loc p ready nf, pGetS 3 (.ref 0) ⟨loc, hpS p s ready np nf t⟩ = some (.int nf, ⟨loc, hpS p s ready np nf t⟩) := fun _ _ _ _ => rfl
  have pu : ∀ loc p ready nf v, pPutS 3 (.int v) (.ref 0) ⟨loc, hpS p s ready np nf t⟩ = some ((), ⟨loc, hpS p s ready np v t⟩) := fun _ _ _ _ _ => rfl
  have is0 : ∀ k, pCmpA CmpOp.Is (.ref k) .none = ok (.bool false) := fun _ => rfl
  have hD : ∀ loc p ready nf, isD (.ref 1) ⟨loc, hpS p s ready np nf t⟩ = true := fun _ _ _ _ => rfl
  have itl : ∀ loc p ready nf, pIter (.ref (3 + 2 * j)) ⟨loc, hpS p s ready np nf t⟩ = some (.mlist (3 + 2 * j), ⟨loc, hpS p s ready np nf t⟩) := fun loc p ready nf => by
    simp only [pIter, at_s hj]
  have hu : ∀ p ready nf, (hpS p s ready np nf t).map AO.unl = hpS p s ready np nf t := fun p ready nf => unlock_hpS ht
  have inner : ∀ n o6 o7, ∃ o6' o7', aFor (.mlist (3 + 2 * j)) false n (pStore 6) doneIn 64 0 ⟨[some (.ref 0), some (.tup [(j : Int)]), some (.ref 1), some (.int (j : Nat)), some (.ref (2 + 2 * j)), some (.int (-1)), o6, o7], hpS (upd p j (-2)) s ready np nf t⟩ =
      some (.next, ⟨[some (.ref 0), some (.tup [(j : Int)]), some (.ref 1), some (.int (j : Nat)), some (.ref (2 + 2 * j)), some (.int (-1)), o6', o7'], hpS (dec (upd p j (-2)) (s j)) s (ready ++ newR (upd p j (-2)) (s j)) np nf t⟩) := by
    intro n o6 o7
    obtain ⟨σ', e1, o6', o7', rfl⟩ := for_ind (src := .mlist (3 + 2 * j)) (l := (s j).map .int) (st := pStore 6) (n := n) (f := doneIn)
      (P := fun i σ => ∃ o6 o7, σ = ⟨[some (.ref 0), some (.tup [(j : Int)]), some (.ref 1), some (.int (j : Nat)), some (.ref (2 + 2 * j)), some (.int (-1)), o6, o7], hpS (dec (upd p j (-2)) ((s j).take i)) s (ready ++ newR (upd p j (-2)) ((s j).take i)) np nf t⟩)
      (by
        rintro i σ ⟨o6, o7, rfl⟩
        simp only [nxt, at_s hj]) (by
        rintro i v σ hv ⟨o6, o7, rfl⟩
        obtain ⟨x, hx, rfl⟩ := map_int_at hv
        have hx5 := hs x (List.mem_of_getElem? hx)
        obtain ⟨k, rfl⟩ : ∃ k : Nat, x = k := ⟨x.toNat, by omega⟩
        have hk : k < 5 := by omega
        obtain ⟨d1, d2⟩ := dec_step (p := upd p j (-2)) hd hx
        have hlen : (newR (upd p j (-2)) ((s j).take i)).length < 60 := by
          refine Nat.lt_of_le_of_lt (List.length_filter_le _ _) ?_
          rw [List.length_take]; omega
        obtain ⟨o7', e⟩ := doneIn_runs (p := dec (upd p j (-2)) ((s j).take i)) (s := s) (ready := ready ++ newR (upd p j (-2)) ((s j).take i)) (np := np) (nf := nf) (t := t) (k := k) (o1 := some (.tup [(j : Int)])) (o3 := some (.int (j : Nat))) (o4 := some (.ref (2 + 2 * j))) (o5 := some (.int (-1))) (o7 := o7) hk (by rw [List.length_append]; omega)
        refine ⟨_, _, rfl, e, some (.int k), o7', ?_⟩
        rw [d1, d2, newR_step hx]
        split
        · rw [List.append_assoc]
        · rfl) 64 0 ⟨[some (.ref 0), some (.tup [(j : Int)]), some (.ref 1), some (.int (j : Nat)), some (.ref (2 + 2 * j)), some (.int (-1)), o6, o7], hpS (upd p j (-2)) s ready np nf t⟩ (by simp; omega) (by omega) ⟨o6, o7, by
          have : dec (upd p j (-2)) ((s j).take 0) = upd p j (-2) := by funext k; simp [dec]
          rw [this]; simp [newR]⟩
    rw [List.length_map, List.take_length] at e1
    exact ⟨o6', o7', e1⟩
  obtain ⟨o6', o7', ei⟩ := inner (hpS (upd p j (-2)) s ready np nf t).length none none
  have hrun : ∃ loc, fDone ⟨[some (.ref 0), some (.tup [(j : Int)]), none, none, none, none, none, none], hpS p s ready np nf t⟩ = some (.next, ⟨loc, hpS (dec (upd p j (-2)) (s j)) s (ready ++ newR (upd p j (-2)) (s j)) np (nf + 1) t⟩) := by
    obtain ⟨σ', e1, hσ⟩ := for_ind (src := .items [.int (j : Nat)]) (l := [.int (j : Nat)]) (st := pStore 3) (n := (hpS p s ready np nf t).length)
      (f := doneOut)
      (P := fun i σ => if i = 0 then σ = ⟨[some (.ref 0), some (.tup [(j : Int)]), some (.ref 1), none, none, none, none, none], hpS p s ready np nf t⟩ else σ = ⟨[some (.ref 0), some (.tup [(j : Int)]), some (.ref 1), some (.int (j : Nat)), some (.ref (2 + 2 * j)), some (.int (-1)), o6', o7'], hpS (dec (upd p j (-2)) (s j)) s (ready ++ newR (upd p j (-2)) (s j)) np (nf + 1) t⟩)
      (fun i σ _ => rfl) (by
        intro i v σ hv hP
        have hi : i = 0 := by
          have := (List.getElem?_eq_some_iff.mp hv).1
          simp at this; exact this
        subst hi
        cases hv
        rw [if_pos rfl] at hP
        subst hP
        have ne : ¬ ((-1 : Int) ≠ -1) := by omega
        refine ⟨_, ⟨[some (.ref 0), some (.tup [(j : Int)]), some (.ref 1), some (.int (j : Nat)), some (.ref (2 + 2 * j)), some (.int (-1)), o6', o7'], hpS (dec (upd p j (-2)) (s j)) s (ready ++ newR (upd p j (-2)) (s j)) np (nf + 1) t⟩, rfl, ?_, ?_⟩
        rotate_left
        · rw [if_neg (by omega)]
        · unfold doneOut
          simp only [andThen, bnd, ok, pLoc, pStore, List.set_cons_succ, List.set_cons_zero, List.getElem?_cons_succ, List.getElem?_cons_zero, cmp_ne, pBool, decide_false, if_true, if_false, Bool.false_eq_true, hD, get_n2i hj, is0, get_n hj, hpj, ne, put_n hj, get_s hj, itl, AF.unlocked, ei, unlock, hu, g3, int_gadd, pu]) 64 0 _ (by simp) (by simp) (by rw [if_pos rfl])
    rw [if_neg (by simp)] at hσ
    refine ⟨?_, ?_⟩
    rotate_left
    · show andThen _ (andThen _ (bnd _ fun src => AF.unlocked fun σ => aFor src false σ.hp.length (pStore 3) doneOut 64 0 σ)) _ = _
      have it : ∀ σ, pIter (.tup [(j : Int)]) σ = some (.items [.int (j : Nat)], σ) := fun _ => rfl
      rw [hσ] at e1
      simp only [andThen, bnd, ok, pLoc, pStore, List.set_cons_succ, List.set_cons_zero, List.getElem?_cons_succ, List.getElem?_cons_zero, pBool, if_false, Bool.false_eq_true, g0, g1, is0, it, AF.unlocked, e1, unlock, hu]
      rfl
  obtain ⟨loc, hrun⟩ := hrun
  show finish (fDone ⟨[some (.ref 0), some (.tup [(j : Int)]), none, none, none, none, none, none], hpS p s ready np nf t⟩) = _
  rw [hrun]; rfl
end
end Mine

end
section
open PySem PySem.W PySem.Calls PyProof.Rows
set_option Elab.async false
namespace Mine
/-! stat -/
theorem and_lo (t r : Nat) (hr : r < 4096) : (4096 * t + r) &&& 4095 = r := by
  have := Nat.and_two_pow_sub_one_eq_mod (4096 * t + r) 12
  rw [show 2 ^ 12 - 1 = 4095 from rfl] at this
  rw [this]; omega
theorem and_hi (t r : Nat) (hr : r < 4096) (ht : t < 16) : (4096 * t + r) &&& 61440 = 4096 * t := by
  have h1 : (4096 * t + r) &&& 61440 = 4096 * (t &&& 15) := by
    apply Nat.eq_of_testBit_eq
    intro i
    rw [Nat.testBit_and, show 61440 = 2 ^ 12 * 15 + 0 from rfl, show 4096 = 2 ^ 12 from rfl, Nat.testBit_two_pow_mul_add _ (by omega), Nat.testBit_two_pow_mul_add _ (by omega), Nat.testBit_two_pow_mul, Nat.testBit_and]
    by_cases hi : i < 12
    · have : ¬ 12 ≤ i := by omega
      simp [hi, this]
    · have : 12 ≤ i := by omega
      simp [hi, this]
  rw [h1]
  have := Nat.and_two_pow_sub_one_eq_mod t 4
  rw [show 2 ^ 4 - 1 = 15 from rfl] at this
  rw [this]; omega
theorem big_lo (t r : Nat) (hr : r < 4096) : Builtin.bitAnd (4096 * (t : Int) + r) 4095 = r := by
  rw [bitAnd_pp (by omega) (by omega)]
  have : (4096 * (t : Int) + r).toNat = 4096 * t + r := by omega
  rw [this, show (4095 : Int).toNat = 4095 from rfl, and_lo t r hr]
theorem big_hi (t r : Nat) (hr : r < 4096) (ht : t < 16) : Builtin.bitAnd (4096 * (t : Int) + r) 61440 = 4096 * t := by
  rw [bitAnd_pp (by omega) (by omega)]
  have : (4096 * (t : Int) + r).toNat = 4096 * t + r := by omega
  rw [this, show (61440 : Int).toNat = 61440 from rfl, and_hi t r hr ht]
  omega
theorem int_and (a b : Int) : pInt2 (opG Operator.BitAnd) (.int a) (.int b) = ok (.int (Builtin.bitAnd a b)) := rfl
section
variable {t r : Nat} {hp : List AO}
theorem imode_runs (hr : r < 4096) : qImode [.int (4096 * (t : Int) + r)] hp = some (.int r, hp) := by
  show finish (fImode ⟨[some (.int (4096 * (t : Int) + r))], hp⟩) = _
  unfold fImode
  simp only [bnd, ok, pLoc, List.getElem?_cons_zero, int_and, big_lo t r hr]
  rfl
theorem ifmt_runs (hr : r < 4096) (ht : t < 16) : qIfmt [.int (4096 * (t : Int) + r)] hp = some (.int (4096 * t), hp) := by
  show finish (fIfmt ⟨[some (.int (4096 * (t : Int) + r))], hp⟩) = _
  unfold fIfmt
  simp only [bnd, ok, pLoc, List.getElem?_cons_zero, int_and, big_hi t r hr ht]
  rfl
theorem isdir_runs (hr : r < 4096) (ht : t < 16) : qIsdir [.int (4096 * (t : Int) + r)] hp = some (.bool (decide (t = 4)), hp) := by
  show finish (fIsdir ⟨[some (.int (4096 * (t : Int) + r))], hp⟩) = _
  unfold fIsdir
  simp only [bnd, ok, pLoc, List.getElem?_cons_zero, cmp_eq, lift, ifmt_runs hr ht]
  have : decide (4096 * (t : Int) = 16384) = decide (t = 4) := by simp only [decide_eq_decide]; omega
  rw [this]; rfl
theorem isreg_runs (hr : r < 4096) (ht : t < 16) : qIsreg [.int (4096 * (t : Int) + r)] hp = some (.bool (decide (t = 8)), hp) := by
  show finish (fIsreg ⟨[some (.int (4096 * (t : Int) + r))], hp⟩) = _
  unfold fIsreg
  simp only [bnd, ok, pLoc, List.getElem?_cons_zero, cmp_eq, lift, ifmt_runs hr ht]
  have : decide (4096 * (t : Int) = 32768) = decide (t = 8) := by simp only [decide_eq_decide]; omega
  rw [this]; rfl
end
end Mine

end
section
open PySem PySem.W PySem.Calls PyProof.Rows
set_option Elab.async false
namespace Mine
/-! the sorter as files are added -/
noncomputable def hpA (n : Nat) (p : Nat → Int) (s : Nat → List Int) : List AO :=
  .sorter (.ref 1) .none (.int 0) (.int 0) :: .dict false ([((0 : Int), AV.ref 2), (1, .ref 4), (2, .ref 6), (3, .ref 8), (4, .ref 10)].take n) ::
  [AO.node (.int 0) (.int (p 0)) (.ref 3), .list ((s 0).map .int), .node (.int 1) (.int (p 1)) (.ref 5), .list ((s 1).map .int), .node (.int 2) (.int (p 2)) (.ref 7), .list ((s 2).map .int),
  .node (.int 3) (.int (p 3)) (.ref 9), .list ((s 3).map .int), .node (.int 4) (.int (p 4)) (.ref 11), .list ((s 4).map .int)].take (2 * n)
noncomputable def updS (s : Nat → List Int) (i : Nat) (v : List Int) : Nat → List Int := fun j => if j = i then v else s j
theorem new_sorter (p : Nat → Int) (s : Nat → List Int) : gClass (.part []) qIns [] [] = some (.ref 0, hpA 0 p s) := rfl
section
variable {n k : Nat} {p : Nat → Int} {s : Nat → List Int} {loc : List (Option AV)}
theorem five {P : Nat → Nat → Prop} (hn : n ≤ 5) (hk : k < n) (h10 : P 1 0) (h20 : P 2 0) (h21 : P 2 1) (h30 : P 3 0) (h31 : P 3 1) (h32 : P 3 2) (h40 : P 4 0) (h41 : P 4 1) (h42 : P 4 2) (h43 : P 4 3) (h50 : P 5 0) (h51 : P 5 1) (h52 : P 5 2) (h53 : P 5 3) (h54 : P 5 4) : P n k := by
  match n, k, hn, hk with
  | 1, 0, _, _ => exact h10
  | 2, 0, _, _ => exact h20
  | 2, 1, _, _ => exact h21
  | 3, 0, _, _ => exact h30
  | 3, 1, _, _ => exact h31
  | 3, 2, _, _ => exact h32
  | 4, 0, _, _ => exact h40
  | 4, 1, _, _ => exact h41
  | 4, 2, _, _ => exact h42
  | 4, 3, _, _ => exact h43
  | 5, 0, _, _ => exact h50
  | 5, 1, _, _ => exact h51
  | 5, 2, _, _ => exact h52
  | 5, 3, _, _ => exact h53
  | 5, 4, _, _ => exact h54
theorem gni_old (hn : n ≤ 5) (hk : k < n) : qGni [.ref 0, .int (k : Nat)] (hpA n p s) = some (.ref (2 + 2 * k), hpA n p s) :=
  five (P := fun n k => qGni [.ref 0, .int (k : Nat)] (hpA n p s) = some (.ref (2 + 2 * k), hpA n p s)) hn hk rfl rfl rfl rfl rfl rfl rfl rfl rfl rfl rfl rfl rfl rfl rfl
theorem putA {v : Int} (hn : n ≤ 5) (hk : k < n) : pPutN 1 (.int v) (.ref (2 + 2 * k)) ⟨loc, hpA n p s⟩ = some ((), ⟨loc, hpA n (upd p k v) s⟩) :=
  five (P := fun n k => pPutN 1 (.int v) (.ref (2 + 2 * k)) ⟨loc, hpA n p s⟩ = some ((), ⟨loc, hpA n (upd p k v) s⟩)) hn hk rfl rfl rfl rfl rfl rfl rfl rfl rfl rfl rfl rfl rfl rfl rfl
theorem getA (hn : n ≤ 5) (hk : k < n) : pGetN 1 (.ref (2 + 2 * k)) ⟨loc, hpA n p s⟩ = some (.int (p k), ⟨loc, hpA n p s⟩) :=
  five (P := fun n k => pGetN 1 (.ref (2 + 2 * k)) ⟨loc, hpA n p s⟩ = some (.int (p k), ⟨loc, hpA n p s⟩)) hn hk rfl rfl rfl rfl rfl rfl rfl rfl rfl rfl rfl rfl rfl rfl rfl
theorem getsA (hn : n ≤ 5) (hk : k < n) : pGetN 2 (.ref (2 + 2 * k)) ⟨loc, hpA n p s⟩ = some (.ref (3 + 2 * k), ⟨loc, hpA n p s⟩) :=
  five (P := fun n k => pGetN 2 (.ref (2 + 2 * k)) ⟨loc, hpA n p s⟩ = some (.ref (3 + 2 * k), ⟨loc, hpA n p s⟩)) hn hk rfl rfl rfl rfl rfl rfl rfl rfl rfl rfl rfl rfl rfl rfl rfl
theorem atA (hn : n ≤ 5) (hk : k < n) : (hpA n p s)[3 + 2 * k]? = some (.list ((s k).map .int)) :=
  five (P := fun n k => (hpA n p s)[3 + 2 * k]? = some (.list ((s k).map .int))) hn hk rfl rfl rfl rfl rfl rfl rfl rfl rfl rfl rfl rfl rfl rfl rfl
theorem setA {l : List Int} (hn : n ≤ 5) (hk : k < n) : (hpA n p s).set (3 + 2 * k) (.list (l.map .int)) = hpA n p (updS s k l) :=
  five (P := fun n k => (hpA n p s).set (3 + 2 * k) (.list (l.map .int)) = hpA n p (updS s k l)) hn hk rfl rfl rfl rfl rfl rfl rfl rfl rfl rfl rfl rfl rfl rfl rfl
theorem gni_new (hn : n < 5) (hp0 : p n = 0) (hs0 : s n = []) : qGni [.ref 0, .int (n : Nat)] (hpA n p s) = some (.ref (2 + 2 * n), hpA (n + 1) p s) := by
  have e : hpA (n + 1) p s = hpA (n + 1) (upd p n 0) (updS s n []) := by
    have e1 : upd p n 0 = p := by funext j; unfold upd; split <;> simp_all
    have e2 : updS s n [] = s := by funext j; unfold updS; split <;> simp_all
    rw [e1, e2]
  rw [e]
  match n, hn with
  | 0, _ => rfl
  | 1, _ => rfl
  | 2, _ => rfl
  | 3, _ => rfl
  | 4, _ => rfl
theorem appA {x : Int} (hn : n ≤ 5) (hk : k < n) (hl : (s k).length < 900) : pAppend [.ref (3 + 2 * k), .int x] ⟨loc, hpA n p s⟩ = some (.none, ⟨loc, hpA n p (updS s k (s k ++ [x]))⟩) := by
  simp only [pAppend, atA hn hk]
  rw [if_pos (by simp; omega)]
  have : (s k).map AV.int ++ [AV.int x] = (s k ++ [x]).map AV.int := by simp
  rw [this, setA hn hk]
theorem unlA (hn : n ≤ 5) : (hpA n p s).map AO.unl = hpA n p s := by
  match n, hn with
  | 0, _ => rfl
  | 1, _ => rfl
  | 2, _ => rfl
  | 3, _ => rfl
  | 4, _ => rfl
  | 5, _ => rfl
noncomputable def addS (s : Nat → List Int) (n : Nat) (l : List Int) : Nat → List Int := fun k => if (k : Int) ∈ l then s k ++ [(n : Int)] else s k
theorem addS_step {l : List Int} {i k m : Nat} (hd : l.Nodup) (h : l[i]? = some (k : Int)) : addS s m (l.take i) k = s k ∧ updS (addS s m (l.take i)) k (s k ++ [(m : Int)]) = addS s m (l.take (i + 1)) := by
  have hn := take_nodup_not hd h
  refine ⟨if_neg hn, ?_⟩
  funext j
  unfold updS addS
  rw [List.take_add_one, h]
  simp only [Option.toList_some, List.mem_append, List.mem_singleton]
  by_cases hj : j = k
  · subst hj
    rw [if_pos rfl, if_pos (.inr rfl)]
  · rw [if_neg hj]
    have : ¬ (j : Int) = (k : Int) := by omega
    simp only [this, or_false]
theorem isSoA {n : Nat} : isSo (.ref 0) ⟨loc, hpA n p s⟩ = true := rfl
theorem isLA (hn : n ≤ 5) (hk : k < n) : isL (.ref (3 + 2 * k)) ⟨loc, hpA n p s⟩ = true := by
  simp only [isL, atA hn hk]
noncomputable def addIn : AM AF :=
  (andThen
    (bnd
      (bnd (pLoc 0) fun ov σ =>
        if isSo ov σ = true then
          bnd (bnd (pLoc 4) fun v => bnd (ok []) fun l => ok (v :: l))
            (fun vs => lift qGni (ov :: vs)) σ
        else none)
      fun v => bnd (pStore 5 v) fun x => ok AF.next)
    (bnd
      (bnd (bnd (pLoc 5) (pGetN 2)) fun ov σ =>
        if isL ov σ = true then
          bnd (bnd (pLoc 1) fun v => bnd (ok []) fun l => ok (v :: l))
            (fun vs => pAppend (ov :: vs)) σ
        else none)
      fun x => ok AF.next))
theorem add_runs {W : List Int} (hn : n < 5) (hW : ∀ x ∈ W, 0 ≤ x ∧ x < n) (hd : W.Nodup) (hl : W.length ≤ 4) (hp0 : p n = 0) (hs0 : s n = []) (hsl : ∀ k, (s k).length < 800) :
    qAdd (.ref 0 :: .int (n : Nat) :: W.map .int) (hpA n p s) = some (.none, hpA (n + 1) (upd p n W.length) (addS s n W)) := by
  have g1 : ∀ loc n p s, pGetS 1 (.ref 0) ⟨loc, hpA n p s⟩ = some (.none, ⟨loc, hpA n p s⟩) := fun _ _ _ _ => rfl
  have is0 : pCmpA CmpOp.IsNot .none .none = ok (.bool false) := rfl
  have it : ∀ σ, pIter (.tup W) σ = some (.items (W.map .int), σ) := fun _ => rfl
  have le : ∀ σ, pLen [.tup W] σ = some (.int W.length, σ) := fun σ => by
    show (if W.length < 100000 then some (AV.int W.length, σ) else none) = _
    rw [if_pos (by omega)]
  obtain ⟨σ', e1, o4, o5, rfl⟩ := for_ind (src := .items (W.map .int)) (l := W.map .int) (st := pStore 4) (n := (hpA (n + 1) (upd p n W.length) s).length) (f := addIn)
    (P := fun i σ => ∃ o4 o5, σ = ⟨[some (.ref 0), some (.int (n : Nat)), some (.tup W), some (.ref (2 + 2 * n)), o4, o5], hpA (n + 1) (upd p n W.length) (addS s n (W.take i))⟩) (fun i σ _ => rfl) (by
      rintro i v σ hv ⟨o4, o5, rfl⟩
      obtain ⟨x, hx, rfl⟩ := map_int_at hv
      have hx5 := hW x (List.mem_of_getElem? hx)
      obtain ⟨k, rfl⟩ : ∃ k : Nat, x = k := ⟨x.toNat, by omega⟩
      have hk : k < n + 1 := by omega
      obtain ⟨a1, a2⟩ := addS_step (s := s) (m := n) hd hx
      have hlen : (addS s n (W.take i) k).length < 900 := by rw [a1]; have := hsl k; omega
      refine ⟨_, ⟨[some (.ref 0), some (.int (n : Nat)), some (.tup W), some (.ref (2 + 2 * n)), some (.int k), some (.ref (2 + 2 * k))], hpA (n + 1) (upd p n W.length) (addS s n (W.take (i + 1)))⟩, rfl, ?_, some (.int k), _, rfl⟩
      rw [← a2]
      unfold addIn
      simp only [andThen, bnd, ok, pLoc, pStore, List.set_cons_succ, List.set_cons_zero, List.getElem?_cons_succ, List.getElem?_cons_zero, if_true, lift, isSoA, gni_old (show n + 1 ≤ 5 by omega) hk, getsA (show n + 1 ≤ 5 by omega) hk, isLA (show n + 1 ≤ 5 by omega) hk, appA (show n + 1 ≤ 5 by omega) hk hlen, a1]) 64 0
    ⟨[some (.ref 0), some (.int (n : Nat)), some (.tup W), some (.ref (2 + 2 * n)), none, none], hpA (n + 1) (upd p n W.length) s⟩ (by simp; omega) (by omega) ⟨none, none, by
      have : addS s n (W.take 0) = s := by funext j; simp [addS]
      rw [this]⟩
  rw [List.length_map, List.take_length] at e1
  have hrun : finish (fAdd ⟨[some (.ref 0), some (.int (n : Nat)), some (.tup W), none, none, none], hpA n p s⟩) = some (.none, hpA (n + 1) (upd p n W.length) (addS s n W)) := by
    show finish (andThen _ (andThen _ (andThen _ (bnd _ fun src => AF.unlocked fun σ => aFor src false σ.hp.length (pStore 4) addIn 64 0 σ))) _) = _
    have u0 : (0 : Int) + W.length = W.length := by omega
    simp only [andThen, bnd, ok, pLoc, pStore, List.set_cons_succ, List.set_cons_zero, List.getElem?_cons_succ, List.getElem?_cons_zero, pBool, if_true, if_false, Bool.false_eq_true, g1, is0, it, le, lift, isSoA, gni_new hn hp0 hs0, getA (show n + 1 ≤ 5 by omega) (show n < n + 1 by omega), hp0, int_gadd, u0, putA (show n + 1 ≤ 5 by omega) (show n < n + 1 by omega), AF.unlocked, e1, unlock, unlA (show n + 1 ≤ 5 by omega)]
    rfl
  unfold qAdd runRest
  rw [if_pos (by simp; omega)]
  show (match intsOf (W.map AV.int) with | some l => _ | none => _) = _
  rw [intsOf_map]
  exact hrun
end
end Mine

end
section
open PySem PySem.W PySem.Calls PyProof.Rows
set_option Elab.async false
namespace Mine
/-! comprehensions -/
theorem comp_go {src : Src} {l : List AV} {t : AM Bool} {f : AM AV} {loc : List (Option AV)} {hp : List AO} {T : AV → Bool} {F : AV → AV} (hn : ∀ o i, nxt src i ⟨o :: loc, hp⟩ = some l[i]?)
    (ht : ∀ v ∈ l, t ⟨some v :: loc, hp⟩ = some (T v, ⟨some v :: loc, hp⟩)) (hf : ∀ v ∈ l, T v = true → f ⟨some v :: loc, hp⟩ = some (F v, ⟨some v :: loc, hp⟩)) :
    ∀ (fuel i : Nat) (acc : List AV) (o : Option AV), l.length < fuel + i → i ≤ l.length → acc.length ≤ i → l.length < 1000 → ∃ o', aComp t f src fuel i acc ⟨o :: loc, hp⟩ = some (acc ++ ((l.drop i).filter T).map F, ⟨o' :: loc, hp⟩) := by
  intro fuel
  induction fuel with
  | zero => intro i acc o h1 h2 _ _; omega
  | succ fuel ih =>
    intro i acc o h1 h2 h3 h4
    rw [aComp]
    dsimp only
    rw [hn]
    cases hl : l[i]? with
    | none =>
      have : i = l.length := by rw [List.getElem?_eq_none_iff] at hl; omega
      exact ⟨o, by simp [this]⟩
    | some v =>
      obtain ⟨hi, hv⟩ := List.getElem?_eq_some_iff.mp hl
      have hm : v ∈ l := List.mem_of_getElem? hl
      have hdrop : l.drop i = v :: l.drop (i + 1) := by rw [List.drop_eq_getElem_cons hi, hv]
      have t1 := ht v hm
      cases hT : T v with
      | false =>
        obtain ⟨o', e⟩ := ih (i + 1) acc (some v) (by omega) (by omega) (by omega) h4
        refine ⟨o', ?_⟩
        rw [hT] at t1
        simp only [bnd, pStore, List.set_cons_zero, t1, Bool.false_eq_true, if_false]
        rw [e, hdrop, List.filter_cons_of_neg (by simp [hT])]
      | true =>
        obtain ⟨o', e⟩ := ih (i + 1) (acc ++ [F v]) (some v) (by omega) (by omega) (by simp; omega) h4
        refine ⟨o', ?_⟩
        rw [hT] at t1
        simp only [bnd, pStore, List.set_cons_zero, t1, if_true, hf v hm hT]
        rw [if_pos (by omega), e, hdrop, List.filter_cons_of_pos hT]
        simp
theorem comp_runs {caps : List (Str × Nat)} {src : Src} {l : List AV} {t : AM Bool} {f : AM AV} {G : List AV → AM AV} {k : Nat} {loc loc' : List (Option AV)} {hp : List AO} (T : AV → Bool) (F : AV → AV) (hc : compLoc caps ⟨loc, hp⟩ = none :: loc') (hn : ∀ o i, nxt src i ⟨o :: loc', hp⟩ = some l[i]?)
    (ht : ∀ v ∈ l, t ⟨some v :: loc', hp⟩ = some (T v, ⟨some v :: loc', hp⟩)) (hf : ∀ v ∈ l, T v = true → f ⟨some v :: loc', hp⟩ = some (F v, ⟨some v :: loc', hp⟩)) (hl : l.length < k) (hk : l.length < 1000) :
    pComp caps t f k G src ⟨loc, hp⟩ = G ((l.filter T).map F) ⟨loc, hp.map AO.unl⟩ := by
  obtain ⟨o', e⟩ := comp_go hn ht hf k 0 [] none (by omega) (by omega) (by simp) hk
  unfold pComp
  rw [hc, e]
  simp [unlock]
theorem rng_at {n i : Nat} {v : AV} (h : ((List.range n).map fun (j : Nat) => AV.int (0 + (j : Int) * 1))[i]? = some v) : i < n ∧ v = .int (i : Nat) := by
  rw [List.getElem?_map] at h
  by_cases hi : i < n
  · rw [List.getElem?_range hi] at h
    simp at h
    exact ⟨hi, h.symm⟩
  · rw [List.getElem?_eq_none (by simp; omega)] at h
    cases h
/-! the files added -/
noncomputable def pW (W : Nat → List Int) (n : Nat) : Nat → Int := fun j => if j < n then ((W j).length : Int) else 0
noncomputable def sW (W : Nat → List Int) (n : Nat) : Nat → List Int := fun k => ((List.range n).filter fun j => decide ((k : Int) ∈ W j)).map fun (j : Nat) => (j : Int)
/-- the graph: each file waits for earlier ones -/
structure Gr (W : Nat → List Int) : Prop where
  lt : ∀ j x, x ∈ W j → 0 ≤ x ∧ x < j
  nd : ∀ j, (W j).Nodup
  le : ∀ j, j < 5 → (W j).length ≤ 4
theorem pW_step {W : Nat → List Int} {i : Nat} : upd (pW W i) i (W i).length = pW W (i + 1) := by
  funext j
  unfold upd pW
  by_cases h : j = i
  · subst h; simp
  · rw [if_neg h]
    by_cases h1 : j < i
    · rw [if_pos h1, if_pos (by omega)]
    · rw [if_neg h1, if_neg (by omega)]
theorem sW_step {W : Nat → List Int} {i : Nat} : addS (sW W i) i (W i) = sW W (i + 1) := by
  funext k
  unfold addS sW
  rw [List.range_succ, List.filter_append, List.map_append]
  split
  · rename_i h; simp [h]
  · rename_i h; simp [h]
theorem sW_len {W : Nat → List Int} {n k : Nat} : (sW W n k).length ≤ n := by
  unfold sW
  rw [List.length_map]
  exact Nat.le_trans (List.length_filter_le _ _) (by simp)
theorem sW_above {W : Nat → List Int} {n : Nat} (g : Gr W) : sW W n n = [] := by
  unfold sW
  rw [List.map_eq_nil_iff, List.filter_eq_nil_iff]
  intro j hj hm
  have hj' := List.mem_range.mp hj
  have := g.lt j n (by simpa using hm)
  omega
noncomputable def addsBody : AM AF :=
  (bnd
                (bnd (pLoc 3) fun ov σ =>
                  if isSo ov σ = true then
                    bnd
                      (bnd (pLoc 4) fun v =>
                        bnd
                          (bnd (bnd (pLoc 1) fun a => bnd (pLoc 4) fun b => pItem a b) fun v =>
                            bnd (pSplat v) fun hs => bnd (ok []) fun l => ok (hs ++ l))
                          fun l => ok (v :: l))
                      (fun vs => lift qAdd (ov :: vs)) σ
                  else none)
                fun x => ok AF.next)
theorem lli_at {W : Nat → List Int} {i : Nat} (h : i < 5) (σ : AS) : pItem (.lli [W 0, W 1, W 2, W 3, W 4]) (.int (i : Nat)) σ = some (.li (W i), σ) := by
  match i, h with
  | 0, _ => rfl
  | 1, _ => rfl
  | 2, _ => rfl
  | 3, _ => rfl
  | 4, _ => rfl
theorem splat_li {l : List Int} (h : l.length ≤ 4) (σ : AS) : pSplat (.li l) σ = some (l.map .int, σ) := by
  simp only [pSplat]
  rw [if_pos (by omega)]
/-- a list of lists, told by its items alone -/
noncomputable def Lli (ws : AV) (W : Nat → List Int) : Prop := ∀ i : Nat, i < 5 → ∀ σ, pItem ws (.int (i : Nat)) σ = some (.li (W i), σ)
theorem adds_step {W : Nat → List Int} (g : Gr W) {m fst ws : AV} (hw : Lli ws W) {i : Nat} (hi : i < 5) : addsBody ⟨[some m, some ws, some fst, some (.ref 0), some (.int (i : Nat)), none, none, none, none, none], hpA i (pW W i) (sW W i)⟩ =
    some (.next, ⟨[some m, some ws, some fst, some (.ref 0), some (.int (i : Nat)), none, none, none, none, none], hpA (i + 1) (pW W (i + 1)) (sW W (i + 1))⟩) := by
  have ha := add_runs (n := i) (p := pW W i) (s := sW W i) (W := W i) hi (g.lt i) (g.nd i) (g.le i hi) (by simp [pW]) (sW_above g) (fun k => Nat.lt_of_le_of_lt sW_len (by omega))
  rw [pW_step, sW_step] at ha
  have sp := splat_li (g.le i hi)
  unfold addsBody
  simp only [bnd, ok, pLoc, List.getElem?_cons_succ, List.getElem?_cons_zero, if_true, isSoA, hw i hi, sp, List.append_nil, lift, ha]
theorem adds_run {W : Nat → List Int} (g : Gr W) {m fst ws : AV} (hw : Lli ws W) {n : Nat} : ∃ o4, aFor (.items ((List.range 5).map fun (j : Nat) => AV.int (0 + (j : Int) * 1))) false n (pStore 4) addsBody 64 0
      ⟨[some m, some ws, some fst, some (.ref 0), none, none, none, none, none, none], hpA 0 (pW W 0) (sW W 0)⟩ =
    some (.next, ⟨[some m, some ws, some fst, some (.ref 0), o4, none, none, none, none, none], hpA 5 (pW W 5) (sW W 5)⟩) := by
  obtain ⟨σ', e1, o4, rfl⟩ := for_ind (src := .items ((List.range 5).map fun (j : Nat) => AV.int (0 + (j : Int) * 1))) (l := (List.range 5).map fun (j : Nat) => AV.int (0 + (j : Int) * 1)) (st := pStore 4) (n := n) (f := addsBody)
    (P := fun i σ => ∃ o4, σ = ⟨[some m, some ws, some fst, some (.ref 0), o4, none, none, none, none, none], hpA i (pW W i) (sW W i)⟩) (fun i σ _ => rfl) (by
      rintro i v σ hv ⟨o4, rfl⟩
      obtain ⟨hi, rfl⟩ := rng_at hv
      exact ⟨_, _, rfl, adds_step g hw hi, _, rfl⟩) 64 0 _ (by simp) (by simp) ⟨none, rfl⟩
  rw [List.length_map, List.length_range] at e1
  exact ⟨o4, e1⟩
/-! prepare: the first ready files -/
noncomputable def rdy0 (p : Nat → Int) : List Int := ((List.range 5).filter fun i => decide (p i = 0)).map fun (i : Nat) => (i : Int)
noncomputable def hpL (p : Nat → Int) (s : Nat → List Int) : List AO := (hpA 5 p s).set 1 (.dict true [(0, .ref 2), (1, .ref 4), (2, .ref 6), (3, .ref 8), (4, .ref 10)])
theorem comp_rdy {p : Nat → Int} {s : Nat → List Int} {loc : List (Option AV)} : pComp [] (bnd (bnd (pLoc 0) (pGetN 1)) fun a => bnd (ok (AV.int 0)) fun b => bnd (pCmpA CmpOp.Eq a b) pBool) (bnd (pLoc 0) (pGetN 0)) 40 pNewList (.mvals 1 5) ⟨loc, hpL p s⟩ =
    some (.ref 12, ⟨loc, hpA 5 p s ++ [.list ((rdy0 p).map .int)]⟩) := by
  have hT : ∀ i, i < 5 → ∀ loc, (bnd (bnd (pLoc 0) (pGetN 1)) fun a => bnd (ok (AV.int 0)) fun b => bnd (pCmpA CmpOp.Eq a b) pBool) ⟨some (.ref (2 + 2 * i)) :: loc, hpL p s⟩ = some (decide (p i = 0), ⟨some (.ref (2 + 2 * i)) :: loc, hpL p s⟩) := by
    intro i hi loc
    match i, hi with
    | 0, _ => rfl
    | 1, _ => rfl
    | 2, _ => rfl
    | 3, _ => rfl
    | 4, _ => rfl
  have hF : ∀ i, i < 5 → ∀ loc, (bnd (pLoc 0) (pGetN 0)) ⟨some (.ref (2 + 2 * i)) :: loc, hpL p s⟩ = some (.int (i : Nat), ⟨some (.ref (2 + 2 * i)) :: loc, hpL p s⟩) := by
    intro i hi loc
    match i, hi with
    | 0, _ => rfl
    | 1, _ => rfl
    | 2, _ => rfl
    | 3, _ => rfl
    | 4, _ => rfl
  rw [comp_runs (l := (List.range 5).map fun i => AV.ref (2 + 2 * i)) (fun v => match v with | .ref k => decide (p ((k - 2) / 2) = 0) | _ => false) (fun v => match v with | .ref k => AV.int (((k - 2) / 2 : Nat) : Int) | _ => .none) rfl
    (by
      intro o i
      match i with
      | 0 => rfl
      | 1 => rfl
      | 2 => rfl
      | 3 => rfl
      | 4 => rfl
      | i + 5 => rfl)
    (by
      intro v hv
      obtain ⟨i, hi, rfl⟩ := List.mem_map.mp hv
      have h5 := List.mem_range.mp hi
      dsimp only
      rw [show (2 + 2 * i - 2) / 2 = i by omega]
      exact hT i h5 _)
    (by
      intro v hv _
      obtain ⟨i, hi, rfl⟩ := List.mem_map.mp hv
      have h5 := List.mem_range.mp hi
      dsimp only
      rw [show (2 + 2 * i - 2) / 2 = i by omega]
      exact hF i h5 _) (by simp) (by simp)]
  have e1 : (((List.range 5).map fun i => AV.ref (2 + 2 * i)).filter (fun v => match v with | .ref k => decide (p ((k - 2) / 2) = 0) | _ => false)).map (fun v => match v with | .ref k => AV.int (((k - 2) / 2 : Nat) : Int) | _ => .none) = (rdy0 p).map .int := by
    rw [List.filter_map, List.map_map]
    unfold rdy0
    rw [List.map_map]
    have a1 : ∀ i : Nat, (2 + 2 * i - 2) / 2 = i := fun i => by omega
    have f1 : ((fun v => match v with | .ref k => decide (p ((k - 2) / 2) = 0) | _ => false) ∘ fun i => AV.ref (2 + 2 * i)) = fun i => decide (p i = 0) := by
      funext i; simp only [Function.comp, a1]
    have f2 : ((fun v => match v with | .ref k => AV.int (((k - 2) / 2 : Nat) : Int) | _ => .none) ∘ fun i => AV.ref (2 + 2 * i)) = (AV.int ∘ fun (i : Nat) => (i : Int)) := by
      funext i; simp only [Function.comp, a1]
    rw [f1, f2]
  rw [e1]
  unfold pNewList
  rw [if_pos]
  · rfl
  · rw [List.length_map]
    unfold rdy0
    rw [List.length_map]
    exact Nat.lt_of_le_of_lt (List.length_filter_le _ _) (by simp)
theorem hpA_S {p : Nat → Int} {s : Nat → List Int} {loc : List (Option AV)} : pPutS 1 (.ref 12) (.ref 0) ⟨loc, hpA 5 p s ++ [.list ((rdy0 p).map .int)]⟩ = some ((), ⟨loc, hpS p s (rdy0 p) 0 0 []⟩) := rfl
end Mine

end
section
open PySem PySem.W PySem.Calls PyProof.Rows
set_option Elab.async false
namespace Mine
theorem for_indC {src : Src} {l : List AV} {st : AV → AM Unit} {f : AM AF} {n : Nat} {P : Nat → AS → Prop} (hn : ∀ i σ, P i σ → nxt src i σ = some l[i]?)
    (hs : ∀ i v σ, l[i]? = some v → P i σ → ∃ σ₁ σ' fl, st v σ = some ((), σ₁) ∧ f σ₁ = some (fl, σ') ∧ (fl = .next ∨ fl = .cont) ∧ P (i + 1) σ') :
    ∀ (fuel i : Nat) (σ : AS), l.length < fuel + i → i ≤ l.length → P i σ → ∃ σ', aFor src false n st f fuel i σ = some (.next, σ') ∧ P l.length σ' := by
  intro fuel
  induction fuel with
  | zero => intro i σ h1 h2 _; omega
  | succ fuel ih =>
    intro i σ h1 h2 hP
    rw [aFor]
    dsimp only
    rw [hn i σ hP]
    cases hl : l[i]? with
    | none =>
      have : i = l.length := by rw [List.getElem?_eq_none_iff] at hl; omega
      exact ⟨σ, rfl, this ▸ hP⟩
    | some v =>
      obtain ⟨σ₁, σ', fl, e1, e2, hfl, hP'⟩ := hs i v σ hl hP
      have hi : i < l.length := (List.getElem?_eq_some_iff.mp hl).1
      obtain ⟨σ₂, e3, hP₂⟩ := ih (i + 1) σ' (by omega) (by omega) hP'
      refine ⟨σ₂, ?_, hP₂⟩
      rcases hfl with rfl | rfl
      · simp only [bnd, e1, e2, turnEnd, Bool.false_eq_true, if_false]
        exact e3
      · simp only [bnd, e1, e2, turnEnd, Bool.false_eq_true, if_false]
        exact e3
/-! the search for a cycle -/
noncomputable abbrev En := Nat × Nat × List Int
noncomputable def stk : List En → List AV
  | [] => []
  | r :: rs => stk rs ++ [.int (r.1 : Nat)]
noncomputable def itk : List En → List AV
  | [] => []
  | r :: rs => itk rs ++ [.ref (r.2.1 + 17)]
noncomputable def n2d : List En → List (Int × AV)
  | [] => []
  | r :: rs => n2d rs ++ [((r.1 : Int), .int (rs.length : Nat))]
theorem stk_len : ∀ rs, (stk rs).length = rs.length
  | [] => rfl
  | r :: rs => by simp [stk, stk_len rs]
theorem itk_len : ∀ rs, (itk rs).length = rs.length
  | [] => rfl
  | r :: rs => by simp [itk, itk_len rs]
theorem n2d_len : ∀ rs, (n2d rs).length = rs.length
  | [] => rfl
  | r :: rs => by simp [n2d, n2d_len rs]
theorem n2d_key : ∀ {rs : List En} {q : Int × AV}, q ∈ n2d rs → ∃ r ∈ rs, q.1 = (r.1 : Int)
  | r :: rs, q, h => by
    rw [n2d, List.mem_append] at h
    rcases h with h | h
    · obtain ⟨r', h1, h2⟩ := n2d_key h
      exact ⟨r', .tail _ h1, h2⟩
    · simp at h; subst h; exact ⟨r, .head _, rfl⟩
noncomputable def hM (p : Nat → Int) (s : Nat → List Int) (rd : List Int) (a b : List AV) (seen : List Int) (d : List (Int × AV)) (ms : List AO) : List AO :=
  .sorter (.ref 1) (.ref 12) (.int 0) (.int 0) :: .dict true [(0, .ref 2), (1, .ref 4), (2, .ref 6), (3, .ref 8), (4, .ref 10)] ::
  .node (.int 0) (.int (p 0)) (.ref 3) :: .list ((s 0).map .int) :: .node (.int 1) (.int (p 1)) (.ref 5) :: .list ((s 1).map .int) :: .node (.int 2) (.int (p 2)) (.ref 7) :: .list ((s 2).map .int) ::
  .node (.int 3) (.int (p 3)) (.ref 9) :: .list ((s 3).map .int) :: .node (.int 4) (.int (p 4)) (.ref 11) :: .list ((s 4).map .int) :: .list (rd.map .int) ::
  .list a :: .list b :: .set seen :: .dict false d :: ms
noncomputable def sF (p : Nat → Int) (s : Nat → List Int) (rd : List Int) (o : Option AV) (rs : List En) (seen : List Int) (ms : List AO) : AS :=
  ⟨[some (.ref 0), some (.ref 1), some (.ref 13), some (.ref 14), some (.ref 15), some (.ref 16), o], hM p s rd (stk rs) (itk rs) seen (n2d rs) ms⟩
noncomputable def fcIn : AM AF :=
  (bnd (bnd (pLoc 3) pLast) fun v σ =>
                                match pNextM v σ with
                                | some (some u, σ') =>
                                  bnd (pStore 6 u) (fun x => ok AF.brk) σ'
                                | some (none, σ') =>
                                  andThen
                                    (bnd (pLoc 5) fun a =>
                                      bnd
                                        (bnd (pLoc 2) fun ov σ =>
                                          if isL ov σ = true then bnd (ok []) (fun vs => pPop (ov :: vs)) σ else none)
                                        fun b => bnd (pDel a b) fun x => ok AF.next)
                                    (bnd
                                      (bnd (pLoc 3) fun ov σ =>
                                        if isL ov σ = true then bnd (ok []) (fun vs => pPop (ov :: vs)) σ else none)
                                      fun x => ok AF.next)
                                    σ'
                                | none => none)
noncomputable def fcW : AM AF :=
  (andThen
                            (bnd
                              (bnd (pLoc 6) fun a =>
                                bnd (pLoc 4) fun b => bnd (pCmpA CmpOp.In a b) pBool)
                              fun b =>
                              if b = true then
                                bnd
                                  (bnd (pLoc 6) fun a =>
                                    bnd (pLoc 5) fun b => bnd (pCmpA CmpOp.In a b) pBool)
                                  fun b => if b = true then no else ok AF.next
                              else
                                andThen
                                  (bnd
                                    (bnd (pLoc 4) fun ov σ =>
                                      if isS ov σ = true then
                                        bnd
                                          (bnd (pLoc 6) fun v =>
                                            bnd (ok []) fun l => ok (v :: l))
                                          (fun vs => pAdd (ov :: vs)) σ
                                      else none)
                                    fun x => ok AF.next)
                                  (andThen
                                    (bnd
                                      (bnd (pLoc 3) fun ov σ =>
                                        if isL ov σ = true then
                                          bnd
                                            (bnd
                                              (bnd
                                                (bnd
                                                  (bnd (pLoc 1) fun a =>
                                                    bnd (pLoc 6) fun b => pItem a b)
                                                  (pGetN 2))
                                                pMeth)
                                              fun v => bnd (ok []) fun l => ok (v :: l))
                                            (fun vs => pAppend (ov :: vs)) σ
                                        else none)
                                      fun x => ok AF.next)
                                    (andThen
                                      (bnd (bnd (bnd (pLoc 2) fun v => bnd (ok []) fun l => ok (v :: l)) pLen)
                                        fun v =>
                                        bnd (pLoc 5) fun a =>
                                          bnd (pLoc 6) fun b =>
                                            bnd (pSetItem v a b) fun x => ok AF.next)
                                      (bnd
                                        (bnd (pLoc 2) fun ov σ =>
                                          if isL ov σ = true then
                                            bnd
                                              (bnd (pLoc 6) fun v =>
                                                bnd (ok []) fun l => ok (v :: l))
                                              (fun vs => pAppend (ov :: vs)) σ
                                          else none)
                                        fun x => ok AF.next))))
                            fun σ =>
                            aWhile false σ.hp.length (bnd (pLoc 2) pTruth) fcIn
                              (ok AF.brk) 64 σ)
noncomputable def fcFor : AM AF :=
  (andThen
                        (bnd
                          (bnd (pLoc 6) fun a =>
                            bnd (pLoc 4) fun b => bnd (pCmpA CmpOp.In a b) pBool)
                          fun b => if b = true then ok AF.cont else ok AF.next)
                        fun σ =>
                        aWhile false σ.hp.length (bnd (ok (AV.bool true)) pTruth) fcW
                          (ok AF.next) 64 σ)
section
variable {p : Nat → Int} {s : Nat → List Int} {rd : List Int} {o : Option AV} {rs : List En} {seen : List Int} {ms : List AO} {loc : List (Option AV)}
structure StOkS (s : Nat → List Int) (ms : List AO) (rs : List En) (seen : List Int) : Prop where
  at_ : ∀ r ∈ rs, r.1 < 5 ∧ ∃ pos, ms[r.2.1]? = some (.meth (3 + 2 * r.1) pos) ∧ (s r.1).drop pos = r.2.2
  nd : (rs.map fun r => r.2.1).Nodup
  dec : rs.Pairwise fun a b => b.1 < a.1
  sn : ∀ r ∈ rs, (r.1 : Int) ∈ seen
theorem StOkS.tail {r : En} (h : StOkS s ms (r :: rs) seen) {x : AO} : StOkS s (ms.set r.2.1 x) rs seen := by
  obtain ⟨h1, h2, h3, h4⟩ := h
  rw [List.map_cons, List.nodup_cons] at h2
  refine ⟨fun q hq => ?_, h2.2, (List.pairwise_cons.mp h3).2, fun q hq => h4 q (.tail _ hq)⟩
  obtain ⟨a, pos, b, c⟩ := h1 q (.tail _ hq)
  refine ⟨a, pos, ?_, c⟩
  rw [List.getElem?_set_ne]
  · exact b
  · intro e
    exact h2.1 (List.mem_map.mpr ⟨q, hq, e.symm⟩)
variable {a b : List AV} {d : List (Int × AV)} {v : Nat}
theorem atF (hv : v < 5) : (hM p s rd a b seen d ms)[3 + 2 * v]? = some (.list ((s v).map .int)) := by
  match v, hv with
  | 0, _ => rfl
  | 1, _ => rfl
  | 2, _ => rfl
  | 3, _ => rfl
  | 4, _ => rfl
theorem itemF (hv : v < 5) : pItem (.ref 1) (.int (v : Nat)) ⟨loc, hM p s rd a b seen d ms⟩ = some (.ref (2 + 2 * v), ⟨loc, hM p s rd a b seen d ms⟩) := by
  match v, hv with
  | 0, _ => rfl
  | 1, _ => rfl
  | 2, _ => rfl
  | 3, _ => rfl
  | 4, _ => rfl
theorem getF (hv : v < 5) : pGetN 2 (.ref (2 + 2 * v)) ⟨loc, hM p s rd a b seen d ms⟩ = some (.ref (3 + 2 * v), ⟨loc, hM p s rd a b seen d ms⟩) := by
  match v, hv with
  | 0, _ => rfl
  | 1, _ => rfl
  | 2, _ => rfl
  | 3, _ => rfl
  | 4, _ => rfl
theorem methF (hv : v < 5) : pMeth (.ref (3 + 2 * v)) ⟨loc, hM p s rd a b seen d ms⟩ = some (.ref (ms.length + 17), ⟨loc, hM p s rd a b seen d (ms ++ [.meth (3 + 2 * v) 0])⟩) := by
  simp only [pMeth, atF hv]
  rfl
theorem nextF {k pos : Nat} (hv : v < 5) (hm : ms[k]? = some (.meth (3 + 2 * v) pos)) : pNextM (.ref (k + 17)) ⟨loc, hM p s rd a b seen d ms⟩ =
    some (match ((s v).map AV.int)[pos]? with | some u => (some u, ⟨loc, hM p s rd a b seen d (ms.set k (.meth (3 + 2 * v) (pos + 1)))⟩) | none => (none, ⟨loc, hM p s rd a b seen d (ms.set k .dead)⟩)) := by
  have e1 : (hM p s rd a b seen d ms)[k + 17]? = some (.meth (3 + 2 * v) pos) := hm
  have e2 : ∀ x, (hM p s rd a b seen d ms).set (k + 17) x = hM p s rd a b seen d (ms.set k x) := fun _ => rfl
  simp only [pNextM, e1, atF hv, e2]
  cases ((s v).map AV.int)[pos]? <;> rfl
theorem lastF {x : AV} (hl : b.length < 900) : pLast (.ref 14) ⟨loc, hM p s rd a (b ++ [x]) seen d ms⟩ = some (x, ⟨loc, hM p s rd a (b ++ [x]) seen d ms⟩) := by
  have e1 : (hM p s rd a (b ++ [x]) seen d ms)[14]? = some (.list (b ++ [x])) := rfl
  simp only [pLast, e1, List.getLast?_append, List.getLast?_singleton, Option.some_or]
  rw [if_pos (by simp; omega)]
theorem pop13 {x : AV} (hl : a.length < 900) : pPop [.ref 13] ⟨loc, hM p s rd (a ++ [x]) b seen d ms⟩ = some (x, ⟨loc, hM p s rd a b seen d ms⟩) := by
  have e1 : (hM p s rd (a ++ [x]) b seen d ms)[13]? = some (.list (a ++ [x])) := rfl
  simp only [pPop, e1, List.getLast?_append, List.getLast?_singleton, Option.some_or]
  rw [if_pos (by simp; omega), List.dropLast_concat]
  rfl
theorem pop14 {x : AV} (hl : b.length < 900) : pPop [.ref 14] ⟨loc, hM p s rd a (b ++ [x]) seen d ms⟩ = some (x, ⟨loc, hM p s rd a b seen d ms⟩) := by
  have e1 : (hM p s rd a (b ++ [x]) seen d ms)[14]? = some (.list (b ++ [x])) := rfl
  simp only [pPop, e1, List.getLast?_append, List.getLast?_singleton, Option.some_or]
  rw [if_pos (by simp; omega), List.dropLast_concat]
  rfl
theorem dget_no {k : Int} (h : ∀ q ∈ d, q.1 ≠ k) : dget d k = none := by
  unfold dget
  rw [List.find?_eq_none.mpr (by simpa using h)]
  rfl
theorem del16 {k : Int} {x : AV} (hl : d.length < 900) (h : ∀ q ∈ d, q.1 ≠ k) : pDel (.ref 16) (.int k) ⟨loc, hM p s rd a b seen (d ++ [(k, x)]) ms⟩ = some ((), ⟨loc, hM p s rd a b seen d ms⟩) := by
  have e1 : (hM p s rd a b seen (d ++ [(k, x)]) ms)[16]? = some (.dict false (d ++ [(k, x)])) := rfl
  have e2 : (dget (d ++ [(k, x)]) k).isSome = true := by
    unfold dget
    rw [Option.isSome_map, List.find?_isSome]
    exact ⟨(k, x), by simp, by simp⟩
  have e3 : ddel (d ++ [(k, x)]) k = d := by
    unfold ddel
    rw [List.filter_append, List.filter_eq_self.mpr (by simpa using h)]
    simp
  simp only [pDel, e1, e2, e3]
  rw [if_pos (by simp; omega)]
  rfl
theorem in15 {k : Int} (hl : seen.length < 100) : pCmpA .In (.int k) (.ref 15) ⟨loc, hM p s rd a b seen d ms⟩ = some (.bool (decide (k ∈ seen)), ⟨loc, hM p s rd a b seen d ms⟩) := by
  show (if seen.length < 100 then some (AV.bool (decide (k ∈ seen)), (⟨loc, hM p s rd a b seen d ms⟩ : AS)) else none) = _
  rw [if_pos hl]
theorem in16 {k : Int} (h : ∀ q ∈ d, q.1 ≠ k) : pCmpA .In (.int k) (.ref 16) ⟨loc, hM p s rd a b seen d ms⟩ = some (.bool false, ⟨loc, hM p s rd a b seen d ms⟩) := by
  show some (AV.bool (dget d k).isSome, (⟨loc, hM p s rd a b seen d ms⟩ : AS)) = _
  rw [dget_no h]; rfl
theorem add15 {k : Int} (hl : seen.length < 100) (h : k ∉ seen) : pAdd [.ref 15, .int k] ⟨loc, hM p s rd a b seen d ms⟩ = some (.none, ⟨loc, hM p s rd a b (seen ++ [k]) d ms⟩) := by
  show (if seen.length < 100 then some (AV.none, (⟨loc, hM p s rd a b (if k ∈ seen then seen else seen ++ [k]) d ms⟩ : AS)) else none) = _
  rw [if_pos hl, if_neg h]
theorem app13 {x : AV} (hl : a.length < 900) : pAppend [.ref 13, x] ⟨loc, hM p s rd a b seen d ms⟩ = some (.none, ⟨loc, hM p s rd (a ++ [x]) b seen d ms⟩) := by
  show (if a.length < 1000 then some (AV.none, (⟨loc, hM p s rd (a ++ [x]) b seen d ms⟩ : AS)) else none) = _
  rw [if_pos (by omega)]
theorem app14 {x : AV} (hl : b.length < 900) : pAppend [.ref 14, x] ⟨loc, hM p s rd a b seen d ms⟩ = some (.none, ⟨loc, hM p s rd a (b ++ [x]) seen d ms⟩) := by
  show (if b.length < 1000 then some (AV.none, (⟨loc, hM p s rd a (b ++ [x]) seen d ms⟩ : AS)) else none) = _
  rw [if_pos (by omega)]
theorem len13 (hl : a.length < 900) : pLen [.ref 13] ⟨loc, hM p s rd a b seen d ms⟩ = some (.int (a.length : Nat), ⟨loc, hM p s rd a b seen d ms⟩) := by
  show (if a.length < 100000 then some (AV.int (a.length : Nat), (⟨loc, hM p s rd a b seen d ms⟩ : AS)) else none) = _
  rw [if_pos (by omega)]
theorem set16 {k : Int} {x : AV} (hl : d.length < 900) (h : ∀ q ∈ d, q.1 ≠ k) : pSetItem x (.ref 16) (.int k) ⟨loc, hM p s rd a b seen d ms⟩ = some ((), ⟨loc, hM p s rd a b seen (d ++ [(k, x)]) ms⟩) := by
  show (if d.length < 1000 then some ((), (⟨loc, hM p s rd a b seen (dput d k x) ms⟩ : AS)) else none) = _
  rw [if_pos (by omega)]
  unfold dput
  rw [if_neg (by
    intro e
    obtain ⟨q, hq, e⟩ := List.any_eq_true.mp e
    exact h q hq (by simpa using e))]
theorem tru13 (hl : a.length < 900) : pTruth (.ref 13) ⟨loc, hM p s rd a b seen d ms⟩ = some (decide (a ≠ []), ⟨loc, hM p s rd a b seen d ms⟩) := by
  show (if a.length < 100000 then some (decide (a ≠ []), (⟨loc, hM p s rd a b seen d ms⟩ : AS)) else none) = _
  rw [if_pos (by omega)]
theorem isL13 : isL (.ref 13) ⟨loc, hM p s rd a b seen d ms⟩ = true := rfl
theorem isL14 : isL (.ref 14) ⟨loc, hM p s rd a b seen d ms⟩ = true := rfl
theorem isS15 : isS (.ref 15) ⟨loc, hM p s rd a b seen d ms⟩ = true := rfl
/-! one step back -/
theorem fcIn_some {r : En} {pos : Nat} {u : Int} (hv : r.1 < 5) (hm : ms[r.2.1]? = some (.meth (3 + 2 * r.1) pos)) (hu : (s r.1)[pos]? = some u) (hl : rs.length < 800) :
    fcIn (sF p s rd o (r :: rs) seen ms) = some (.brk, sF p s rd (some (.int u)) (r :: rs) seen (ms.set r.2.1 (.meth (3 + 2 * r.1) (pos + 1)))) := by
  have hu' : ((s r.1).map AV.int)[pos]? = some (.int u) := by rw [List.getElem?_map, hu]; rfl
  have hil := itk_len rs
  unfold fcIn sF
  simp only [itk]
  simp only [bnd, ok, pLoc, pStore, List.set_cons_succ, List.set_cons_zero, List.getElem?_cons_succ, List.getElem?_cons_zero, lastF (show (itk rs).length < 900 by omega), nextF hv hm, hu']
theorem fcIn_none {r : En} {pos : Nat} (hv : r.1 < 5) (hm : ms[r.2.1]? = some (.meth (3 + 2 * r.1) pos)) (hu : (s r.1)[pos]? = none) (hl : rs.length < 800) (hk : ∀ q ∈ rs, q.1 ≠ r.1) :
    fcIn (sF p s rd o (r :: rs) seen ms) = some (.next, sF p s rd o rs seen (ms.set r.2.1 .dead)) := by
  have hu' : ((s r.1).map AV.int)[pos]? = none := by rw [List.getElem?_map, hu]; rfl
  have hil := itk_len rs
  have hsl := stk_len rs
  have hdl := n2d_len rs
  have hd : ∀ q ∈ n2d rs, q.1 ≠ (r.1 : Int) := by
    intro q hq e
    obtain ⟨r', h1, h2⟩ := n2d_key hq
    exact hk r' h1 (by omega)
  unfold fcIn sF
  simp only [itk, stk, n2d]
  simp only [andThen, bnd, ok, pLoc, List.getElem?_cons_succ, List.getElem?_cons_zero, if_true, lastF (show (itk rs).length < 900 by omega), nextF hv hm, hu', isL13, isL14, pop13 (show (stk rs).length < 900 by omega), pop14 (show (itk rs).length < 900 by omega), del16 (show (n2d rs).length < 900 by omega) hd]
end
end Mine

end
section
open PySem PySem.W PySem.Calls PyProof.Rows
set_option Elab.async false
namespace Mine
section
variable {p : Nat → Int} {s : Nat → List Int} {rd : List Int} {o : Option AV} {rs : List En} {seen : List Int} {ms : List AO} {loc : List (Option AV)} {n : Nat}
theorem bnd_eq {α β : Type} {f : AM α} {g : α → AM β} {σ σ' : AS} {x : α} (h : f σ = some (x, σ')) : bnd f g σ = g x σ' := by
  unfold bnd; rw [h]
theorem while_next {t : AM Bool} {f g : AM AF} {k : Nat} {σ σ₁ σ₂ : AS} (h1 : t σ = some (true, σ₁)) (h2 : f σ₁ = some (.next, σ₂)) : aWhile false n t f g (k + 1) σ = aWhile false n t f g k σ₂ := by
  rw [aWhile, bnd_eq h1, if_pos rfl, bnd_eq h2]
  rfl
theorem while_brk {t : AM Bool} {f g : AM AF} {k : Nat} {σ σ₁ σ₂ : AS} (h1 : t σ = some (true, σ₁)) (h2 : f σ₁ = some (.brk, σ₂)) : aWhile false n t f g (k + 1) σ = some (.next, σ₂) := by
  rw [aWhile, bnd_eq h1, if_pos rfl, bnd_eq h2]
  rfl
theorem while_end {t : AM Bool} {f g : AM AF} {k : Nat} {σ σ₁ : AS} (h1 : t σ = some (false, σ₁)) : aWhile false n t f g (k + 1) σ = g σ₁ := by
  rw [aWhile, bnd_eq h1, if_neg (by simp)]
noncomputable def remS : List En → Nat
  | [] => 0
  | r :: rs => r.2.2.length + remS rs
theorem drop_nil_none {l : List Int} {pos : Nat} (h : l.drop pos = []) : l[pos]? = none := by
  rw [List.drop_eq_nil_iff] at h
  exact List.getElem?_eq_none h
theorem drop_cons_some {l : List Int} {pos : Nat} {u : Int} {rem : List Int} (h : l.drop pos = u :: rem) : l[pos]? = some u ∧ l.drop (pos + 1) = rem := by
  have h1 : (l.drop pos)[0]? = some u := by rw [h]; rfl
  rw [List.getElem?_drop] at h1
  refine ⟨by simpa using h1, ?_⟩
  have : l.drop (pos + 1) = (l.drop pos).drop 1 := by rw [List.drop_drop]
  rw [this, h]; rfl
theorem back : ∀ (rs : List En) (ms : List AO) (fuel : Nat), rs.length < fuel → rs.length < 800 → StOkS s ms rs seen →
    (∃ ms', aWhile false n (bnd (pLoc 2) pTruth) fcIn (ok AF.brk) fuel (sF p s rd o rs seen ms) = some (.brk, sF p s rd o [] seen ms')) ∨
    (∃ ms' u r rs', aWhile false n (bnd (pLoc 2) pTruth) fcIn (ok AF.brk) fuel (sF p s rd o rs seen ms) = some (.next, sF p s rd (some (.int u)) (r :: rs') seen ms') ∧ StOkS s ms' (r :: rs') seen ∧ u ∈ s r.1 ∧ remS (r :: rs') + 1 ≤ remS rs ∧ (r :: rs').length ≤ rs.length) := by
  intro rs
  induction rs with
  | nil =>
    intro ms fuel hf hl h
    left
    refine ⟨ms, ?_⟩
    obtain ⟨fuel, rfl⟩ : ∃ k, fuel = k + 1 := ⟨fuel - 1, by simp at hf; omega⟩
    have t := tru13 (p := p) (s := s) (rd := rd) (seen := seen) (ms := ms) (a := []) (b := []) (d := []) (loc := [some (.ref 0), some (.ref 1), some (.ref 13), some (.ref 14), some (.ref 15), some (.ref 16), o]) (by simp)
    have hT : (bnd (pLoc 2) pTruth) (sF p s rd o [] seen ms) = some (false, sF p s rd o [] seen ms) := by
      unfold sF
      simp only [stk, itk, n2d]
      simp only [bnd, pLoc, List.getElem?_cons_succ, List.getElem?_cons_zero, t]
      simp
    rw [while_end hT]
    rfl
  | cons r rs ih =>
    intro ms fuel hf hl h
    rw [List.length_cons] at hf hl
    obtain ⟨fuel, rfl⟩ : ∃ k, fuel = k + 1 := ⟨fuel - 1, by omega⟩
    obtain ⟨hv, pos, hm, hd⟩ := h.at_ r (.head _)
    have hT : (bnd (pLoc 2) pTruth) (sF p s rd o (r :: rs) seen ms) = some (true, sF p s rd o (r :: rs) seen ms) := by
      have hsl := stk_len (r :: rs)
      rw [List.length_cons] at hsl
      have t := tru13 (p := p) (s := s) (rd := rd) (seen := seen) (ms := ms) (a := stk (r :: rs)) (b := itk (r :: rs)) (d := n2d (r :: rs)) (loc := [some (.ref 0), some (.ref 1), some (.ref 13), some (.ref 14), some (.ref 15), some (.ref 16), o]) (by omega)
      have hne : decide (stk (r :: rs) ≠ []) = true := by simp [stk]
      rw [hne] at t
      unfold sF
      simp only [bnd, pLoc, List.getElem?_cons_succ, List.getElem?_cons_zero, t]
    cases hr : r.2.2 with
    | cons u rem =>
      rw [hr] at hd
      obtain ⟨hu, hd'⟩ := drop_cons_some hd
      right
      refine ⟨ms.set r.2.1 (.meth (3 + 2 * r.1) (pos + 1)), u, (r.1, r.2.1, rem), rs, ?_, ?_, List.mem_of_getElem? hu, ?_, ?_⟩
      · have e := fcIn_some (p := p) (rd := rd) (o := o) (rs := rs) (seen := seen) hv hm hu (by omega)
        exact while_brk hT e
      · obtain ⟨h1, h2, h3, h4⟩ := h
        have tl := StOkS.tail (x := .meth (3 + 2 * r.1) (pos + 1)) ⟨h1, h2, h3, h4⟩
        refine ⟨fun q hq => ?_, ?_, ?_, ?_⟩
        · rcases List.mem_cons.mp hq with rfl | hq
          · refine ⟨hv, pos + 1, ?_, hd'⟩
            have := (List.getElem?_eq_some_iff.mp hm).1
            simp [this]
          · exact tl.at_ q hq
        · simpa using h2
        · rw [List.pairwise_cons] at h3 ⊢
          exact ⟨h3.1, h3.2⟩
        · intro q hq
          rcases List.mem_cons.mp hq with rfl | hq
          · exact h4 r (.head _)
          · exact tl.sn q hq
      · simp only [remS, hr, List.length_cons]; omega
      · simp
    | nil =>
      rw [hr] at hd
      have hk : ∀ q ∈ rs, q.1 ≠ r.1 := by
        intro q hq
        have := (List.pairwise_cons.mp h.dec).1 q hq
        omega
      have e := fcIn_none (p := p) (rd := rd) (o := o) (rs := rs) (seen := seen) hv hm (drop_nil_none hd) (by omega) hk
      have tl := h.tail (x := .dead)
      have := ih (ms.set r.2.1 .dead) fuel (by omega) (by omega) tl
      rw [while_next hT e]
      rcases this with ⟨ms', e'⟩ | ⟨ms', u, r', rs', e', h1, h2, h3, h4⟩
      · exact .inl ⟨ms', e'⟩
      · exact .inr ⟨ms', u, r', rs', e', h1, h2, by simp only [remS, hr, List.length_nil] at h3 ⊢; omega, by simp only [List.length_cons] at h4 ⊢; omega⟩
end
end Mine

end
section
open PySem PySem.W PySem.Calls PyProof.Rows
set_option Elab.async false
namespace Mine
noncomputable def fcEnt : AM AF :=
                            (bnd
                              (bnd (pLoc 6) fun a =>
                                bnd (pLoc 4) fun b => bnd (pCmpA CmpOp.In a b) pBool)
                              fun b =>
                              if b = true then
                                bnd
                                  (bnd (pLoc 6) fun a =>
                                    bnd (pLoc 5) fun b => bnd (pCmpA CmpOp.In a b) pBool)
                                  fun b => if b = true then no else ok AF.next
                              else
                                andThen
                                  (bnd
                                    (bnd (pLoc 4) fun ov σ =>
                                      if isS ov σ = true then
                                        bnd
                                          (bnd (pLoc 6) fun v =>
                                            bnd (ok []) fun l => ok (v :: l))
                                          (fun vs => pAdd (ov :: vs)) σ
                                      else none)
                                    fun x => ok AF.next)
                                  (andThen
                                    (bnd
                                      (bnd (pLoc 3) fun ov σ =>
                                        if isL ov σ = true then
                                          bnd
                                            (bnd
                                              (bnd
                                                (bnd
                                                  (bnd (pLoc 1) fun a =>
                                                    bnd (pLoc 6) fun b => pItem a b)
                                                  (pGetN 2))
                                                pMeth)
                                              fun v => bnd (ok []) fun l => ok (v :: l))
                                            (fun vs => pAppend (ov :: vs)) σ
                                        else none)
                                      fun x => ok AF.next)
                                    (andThen
                                      (bnd (bnd (bnd (pLoc 2) fun v => bnd (ok []) fun l => ok (v :: l)) pLen)
                                        fun v =>
                                        bnd (pLoc 5) fun a =>
                                          bnd (pLoc 6) fun b =>
                                            bnd (pSetItem v a b) fun x => ok AF.next)
                                      (bnd
                                        (bnd (pLoc 2) fun ov σ =>
                                          if isL ov σ = true then
                                            bnd
                                              (bnd (pLoc 6) fun v =>
                                                bnd (ok []) fun l => ok (v :: l))
                                              (fun vs => pAppend (ov :: vs)) σ
                                          else none)
                                        fun x => ok AF.next))))

theorem fcW_eq : fcW = andThen fcEnt fun σ => aWhile false σ.hp.length (bnd (pLoc 2) pTruth) fcIn (ok AF.brk) 64 σ := rfl
section
variable {p : Nat → Int} {s : Nat → List Int} {rd : List Int} {o : Option AV} {rs : List En} {seen : List Int} {ms : List AO} {loc : List (Option AV)} {n v : Nat}
theorem n2d_ne (h : ∀ r ∈ rs, r.1 ≠ v) : ∀ q ∈ n2d rs, q.1 ≠ (v : Int) := by
  intro q hq e
  obtain ⟨r', h1, h2⟩ := n2d_key hq
  exact h r' h1 (by omega)
theorem ent_seen (hs : (v : Int) ∈ seen) (hl : seen.length < 100) (h : ∀ r ∈ rs, r.1 ≠ v) : fcEnt (sF p s rd (some (.int (v : Nat))) rs seen ms) = some (.next, sF p s rd (some (.int (v : Nat))) rs seen ms) := by
  unfold fcEnt sF
  simp only [andThen, bnd, ok, pLoc, List.getElem?_cons_succ, List.getElem?_cons_zero, pBool, decide_true, if_true, if_false, Bool.false_eq_true, in15 hl, in16 (n2d_ne h), hs]
theorem ent_new (hs : (v : Int) ∉ seen) (hl : seen.length < 100) (hr : rs.length < 800) (hv : v < 5) (h : ∀ r ∈ rs, r.1 ≠ v) :
    fcEnt (sF p s rd (some (.int (v : Nat))) rs seen ms) = some (.next, sF p s rd (some (.int (v : Nat))) ((v, ms.length, s v) :: rs) (seen ++ [(v : Int)]) (ms ++ [.meth (3 + 2 * v) 0])) := by
  have hil := itk_len rs
  have hsl := stk_len rs
  have hdl := n2d_len rs
  unfold fcEnt sF
  simp only [itk, stk, n2d]
  simp only [andThen, bnd, ok, pLoc, List.getElem?_cons_succ, List.getElem?_cons_zero, pBool, decide_false, if_true, if_false, Bool.false_eq_true, in15 hl, hs, isS15, add15 hl hs, isL13, isL14, itemF hv, getF hv, methF hv, app14 (show (itk rs).length < 900 by omega), len13 (show (stk rs).length < 900 by omega), set16 (show (n2d rs).length < 900 by omega) (n2d_ne h), app13 (show (stk rs).length < 900 by omega), hsl]
noncomputable def cU (s : Nat → List Int) (seen : List Int) (i : Nat) : Nat := if (i : Int) ∈ seen then 0 else 1 + (s i).length
noncomputable def un (s : Nat → List Int) (seen : List Int) : Nat := cU s seen 0 + cU s seen 1 + cU s seen 2 + cU s seen 3 + cU s seen 4
theorem cU_step {i : Nat} : cU s (seen ++ [(v : Int)]) i = if i = v then 0 else cU s seen i := by
  unfold cU
  simp only [List.mem_append, List.mem_singleton]
  by_cases h : i = v
  · subst h; simp
  · have : ¬ (i : Int) = (v : Int) := by omega
    simp [h, this]
theorem un_step (hv : v < 5) (h : (v : Int) ∉ seen) : un s (seen ++ [(v : Int)]) + (1 + (s v).length) = un s seen := by
  have hc : cU s seen v = 1 + (s v).length := if_neg h
  unfold un
  simp only [cU_step]
  match v, hv with
  | 0, _ => simp at hc ⊢; omega
  | 1, _ => simp at hc ⊢; omega
  | 2, _ => simp at hc ⊢; omega
  | 3, _ => simp at hc ⊢; omega
  | 4, _ => simp at hc ⊢; omega
theorem StOkS.push (h : StOkS s ms rs seen) (hv : v < 5) (hlt : ∀ r ∈ rs, r.1 < v) : StOkS s (ms ++ [.meth (3 + 2 * v) 0]) ((v, ms.length, s v) :: rs) (seen ++ [(v : Int)]) := by
  obtain ⟨h1, h2, h3, h4⟩ := h
  refine ⟨fun q hq => ?_, ?_, ?_, fun q hq => ?_⟩
  · rcases List.mem_cons.mp hq with rfl | hq
    · exact ⟨hv, 0, by simp, rfl⟩
    · obtain ⟨a, pos, b, c⟩ := h1 q hq
      refine ⟨a, pos, ?_, c⟩
      have := (List.getElem?_eq_some_iff.mp b).1
      rw [List.getElem?_append_left this]; exact b
  · rw [List.map_cons, List.nodup_cons]
    refine ⟨fun hm => ?_, h2⟩
    obtain ⟨q, hq, e⟩ := List.mem_map.mp hm
    obtain ⟨a, pos, b, c⟩ := h1 q hq
    have := (List.getElem?_eq_some_iff.mp b).1
    simp at e; omega
  · rw [List.pairwise_cons]
    exact ⟨hlt, h3⟩
  · rw [List.mem_append]
    rcases List.mem_cons.mp hq with rfl | hq
    · right; simp
    · exact .inl (h4 q hq)
theorem outer (hs : ∀ i : Nat, i < 5 → ∀ u ∈ s i, (i : Int) < u ∧ u < 5) : ∀ (fuel v : Nat) (rs : List En) (seen : List Int) (ms : List AO), un s seen + remS rs < fuel → seen.length + un s seen ≤ 60 → rs.length ≤ seen.length → v < 5 → (∀ r ∈ rs, r.1 < v) → StOkS s ms rs seen →
    ∃ o' seen' ms', aWhile false n (bnd (ok (AV.bool true)) pTruth) fcW (ok AF.next) fuel (sF p s rd (some (.int (v : Nat))) rs seen ms) = some (.next, sF p s rd o' [] seen' ms') ∧ seen'.length + un s seen' ≤ 60 := by
  intro fuel
  induction fuel with
  | zero => intro v rs seen ms h1; omega
  | succ fuel ih =>
    intro v rs seen ms h1 h2 h3 hv hlt hok
    have hne : ∀ r ∈ rs, r.1 ≠ v := fun r hr => by have := hlt r hr; omega
    have hT : (bnd (ok (AV.bool true)) pTruth) (sF p s rd (some (.int (v : Nat))) rs seen ms) = some (true, sF p s rd (some (.int (v : Nat))) rs seen ms) := rfl
    have key : ∃ rs1 seen1 ms1, fcEnt (sF p s rd (some (.int (v : Nat))) rs seen ms) = some (.next, sF p s rd (some (.int (v : Nat))) rs1 seen1 ms1) ∧ un s seen1 + remS rs1 ≤ un s seen + remS rs ∧ seen1.length + un s seen1 ≤ 60 ∧ rs1.length ≤ seen1.length ∧ StOkS s ms1 rs1 seen1 := by
      by_cases hm : (v : Int) ∈ seen
      · exact ⟨rs, seen, ms, ent_seen hm (by omega) hne, by omega, h2, h3, hok⟩
      · have hu := un_step (s := s) hv hm
        refine ⟨_, _, _, ent_new hm (by omega) (by omega) hv hne, ?_, ?_, ?_, hok.push hv hlt⟩
        · simp only [remS]; omega
        · simp only [List.length_append, List.length_singleton]; omega
        · simp; omega
    obtain ⟨rs1, seen1, ms1, e1, k1, k2, k3, k4⟩ := key
    have hb := back (p := p) (s := s) (rd := rd) (o := some (.int (v : Nat))) (seen := seen1) (n := (sF p s rd (some (.int (v : Nat))) rs1 seen1 ms1).hp.length) rs1 ms1 64 (by omega) (by omega) k4
    rcases hb with ⟨ms', e⟩ | ⟨ms', u, r, rs', e, q1, q2, q3, q4⟩
    · have eW : fcW (sF p s rd (some (.int (v : Nat))) rs seen ms) = some (.brk, sF p s rd (some (.int (v : Nat))) [] seen1 ms') := by
        rw [fcW_eq]
        unfold andThen
        rw [bnd_eq e1]
        exact e
      exact ⟨_, seen1, ms', while_brk hT eW, k2⟩
    · have eW : fcW (sF p s rd (some (.int (v : Nat))) rs seen ms) = some (.next, sF p s rd (some (.int u)) (r :: rs') seen1 ms') := by
        rw [fcW_eq]
        unfold andThen
        rw [bnd_eq e1]
        exact e
      have hr5 := (q1.at_ r (.head _)).1
      have hu := hs r.1 hr5 u q2
      obtain ⟨w, rfl⟩ : ∃ w : Nat, u = w := ⟨u.toNat, by omega⟩
      rw [while_next hT eW]
      refine ih w (r :: rs') seen1 ms' (by omega) k2 (by omega) (by omega) ?_ q1
      intro q hq
      rcases List.mem_cons.mp hq with rfl | hq
      · omega
      · have := (List.pairwise_cons.mp q1.dec).1 q hq
        omega
theorem keys_nxt {i : Nat} : nxt (.mdict 1 5) i (sF p s rd o rs seen ms) = some ((List.range 5).map fun (j : Nat) => AV.int (0 + (j : Int) * 1))[i]? := by
  match i with
  | 0 => rfl
  | 1 => rfl
  | 2 => rfl
  | 3 => rfl
  | 4 => rfl
  | i + 5 => rfl
theorem all_keys (hs : ∀ i : Nat, i < 5 → ∀ u ∈ s i, (i : Int) < u ∧ u < 5) (hl : un s [] ≤ 60) : ∃ o' seen' ms', aFor (.mdict 1 5) false n (pStore 6) fcFor 64 0 (sF p s rd o [] [] []) = some (.next, sF p s rd o' [] seen' ms') := by
  obtain ⟨σ', e1, o', seen', ms', rfl, _⟩ := for_indC (src := .mdict 1 5) (l := (List.range 5).map fun (j : Nat) => AV.int (0 + (j : Int) * 1)) (st := pStore 6) (n := n) (f := fcFor)
    (P := fun i σ => ∃ o seen ms, σ = sF p s rd o [] seen ms ∧ seen.length + un s seen ≤ 60) (by
      rintro i σ ⟨o, seen, ms, rfl, _⟩
      exact keys_nxt) (by
      rintro i x σ hx ⟨o, seen, ms, rfl, hb⟩
      obtain ⟨hi, rfl⟩ := rng_at hx
      have hin := in15 (p := p) (s := s) (rd := rd) (a := stk []) (b := itk []) (d := n2d []) (seen := seen) (ms := ms) (loc := [some (.ref 0), some (.ref 1), some (.ref 13), some (.ref 14), some (.ref 15), some (.ref 16), some (.int (i : Nat))]) (k := (i : Int)) (by omega)
      by_cases hm : (i : Int) ∈ seen
      · refine ⟨sF p s rd (some (.int (i : Nat))) [] seen ms, sF p s rd (some (.int (i : Nat))) [] seen ms, .cont, rfl, ?_, .inr rfl, _, seen, ms, rfl, hb⟩
        unfold fcFor sF
        simp only [andThen, bnd, ok, pLoc, List.getElem?_cons_succ, List.getElem?_cons_zero, pBool, decide_true, if_true, hin, hm]
      · obtain ⟨o', seen', ms', e, hb'⟩ := outer (p := p) (rd := rd) (n := (sF p s rd (some (.int (i : Nat))) [] seen ms).hp.length) hs 64 i [] seen ms (by simp only [remS]; omega) hb (by simp) hi (by simp) ⟨by simp, by simp, by simp, by simp⟩
        refine ⟨sF p s rd (some (.int (i : Nat))) [] seen ms, _, .next, rfl, ?_, .inl rfl, o', seen', ms', rfl, hb'⟩
        have e0 : (bnd (bnd (pLoc 6) fun a => bnd (pLoc 4) fun b => bnd (pCmpA CmpOp.In a b) pBool) fun b => if b = true then ok AF.cont else ok AF.next) (sF p s rd (some (.int (i : Nat))) [] seen ms) = some (.next, sF p s rd (some (.int (i : Nat))) [] seen ms) := by
          unfold sF
          simp only [bnd, ok, pLoc, List.getElem?_cons_succ, List.getElem?_cons_zero, pBool, decide_false, if_false, Bool.false_eq_true, hin, hm]
        unfold fcFor andThen
        rw [bnd_eq e0]
        exact e) 64 0 (sF p s rd o [] [] []) (by simp) (by simp) ⟨o, [], [], rfl, by simpa using hl⟩
  exact ⟨o', seen', ms', e1⟩
theorem fFc_eq : fFc = andThen (bnd (bnd (pLoc 0) (pGetS 0)) fun v => bnd (pStore 1 v) fun x => ok AF.next)
      (andThen (bnd (bnd (ok []) pNewList) fun v => bnd (pStore 2 v) fun x => ok AF.next)
        (andThen (bnd (bnd (ok []) pNewList) fun v => bnd (pStore 3 v) fun x => ok AF.next)
          (andThen (bnd (bnd (ok []) pSet0) fun v => bnd (pStore 4 v) fun x => ok AF.next)
            (andThen (bnd pDict0 fun v => bnd (pStore 5 v) fun x => ok AF.next)
              (andThen (bnd (bnd (pLoc 1) pIter) fun src => AF.unlocked fun σ => aFor src false σ.hp.length (pStore 6) fcFor 64 0 σ)
                (bnd (ok AV.none) fun v => ok (AF.ret v))))))) := rfl
theorem fc_runs (hs : ∀ i : Nat, i < 5 → ∀ u ∈ s i, (i : Int) < u ∧ u < 5) (hl : un s [] ≤ 60) : settle qFc [.ref 0] (hpS p s rd 0 0 []) = some (.none, hpS p s rd 0 0 []) := by
  obtain ⟨o', seen', ms', e⟩ := all_keys (p := p) (rd := rd) (o := none) (n := (sF p s rd none [] [] []).hp.length) hs hl
  have hrun : qFc [.ref 0] (hpS p s rd 0 0 []) = some (.none, (sF p s rd o' [] seen' ms').hp.map AO.unl) := by
    have e1 : ∀ o, pIter (.ref 1) ⟨[some (.ref 0), some (.ref 1), some (.ref 13), some (.ref 14), some (.ref 15), some (.ref 16), o], hpS p s rd 0 0 [.list [], .list [], .set [], .dict false []]⟩ = some (.mdict 1 5, sF p s rd o [] [] []) := fun _ => rfl
    have e2 : (AF.unlocked fun σ => aFor (.mdict 1 5) false σ.hp.length (pStore 6) fcFor 64 0 σ) (sF p s rd none [] [] []) = some (.next, unlock (sF p s rd o' [] seen' ms')) := by
      exact bnd_eq (f := fun σ => aFor (.mdict 1 5) false σ.hp.length (pStore 6) fcFor 64 0 σ) (g := fun fl σ => some (fl, unlock σ)) e
    show finish (fFc ⟨[some (.ref 0), none, none, none, none, none, none], hpS p s rd 0 0 []⟩) = _
    rw [fFc_eq]
    have g0 : ∀ loc, pGetS 0 (.ref 0) ⟨loc, hpS p s rd 0 0 []⟩ = some (.ref 1, ⟨loc, hpS p s rd 0 0 []⟩) := fun _ => rfl
    have n1 : ∀ loc, pNewList [] ⟨loc, hpS p s rd 0 0 []⟩ = some (.ref 13, ⟨loc, hpS p s rd 0 0 [.list []]⟩) := fun _ => rfl
    have n2 : ∀ loc, pNewList [] ⟨loc, hpS p s rd 0 0 [.list []]⟩ = some (.ref 14, ⟨loc, hpS p s rd 0 0 [.list [], .list []]⟩) := fun _ => rfl
    have n3 : ∀ loc, pSet0 [] ⟨loc, hpS p s rd 0 0 [.list [], .list []]⟩ = some (.ref 15, ⟨loc, hpS p s rd 0 0 [.list [], .list [], .set []]⟩) := fun _ => rfl
    have n4 : ∀ loc, pDict0 ⟨loc, hpS p s rd 0 0 [.list [], .list [], .set []]⟩ = some (.ref 16, ⟨loc, hpS p s rd 0 0 [.list [], .list [], .set [], .dict false []]⟩) := fun _ => rfl
    simp only [andThen, bnd, ok, pLoc, pStore, List.set_cons_succ, List.set_cons_zero, List.getElem?_cons_succ, List.getElem?_cons_zero, g0, n1, n2, n3, n4, e1, e2]
    rfl
  unfold settle
  rw [hrun]
  have a1 : ((sF p s rd o' [] seen' ms').hp.map AO.unl).take (hpS p s rd 0 0 []).length = hpS p s rd 0 0 [] := rfl
  have a2 : (hpS p s rd 0 0 []).all (AO.below (hpS p s rd 0 0 []).length) = true := by
    have hi : ∀ l : List Int, (l.map AV.int).all (AV.below 13) = true := fun l => by rw [List.all_map]; simp [AV.below]
    show (hpS p s rd 0 0 []).all (AO.below 13) = true
    unfold hpS
    simp only [List.all_cons, List.all_nil, AO.below, hi]
    rfl
  dsimp only
  rw [a1, a2]
  rfl
/-! prepare -/
theorem prep_runs (hs : ∀ i : Nat, i < 5 → ∀ u ∈ s i, (i : Int) < u ∧ u < 5) (hl : un s [] ≤ 60) : qPrep [.ref 0] (hpA 5 p s) = some (.none, hpS p s (rdy0 p) 0 0 []) := by
  have g1 : ∀ loc, pGetS 1 (.ref 0) ⟨loc, hpA 5 p s⟩ = some (.none, ⟨loc, hpA 5 p s⟩) := fun _ => rfl
  have g0 : ∀ loc, pGetS 0 (.ref 0) ⟨loc, hpA 5 p s⟩ = some (.ref 1, ⟨loc, hpA 5 p s⟩) := fun _ => rfl
  have is0 : pCmpA CmpOp.IsNot .none .none = ok (.bool false) := rfl
  have pv : ∀ loc, pVals (.ref 1) ⟨loc, hpA 5 p s⟩ = some (.mvals 1 5, ⟨loc, hpL p s⟩) := fun _ => rfl
  have so : ∀ loc, isSo (.ref 0) ⟨loc, hpS p s (rdy0 p) 0 0 []⟩ = true := fun _ => rfl
  have tr : pTruth .none = ok false := rfl
  have fc := fc_runs (p := p) (rd := rdy0 p) hs hl
  have cr := comp_rdy (p := p) (s := s) (loc := [some (.ref 0), none])
  have e1 : (bnd (bnd (bnd (pLoc 0) (pGetS 0)) pVals) (pComp [] (bnd (bnd (pLoc 0) (pGetN 1)) fun a => bnd (ok (AV.int 0)) fun b => bnd (pCmpA CmpOp.Eq a b) pBool) (bnd (pLoc 0) (pGetN 0)) 40 pNewList)) ⟨[some (.ref 0), none], hpA 5 p s⟩ = some (.ref 12, ⟨[some (.ref 0), none], hpA 5 p s ++ [.list ((rdy0 p).map .int)]⟩) := by
    have e0 : (bnd (bnd (pLoc 0) (pGetS 0)) pVals) ⟨[some (.ref 0), none], hpA 5 p s⟩ = some (.mvals 1 5, ⟨[some (.ref 0), none], hpL p s⟩) := by
      simp only [bnd, pLoc, List.getElem?_cons_zero, g0, pv]
    rw [bnd_eq e0]
    exact cr
  show finish (fPrep ⟨[some (.ref 0), none], hpA 5 p s⟩) = _
  have e2 : fPrep ⟨[some (.ref 0), none], hpA 5 p s⟩ = some (.next, ⟨[some (.ref 0), some .none], hpS p s (rdy0 p) 0 0 []⟩) := by
    unfold fPrep
    have s1 : (bnd (bnd (bnd (pLoc 0) (pGetS 1)) fun a => bnd (ok AV.none) fun b => bnd (pCmpA CmpOp.IsNot a b) pBool) fun b => if b = true then no else ok AF.next) ⟨[some (.ref 0), none], hpA 5 p s⟩ = some (.next, ⟨[some (.ref 0), none], hpA 5 p s⟩) := by
      simp only [bnd, ok, pLoc, List.getElem?_cons_zero, pBool, if_false, Bool.false_eq_true, g1, is0]
    conv => lhs; unfold andThen
    rw [bnd_eq s1]
    show andThen (bnd _ _) _ _ = _
    conv => lhs; unfold andThen
    have s2 : (bnd (bnd (bnd (bnd (pLoc 0) (pGetS 0)) pVals) (pComp [] (bnd (bnd (pLoc 0) (pGetN 1)) fun a => bnd (ok (AV.int 0)) fun b => bnd (pCmpA CmpOp.Eq a b) pBool) (bnd (pLoc 0) (pGetN 0)) 40 pNewList)) fun v => bnd (pLoc 0) fun a => bnd (pPutS 1 v a) fun x => ok AF.next) ⟨[some (.ref 0), none], hpA 5 p s⟩ = some (.next, ⟨[some (.ref 0), none], hpS p s (rdy0 p) 0 0 []⟩) := by
      rw [bnd_eq e1]
      simp only [bnd, ok, pLoc, List.getElem?_cons_zero, hpA_S]
    rw [bnd_eq s2]
    simp only [bnd, ok, pLoc, pStore, List.set_cons_succ, List.set_cons_zero, List.getElem?_cons_succ, List.getElem?_cons_zero, if_true, if_false, Bool.false_eq_true, so, lift, fc, tr]
  rw [e2]; rfl
end
end Mine

end
section
open PySem PySem.W PySem.Calls PyProof.Rows
set_option Elab.async false
namespace Mine
theorem five_cases {y : Int} (h : 0 ≤ y ∧ y < 5) : y = 0 ∨ y = 1 ∨ y = 2 ∨ y = 3 ∨ y = 4 := by
  obtain ⟨n, rfl⟩ := Int.eq_ofNat_of_zero_le h.1
  have hn : n < 5 := Int.ofNat_lt.mp h.2
  match n, hn with
  | 0, _ => exact .inl rfl
  | 1, _ => exact .inr (.inl rfl)
  | 2, _ => exact .inr (.inr (.inl rfl))
  | 3, _ => exact .inr (.inr (.inr (.inl rfl)))
  | 4, _ => exact .inr (.inr (.inr (.inr rfl)))
/-! facts about the successors -/
section
variable {W : Nat → List Int}
theorem sW_mem {i : Nat} {u : Int} : u ∈ sW W 5 i ↔ 0 ≤ u ∧ u < 5 ∧ (i : Int) ∈ W u.toNat := by
  unfold sW
  rw [List.mem_map]
  constructor
  · rintro ⟨j, hj, rfl⟩
    rw [List.mem_filter, List.mem_range] at hj
    refine ⟨by omega, by omega, ?_⟩
    simpa using hj.2
  · rintro ⟨h1, h2, h3⟩
    refine ⟨u.toNat, ?_, by omega⟩
    rw [List.mem_filter, List.mem_range]
    exact ⟨by omega, by simpa using h3⟩
theorem sW_up (g : Gr W) (i : Nat) (hi : i < 5) (u : Int) (hu : u ∈ sW W 5 i) : (i : Int) < u ∧ u < 5 := by
  obtain ⟨h1, h2, h3⟩ := sW_mem.mp hu
  have := g.lt _ _ h3
  omega
theorem sW_nodup {i : Nat} : (sW W 5 i).Nodup := by
  unfold sW
  rw [List.Nodup, List.pairwise_map]
  refine List.Pairwise.imp ?_ (List.Pairwise.filter _ (List.nodup_range (n := 5)))
  intro a b hab h
  exact hab (by omega)
theorem sW_un : un (sW W 5) [] ≤ 60 := by
  have h : ∀ i, (sW W 5 i).length ≤ 5 := fun i => sW_len
  have h0 := h 0; have h1 := h 1; have h2 := h 2; have h3 := h 3; have h4 := h 4
  unfold un cU
  simp
  omega
theorem setup_prep (g : Gr W) : qPrep [.ref 0] (hpA 5 (pW W 5) (sW W 5)) = some (.none, hpS (pW W 5) (sW W 5) (rdy0 (pW W 5)) 0 0 []) := prep_runs (sW_up g) sW_un
end
/-! the spec -/
section
variable (W : Nat → List Int) (K : Nat → Int) (r : Nat → Nat)
/-- x may be done next -/
noncomputable def Av (c : List Int) (x : Int) : Prop := 0 ≤ x ∧ x < 5 ∧ x ∉ c ∧ ∀ e ∈ W x.toNat, e ∈ c
/-- and fits the kind k -/
noncomputable def Fr (c : List Int) (k : Int) (x : Int) : Prop := Av W c x ∧ K x.toNat ≠ 1 - k
noncomputable def wt (x : Int) : Int := (r x.toNat : Int) * 8 + x
noncomputable def IsMin (P : Int → Prop) (x : Int) : Prop := P x ∧ ∀ y, P y → wt r x ≤ wt r y
inductive Run : Nat → List Int → Int → List Int → Nat → Prop
  | done {c k} : Run 0 c k c 0
  | go {m c k j C F} : IsMin r (Fr W K c k) j → Run m (c ++ [j]) k C F → Run (m + 1) c k C F
  | turn {m c k j C F} : (∀ x, ¬ Fr W K c k x) → IsMin r (Fr W K c (1 - k)) j → Run m (c ++ [j]) (1 - k) C F → Run (m + 1) c k C (F + 1)
end
variable {W : Nat → List Int} {K : Nat → Int} {r : Nat → Nat}
theorem wt_inj {x y : Int} (hx : 0 ≤ x ∧ x < 5) (hy : 0 ≤ y ∧ y < 5) (h : wt r x = wt r y) : x = y := by
  unfold wt at h; omega
theorem IsMin.uniq {P : Int → Prop} {x y : Int} (hP : ∀ z, P z → 0 ≤ z ∧ z < 5) (hx : IsMin r P x) (hy : IsMin r P y) : x = y := by
  have h1 := hx.2 y hy.1
  have h2 := hy.2 x hx.1
  exact wt_inj (r := r) (hP x hx.1) (hP y hy.1) (by omega)
theorem Fr.rng {c : List Int} {k x : Int} (h : Fr W K c k x) : 0 ≤ x ∧ x < 5 := ⟨h.1.1, h.1.2.1⟩
/-- some file may always be done next -/
theorem av_some (g : Gr W) {c : List Int} : ∀ (n : Nat), n ≤ 5 → (∃ x : Int, 0 ≤ x ∧ x < n ∧ x ∉ c) → ∃ x, Av W c x := by
  intro n
  induction n with
  | zero => rintro _ ⟨x, h1, h2, _⟩; omega
  | succ n ih =>
    rintro hn ⟨x, h1, h2, h3⟩
    by_cases h : ∃ x : Int, 0 ≤ x ∧ x < n ∧ x ∉ c
    · exact ih (by omega) h
    · have hx : x = n := by
        by_cases hx : x < n
        · exact absurd ⟨x, h1, hx, h3⟩ h
        · omega
      refine ⟨x, h1, by omega, h3, fun e he => ?_⟩
      have hl := g.lt _ _ he
      by_cases hec : e ∈ c
      · exact hec
      · exact absurd ⟨e, hl.1, by omega, hec⟩ h
theorem pigeon : ∀ {l k : List Int}, l.Nodup → (∀ x ∈ l, x ∈ k) → l.length ≤ k.length
  | [], k, _, _ => by simp
  | a :: l, k, hd, hs => by
    rw [List.nodup_cons] at hd
    have ha := hs a (.head _)
    have := pigeon (l := l) (k := k.erase a) hd.2 (fun x hx => by
      have hne : x ≠ a := fun e => hd.1 (e ▸ hx)
      exact (List.mem_erase_of_ne hne).mpr (hs x (.tail _ hx)))
    rw [List.length_erase_of_mem ha] at this
    have : 0 < k.length := List.length_pos_of_mem ha
    rw [List.length_cons]; omega
/-- a file that is missing -/
theorem missing {c : List Int} (h : c.length < 5) : ∃ x : Int, 0 ≤ x ∧ x < (5 : Nat) ∧ x ∉ c := by
  refine Classical.byContradiction fun hn => ?_
  have := pigeon (l := [0, 1, 2, 3, 4]) (k := c) (by decide) (fun x hx => by
    have h5 : x = 0 ∨ x = 1 ∨ x = 2 ∨ x = 3 ∨ x = 4 := by simpa using hx
    exact Classical.byContradiction fun hx' => hn ⟨x, by omega, by omega, hx'⟩)
  simp at this
  omega
theorem av_ex (g : Gr W) {c : List Int} (h : c.length < 5) : ∃ x, Av W c x := av_some g 5 (by omega) (missing h)
theorem av_none {c : List Int} (hd : c.Nodup) (hr : ∀ x ∈ c, 0 ≤ x ∧ x < 5) (h : c.length = 5) (x : Int) : ¬ Av W c x := by
  rintro ⟨h1, h2, h3, _⟩
  have := pigeon (l := x :: c) (k := [0, 1, 2, 3, 4]) (List.nodup_cons.mpr ⟨h3, hd⟩) (fun y hy => by
    have : 0 ≤ y ∧ y < 5 := by
      rcases List.mem_cons.mp hy with rfl | hy
      · exact ⟨h1, h2⟩
      · exact hr y hy
    have := five_cases this
    simpa using this)
  simp at this
  omega
end Mine

end
section
open PySem PySem.W PySem.Calls PyProof.Rows
set_option Elab.async false
namespace Mine
theorem int_mod {a b : Int} (h : 0 < b) : pInt2 (opG Operator.Mod) (.int a) (.int b) = ok (.int (a % b)) := by
  funext σ
  show (match gMod a b with | some r => some (AV.int r, σ) | none => none) = _
  unfold gMod
  rw [if_pos (by omega), Int.fmod_eq_emod_of_nonneg _ (by omega)]
  rfl
theorem int_div {a b : Int} (h : 0 < b) (h2 : b < 1000000) : pInt2 (opG Operator.FloorDiv) (.int a) (.int b) = ok (.int (a / b)) := by
  funext σ
  show (match gDiv a b with | some r => some (AV.int r, σ) | none => none) = _
  unfold gDiv
  rw [if_pos ⟨by omega, by omega⟩, Int.fdiv_eq_ediv_of_nonneg _ (by omega)]
  rfl
/-- the modes: kinds and rights -/
structure Md (mv : AV) (t r : Nat → Nat) (K : Nat → Int) : Prop where
  at_ : ∀ j : Nat, j < 5 → ∀ σ, pItem mv (.int (j : Nat)) σ = some (.int (4096 * (t j : Int) + r j), σ)
  t16 : ∀ j, t j < 16
  r4 : ∀ j, r j < 4096
  k1 : ∀ j, (t j = 8 ↔ K j = 1)
  k0 : ∀ j, (t j = 4 ↔ K j = 0)
noncomputable def lt01 (K : Nat → Int) (k : Int) (x : Int) : Int := if K x.toNat = 1 - k then 1 else 0
noncomputable def key (K : Nat → Int) (r : Nat → Nat) (sw k x : Int) : Int := (sw + lt01 K k x) * 32768 + wt r x
noncomputable def pushB : AM AF :=
  (andThen
                            (bnd
                              (bnd
                                (bnd
                                  (bnd (pLoc 2) fun a =>
                                    bnd (pLoc 7) fun b => pInt2 (opG Operator.Add) a b)
                                  fun a => bnd (ok (AV.int 2)) fun b => pInt2 (opG Operator.Mod) a b)
                                fun a => bnd (ok (AV.int 0)) fun b => bnd (pCmpA CmpOp.Eq a b) pBool)
                              fun b =>
                              if b = true then
                                bnd
                                  (bnd
                                    (bnd (bnd (pLoc 0) fun a => bnd (pLoc 4) fun b => pItem a b)
                                      fun v => bnd (ok []) fun l => ok (v :: l))
                                    (lift qIsreg))
                                  fun v => bnd (pStore 8 v) fun x => ok AF.next
                              else
                                bnd
                                  (bnd
                                    (bnd (bnd (pLoc 0) fun a => bnd (pLoc 4) fun b => pItem a b)
                                      fun v => bnd (ok []) fun l => ok (v :: l))
                                    (lift qIsdir))
                                  fun v => bnd (pStore 8 v) fun x => ok AF.next)
                            (bnd
                              (bnd
                                (bnd (pLoc 5) fun v =>
                                  bnd
                                    (bnd
                                      (bnd
                                        (bnd
                                          (bnd (bnd (pLoc 8) pTruth) fun u =>
                                            if u = true then
                                              bnd (pLoc 7) fun a =>
                                                bnd (ok (AV.int 1)) fun b => pInt2 (opG Operator.Add) a b
                                            else pLoc 7)
                                          fun v =>
                                          bnd
                                            (bnd
                                              (bnd
                                                (bnd
                                                  (bnd (pLoc 0) fun a =>
                                                    bnd (pLoc 4) fun b => pItem a b)
                                                  fun v => bnd (ok []) fun l => ok (v :: l))
                                                (lift qImode))
                                              fun v =>
                                              bnd
                                                (bnd (pLoc 4) fun v =>
                                                  bnd (ok []) fun l => ok (v :: l))
                                                fun l => ok (v :: l))
                                            fun l => ok (v :: l))
                                        pTup)
                                      fun v => bnd (ok []) fun l => ok (v :: l))
                                    fun l => ok (v :: l))
                                (lift qPush))
                              fun x => ok AF.next))
section
variable {p : Nat → Int} {s : Nat → List Int} {rd : List Int} {np nf : Int} {h c : List Int} {mv ws : AV} {t r : Nat → Nat} {K : Nat → Int} {fst sw k : Int} {o8 o9 : Option AV} {j : Nat}
/-- the state of the main loop -/
noncomputable def sS (p : Nat → Int) (s : Nat → List Int) (rd : List Int) (np nf : Int) (h c : List Int) (mv ws : AV) (fst sw : Int) (o4 o8 o9 : Option AV) : AS :=
  ⟨[some mv, some ws, some (.int fst), some (.ref 0), o4, some (.ref 13), some (.ref 14), some (.int sw), o8, o9], hpS p s rd np nf [.list (h.map T), .list (c.map .int)]⟩
theorem pushB_runs (md : Md mv t r K) (hk : (fst + sw) % 2 = k) (hj : j < 5) (hl : h.length ≤ 50) :
    ∃ o8', pushB (sS p s rd np nf h c mv ws fst sw (some (.int (j : Nat))) o8 o9) = some (.next, sS p s rd np nf (sd (h ++ [key K r sw k j]) h.length) c mv ws fst sw (some (.int (j : Nat))) o8' o9) := by
  have hm := md.at_ j hj
  have r4 := md.r4 j
  have t16 := md.t16 j
  have i1 := fun hp => isreg_runs (hp := hp) r4 t16
  have i2 := fun hp => isdir_runs (hp := hp) r4 t16
  have i3 := fun hp => imode_runs (t := t j) (hp := hp) r4
  have k1 := md.k1 j
  have k0 := md.k0 j
  have hK : k = 0 ∨ k = 1 := by omega
  have tr : ∀ b, pTruth (.bool b) = ok b := fun _ => rfl
  have pu : ∀ x, qPush [.ref 13, T x] (hpS p s rd np nf [.list (h.map T), .list (c.map .int)]) = some (.none, hpS p s rd np nf [.list ((sd (h ++ [x]) h.length).map T), .list (c.map .int)]) := fun x => push_runs (k := 13) rfl hl
  have pt : ∀ q σ, pTup [.int q, .int ((r j : Nat) : Int), .int (j : Nat)] σ = some (T (q * 32768 + (r j : Int) * 8 + j), σ) := fun q σ => by
    unfold T
    rw [tk_of (by omega) (by omega) (by omega) (by omega)]
    rfl
  have kk : ∀ b, lt01 K k j = b → key K r sw k j = (sw + b) * 32768 + (r j : Int) * 8 + j := fun b e => by
    unfold key wt; rw [e]; simp; omega
  rcases hK with rfl | rfl
  · by_cases h8 : t j = 8
    · have e := kk 1 (by unfold lt01; simp [k1.mp h8])
      refine ⟨some (.bool true), ?_⟩
      rw [e]
      have i1' : ∀ hp, qIsreg [.int (4096 * (t j : Int) + r j)] hp = some (.bool true, hp) := fun hp => by rw [i1, decide_eq_true h8]
      unfold pushB sS
      simp only [andThen, bnd, ok, pLoc, pStore, List.set_cons_succ, List.set_cons_zero, List.getElem?_cons_succ, List.getElem?_cons_zero, int_add, cmp_eq, pBool, decide_true, if_true, int_mod (show (0 : Int) < 2 by omega), hk, hm, lift, i1', tr, i3, pt, pu]
    · have hne : ¬ K j = 1 := fun e => h8 (k1.mpr e)
      have e := kk 0 (by unfold lt01; simp [hne])
      rw [Int.add_zero] at e
      refine ⟨some (.bool false), ?_⟩
      rw [e]
      have i1' : ∀ hp, qIsreg [.int (4096 * (t j : Int) + r j)] hp = some (.bool false, hp) := fun hp => by rw [i1, decide_eq_false h8]
      unfold pushB sS
      simp only [andThen, bnd, ok, pLoc, pStore, List.set_cons_succ, List.set_cons_zero, List.getElem?_cons_succ, List.getElem?_cons_zero, int_add, cmp_eq, pBool, decide_true, if_true, if_false, Bool.false_eq_true, int_mod (show (0 : Int) < 2 by omega), hk, hm, lift, i1', tr, i3, pt, pu]
  · have n10 : ¬ (1 : Int) = 0 := by omega
    by_cases h8 : t j = 4
    · have e := kk 1 (by unfold lt01; simp [k0.mp h8])
      refine ⟨some (.bool true), ?_⟩
      rw [e]
      have i1' : ∀ hp, qIsdir [.int (4096 * (t j : Int) + r j)] hp = some (.bool true, hp) := fun hp => by rw [i2, decide_eq_true h8]
      unfold pushB sS
      simp only [andThen, bnd, ok, pLoc, pStore, List.set_cons_succ, List.set_cons_zero, List.getElem?_cons_succ, List.getElem?_cons_zero, int_add, cmp_eq, pBool, decide_false, if_true, if_false, Bool.false_eq_true, int_mod (show (0 : Int) < 2 by omega), hk, hm, lift, i1', tr, i3, pt, pu, n10]
    · have hne : ¬ K j = 0 := fun e => h8 (k0.mpr e)
      have e := kk 0 (by unfold lt01; simp [hne])
      rw [Int.add_zero] at e
      refine ⟨some (.bool false), ?_⟩
      rw [e]
      have i1' : ∀ hp, qIsdir [.int (4096 * (t j : Int) + r j)] hp = some (.bool false, hp) := fun hp => by rw [i2, decide_eq_false h8]
      unfold pushB sS
      simp only [andThen, bnd, ok, pLoc, pStore, List.set_cons_succ, List.set_cons_zero, List.getElem?_cons_succ, List.getElem?_cons_zero, int_add, cmp_eq, pBool, decide_false, if_false, Bool.false_eq_true, int_mod (show (0 : Int) < 2 by omega), hk, hm, lift, i1', tr, i3, pt, pu, n10]
/-- all ready files pushed -/
theorem pushes_run {n : Nat} {hs rd0 : List Int} {o4 : Option AV} (md : Md mv t r K) (hk : (fst + sw) % 2 = k) (hr : ∀ x ∈ rd, 0 ≤ x ∧ x < 5) (hl : hs.length + rd.length ≤ 5) (hp : Hp h) (hper : h.Perm (hs.map (key K r sw k))) :
    ∃ o4' o8' h', aFor (.items (rd.map .int)) false n (pStore 4) pushB 64 0 (sS p s rd0 np nf h c mv ws fst sw o4 o8 o9) = some (.next, sS p s rd0 np nf h' c mv ws fst sw o4' o8' o9) ∧ Hp h' ∧ h'.Perm ((hs ++ rd).map (key K r sw k)) := by
  obtain ⟨σ', e1, o4', o8', h', rfl, a1, a2⟩ := for_ind (src := .items (rd.map .int)) (l := rd.map .int) (st := pStore 4) (n := n) (f := pushB)
    (P := fun i σ => ∃ o4 o8 h', σ = sS p s rd0 np nf h' c mv ws fst sw o4 o8 o9 ∧ Hp h' ∧ h'.Perm ((hs ++ rd.take i).map (key K r sw k))) (fun i σ _ => rfl) (by
      rintro i v σ hv ⟨o4, o8, h', rfl, b1, b2⟩
      obtain ⟨x, hx, rfl⟩ := map_int_at hv
      have hx5 := hr x (List.mem_of_getElem? hx)
      have hi := (List.getElem?_eq_some_iff.mp hx).1
      obtain ⟨j, rfl⟩ : ∃ j : Nat, x = j := ⟨x.toNat, by omega⟩
      have hlen : h'.length ≤ 4 := by
        rw [b2.length_eq, List.length_map, List.length_append, List.length_take]; omega
      obtain ⟨o8', e⟩ := pushB_runs (p := p) (s := s) (rd := rd0) (np := np) (nf := nf) (h := h') (c := c) (ws := ws) (o8 := o8) (o9 := o9) md hk (show j < 5 by omega) (by omega)
      obtain ⟨d1, d2⟩ := push_hp (x := key K r sw k j) hlen b1
      refine ⟨_, _, rfl, e, _, o8', _, rfl, d1, ?_⟩
      refine d2.trans ?_
      rw [List.take_add_one, hx]
      simp only [Option.toList_some, List.map_append, List.map_cons, List.map_nil]
      rw [← List.append_assoc]
      refine List.Perm.trans ?_ (List.perm_append_singleton _ _).symm
      rw [← List.map_append]
      exact b2.cons _) 64 0 (sS p s rd0 np nf h c mv ws fst sw o4 o8 o9) (by simp; omega) (by omega) ⟨o4, o8, h, rfl, hp, by simpa using hper⟩
  rw [List.length_map, List.take_length] at a2
  exact ⟨o4', o8', h', e1, a1, a2⟩
end
end Mine

end
section
open PySem PySem.W PySem.Calls PyProof.Rows
set_option Elab.async false
namespace Mine
/-! the sorter's books -/
noncomputable def cnt (W : Nat → List Int) (c : List Int) (i : Nat) : Int := (((W i).filter fun e => decide (e ∉ c)).length : Nat)
structure Inv (W : Nat → List Int) (c hs rd : List Int) (p : Nat → Int) : Prop where
  cn : c.Nodup
  cr : ∀ x ∈ c, 0 ≤ x ∧ x < 5
  cl : ∀ x ∈ c, ∀ e ∈ W x.toNat, e ∈ c
  nd : (hs ++ rd).Nodup
  av : ∀ x, x ∈ hs ++ rd ↔ Av W c x
  pc : ∀ i : Nat, (i : Int) ∈ c → p i = -2
  ph : ∀ i : Nat, (i : Int) ∈ hs → p i = -1
  po : ∀ i : Nat, i < 5 → (i : Int) ∉ c → (i : Int) ∉ hs → p i = cnt W c i
section
variable {W : Nat → List Int} {c hs rd : List Int} {p : Nat → Int}
theorem Inv.ready (v : Inv W c hs rd p) : Inv W c (hs ++ rd) [] (outP p rd) := by
  obtain ⟨cn, cr, cl, nd, av, pc, ph, po⟩ := v
  refine ⟨cn, cr, cl, by simpa using nd, by simpa using av, ?_, ?_, ?_⟩
  · intro i hi
    have : (i : Int) ∉ rd := fun h => ((av i).mp (List.mem_append_right _ h)).2.2.1 hi
    unfold outP
    rw [if_neg this, pc i hi]
  · intro i hi
    unfold outP
    split
    · rfl
    · rename_i h
      rcases List.mem_append.mp hi with h' | h'
      · exact ph i h'
      · exact absurd h' h
  · intro i hi h1 h2
    rw [List.mem_append, not_or] at h2
    unfold outP
    rw [if_neg h2.2]
    exact po i hi h1 h2.1
theorem cnt_go {c : List Int} {j : Int} (hj : j ∉ c) : ∀ {l : List Int}, l.Nodup → (l.filter fun e => decide (e ∉ c ++ [j])).length + (if j ∈ l then 1 else 0) = (l.filter fun e => decide (e ∉ c)).length
  | [], _ => by simp
  | a :: l, hd => by
    rw [List.nodup_cons] at hd
    have ih := cnt_go hj hd.2
    by_cases ha : a = j
    · subst ha
      have h1 : decide (a ∉ c ++ [a]) = false := by simp
      have h2 : decide (a ∉ c) = true := by simpa using hj
      rw [List.filter_cons, List.filter_cons, h1, h2, if_neg (by simp), if_pos rfl, if_pos (.head _), List.length_cons]
      rw [if_neg hd.1] at ih
      omega
    · have h0 : decide (a ∉ c ++ [j]) = decide (a ∉ c) := by simp [ha]
      have hm : (j ∈ a :: l) = (j ∈ l) := by
        have : ¬ j = a := fun e => ha e.symm
        simp [this]
      rw [List.filter_cons, List.filter_cons, h0]
      simp only [hm]
      generalize (if j ∈ l then 1 else 0) = z at ih ⊢
      split <;> (try simp only [List.length_cons]) <;> omega
theorem cnt_step {i : Nat} {j : Int} (g : Gr W) (hj : j ∉ c) : cnt W (c ++ [j]) i + (if j ∈ W i then 1 else 0) = cnt W c i := by
  have := cnt_go hj (g.nd i)
  unfold cnt
  split <;> rename_i h
  · rw [if_pos h] at this; omega
  · rw [if_neg h] at this; omega
theorem cnt_zero {i : Nat} : cnt W c i = 0 ↔ ∀ e ∈ W i, e ∈ c := by
  unfold cnt
  constructor
  · intro h e he
    have h0 : ((W i).filter fun e => decide (e ∉ c)).length = 0 := by omega
    rw [List.length_eq_zero_iff, List.filter_eq_nil_iff] at h0
    have := h0 e he
    simpa using this
  · intro h
    have : ((W i).filter fun e => decide (e ∉ c)) = [] := by
      rw [List.filter_eq_nil_iff]
      intro e he
      simpa using h e he
    rw [this]; rfl
theorem Inv.done (g : Gr W) (v : Inv W c hs [] p) {j : Nat} (hj : (j : Int) ∈ hs) :
    Inv W (c ++ [(j : Int)]) (hs.erase (j : Int)) (newR (upd p j (-2)) (sW W 5 j)) (dec (upd p j (-2)) (sW W 5 j)) := by
  obtain ⟨cn, cr, cl, nd, av, pc, ph, po⟩ := v
  rw [List.append_nil] at nd
  simp only [List.append_nil] at av
  obtain ⟨j0, j5, jc, jW⟩ := (av j).mp hj
  -- what waits for j
  have sx : ∀ x, x ∈ sW W 5 j → 0 ≤ x ∧ x < 5 ∧ (j : Int) ∈ W x.toNat ∧ x ∉ c ∧ x ∉ hs ∧ x ≠ j := by
    intro x hx
    obtain ⟨a1, a2, a3⟩ := sW_mem.mp hx
    refine ⟨a1, a2, a3, fun hc => jc (cl x hc _ a3), fun hh => jc (((av x).mp hh).2.2.2 _ a3), fun e => ?_⟩
    have := g.lt _ _ a3
    omega
  have nx : ∀ x, x ∈ newR (upd p j (-2)) (sW W 5 j) ↔ x ∈ sW W 5 j ∧ ∀ e ∈ W x.toNat, e ∈ c ++ [(j : Int)] := by
    intro x
    unfold newR
    rw [List.mem_filter]
    constructor
    · rintro ⟨h1, h2⟩
      refine ⟨h1, ?_⟩
      obtain ⟨a1, a2, a3, a4, a5, a6⟩ := sx x h1
      have e1 : ((x.toNat : Nat) : Int) = x := by omega
      have hp := po x.toNat (by omega) (by rw [e1]; exact a4) (by rw [e1]; exact a5)
      have hs := cnt_step (i := x.toNat) g jc
      rw [if_pos a3] at hs
      have hu : upd p j (-2) x.toNat = p x.toNat := if_neg (by omega)
      rw [hu] at h2
      have h2' : p x.toNat - 1 = 0 := of_decide_eq_true h2
      exact cnt_zero.mp (by omega)
    · rintro ⟨h1, h2⟩
      refine ⟨h1, ?_⟩
      obtain ⟨a1, a2, a3, a4, a5, a6⟩ := sx x h1
      have e1 : ((x.toNat : Nat) : Int) = x := by omega
      have hp := po x.toNat (by omega) (by rw [e1]; exact a4) (by rw [e1]; exact a5)
      have hs := cnt_step (i := x.toNat) g jc
      rw [if_pos a3] at hs
      have hu : upd p j (-2) x.toNat = p x.toNat := if_neg (by omega)
      rw [hu]
      have := cnt_zero.mpr h2
      exact decide_eq_true (by omega)
  refine ⟨?_, ?_, ?_, ?_, ?_, ?_, ?_, ?_⟩
  · rw [List.nodup_append]
    refine ⟨cn, by simp, ?_⟩
    intro a ha b hb e
    simp at hb
    subst hb; subst e
    exact jc ha
  · intro x hx
    rcases List.mem_append.mp hx with h | h
    · exact cr x h
    · simp at h; subst h; exact ⟨j0, j5⟩
  · intro x hx e he
    rcases List.mem_append.mp hx with h | h
    · exact List.mem_append_left _ (cl x h e he)
    · simp at h; subst h; exact List.mem_append_left _ (jW e he)
  · rw [List.nodup_append]
    refine ⟨nd.erase _, List.Pairwise.filter _ sW_nodup, ?_⟩
    intro a ha b hb e
    subst e
    exact (sx a ((nx a).mp hb).1).2.2.2.2.1 (List.mem_of_mem_erase ha)
  · intro x
    rw [List.mem_append]
    constructor
    · rintro (h | h)
      · have hx := List.mem_of_mem_erase h
        have hne : x ≠ j := fun e => by subst e; exact (List.Nodup.not_mem_erase nd) h
        obtain ⟨a1, a2, a3, a4⟩ := (av x).mp hx
        refine ⟨a1, a2, ?_, fun e he => List.mem_append_left _ (a4 e he)⟩
        simp [a3, hne]
      · obtain ⟨h1, h2⟩ := (nx x).mp h
        obtain ⟨a1, a2, a3, a4, a5, a6⟩ := sx x h1
        refine ⟨a1, a2, ?_, h2⟩
        simp [a4, a6]
    · rintro ⟨a1, a2, a3, a4⟩
      have a3' : x ∉ c ∧ x ≠ j := by simpa using a3
      by_cases hjx : (j : Int) ∈ W x.toNat
      · exact .inr ((nx x).mpr ⟨sW_mem.mpr ⟨a1, a2, hjx⟩, a4⟩)
      · left
        refine (List.mem_erase_of_ne a3'.2).mpr ((av x).mpr ⟨a1, a2, a3'.1, fun e he => ?_⟩)
        rcases List.mem_append.mp (a4 e he) with h | h
        · exact h
        · simp at h; subst h; exact absurd he hjx
  · intro i hi
    have hns : (i : Int) ∉ sW W 5 j := by
      intro h
      obtain ⟨a1, a2, a3, a4, a5, a6⟩ := sx _ h
      rcases List.mem_append.mp hi with h' | h'
      · exact a4 h'
      · simp at h'; omega
    unfold dec
    rw [if_neg hns]
    unfold upd
    split
    · rfl
    · rcases List.mem_append.mp hi with h' | h'
      · exact pc i h'
      · simp at h'; omega
  · intro i hi
    have hm := List.mem_of_mem_erase hi
    have hne : i ≠ j := fun e => by subst e; exact (List.Nodup.not_mem_erase nd) hi
    have hns : (i : Int) ∉ sW W 5 j := fun h => (sx _ h).2.2.2.2.1 hm
    unfold dec upd
    rw [if_neg hns, if_neg hne]
    exact ph i hm
  · intro i hi h1 h2
    have h1' : (i : Int) ∉ c ∧ (i : Int) ≠ j := by simpa using h1
    have hh : (i : Int) ∉ hs := fun h => h2 ((List.mem_erase_of_ne h1'.2).mpr h)
    have hp := po i hi h1'.1 hh
    have hs' := cnt_step (i := i) g jc
    have hu : upd p j (-2) i = p i := if_neg (by omega)
    unfold dec
    by_cases hw : (j : Int) ∈ W i
    · rw [if_pos (sW_mem.mpr ⟨by omega, by omega, by simpa using hw⟩), hu]
      rw [if_pos hw] at hs'
      omega
    · rw [if_neg (fun h => hw (by simpa using (sW_mem.mp h).2.2)), hu]
      rw [if_neg hw] at hs'
      omega
end
end Mine

end
section
open PySem PySem.W PySem.Calls PyProof.Rows
set_option Elab.async false
namespace Mine
noncomputable def swTest : AM Bool :=
  (bnd
                    (bnd (pLoc 3) fun ov σ =>
                      if isSo ov σ = true then bnd (ok []) (fun vs => lift qAct (ov :: vs)) σ
                      else none)
                    pTruth)
noncomputable def swBody : AM AF :=
  (andThen
                    (bnd
                      (bnd
                        (bnd (pLoc 3) fun ov σ =>
                          if isSo ov σ = true then bnd (ok []) (fun vs => lift qRdy (ov :: vs)) σ
                          else none)
                        pIter)
                      fun src =>
                      AF.unlocked fun σ =>
                        aFor src false σ.hp.length (pStore 4) pushB 64 0 σ)
                    (andThen
                      (bnd
                        (bnd
                          (bnd (bnd (pLoc 5) fun v => bnd (ok []) fun l => ok (v :: l))
                            (lift qPop))
                          pItems)
                        fun l =>
                        bnd
                          (storeL
                            [7, 9, 4] l)
                          fun x => ok AF.next)
                      (andThen
                        (bnd
                          (bnd (pLoc 6) fun ov σ =>
                            if isL ov σ = true then
                              bnd (bnd (pLoc 4) fun v => bnd (ok []) fun l => ok (v :: l))
                                (fun vs => pAppend (ov :: vs)) σ
                            else none)
                          fun x => ok AF.next)
                        (bnd
                          (bnd (pLoc 3) fun ov σ =>
                            if isSo ov σ = true then
                              bnd (bnd (pLoc 4) fun v => bnd (ok []) fun l => ok (v :: l))
                                (fun vs => lift qDone (ov :: vs)) σ
                            else none)
                          fun x => ok AF.next))))
section
variable {W : Nat → List Int} {p : Nat → Int} {rd hs : List Int} {np nf : Int} {h c : List Int} {mv ws : AV} {t r : Nat → Nat} {K : Nat → Int} {fst sw k : Int} {o4 o8 o9 : Option AV}
/-- what holds at the head of a turn -/
structure Hd (W : Nat → List Int) (K : Nat → Int) (r : Nat → Nat) (p : Nat → Int) (rd hs : List Int) (np nf : Int) (h c : List Int) (fst sw k : Int) : Prop where
  inv : Inv W c hs rd p
  enp : np = c.length + hs.length
  enf : nf = c.length
  ek : (fst + sw) % 2 = k
  hp : Hp h
  pm : h.Perm (hs.map (key K r sw k))
theorem test_runs (v : Inv W c hs rd p) (e1 : np = c.length + hs.length) (e2 : nf = c.length) (hl : rd.length < 1000) : swTest (sS p (sW W 5) rd np nf h c mv ws fst sw o4 o8 o9) = some (decide (hs ++ rd ≠ []), sS p (sW W 5) rd np nf h c mv ws fst sw o4 o8 o9) := by
  have so : ∀ loc, isSo (.ref 0) ⟨loc, hpS p (sW W 5) rd np nf [.list (h.map T), .list (c.map .int)]⟩ = true := fun _ => rfl
  have ac := act_runs (p := p) (s := sW W 5) (np := np) (nf := nf) (t := [.list (h.map T), .list (c.map .int)]) hl
  have tr : ∀ b, pTruth (.bool b) = ok b := fun _ => rfl
  have eb : (decide (nf < np) || decide (rd ≠ [])) = decide (hs ++ rd ≠ []) := by
    cases hs with
    | nil => simp at e1; simp [e1, e2]
    | cons a l => simp only [List.length_cons] at e1; rw [decide_eq_true (show nf < np by omega)]; simp
  unfold swTest sS
  simp only [bnd, ok, pLoc, List.getElem?_cons_succ, List.getElem?_cons_zero, if_true, so, lift, ac, tr, eb]
theorem five_of {l : List Int} (hn : l.Nodup) (hr : ∀ x ∈ l, 0 ≤ x ∧ x < 5) : l.length ≤ 5 := by
  have := pigeon (l := l) (k := [0, 1, 2, 3, 4]) hn (fun x hx => by
    have := hr x hx
    have := five_cases this
    simpa using this)
  simpa using this
inductive TurnR (W : Nat → List Int) (K : Nat → Int) (r : Nat → Nat) (mv ws : AV) (fst sw k : Int) (c : List Int) (σ : AS) : Prop
  | mk (j : Nat) (p' : Nat → Int) (rd' hs' : List Int) (np' nf' : Int) (h' : List Int) (sw' k' : Int) (o4' o8' o9' : Option AV) (e : swBody σ = some (.next, sS p' (sW W 5) rd' np' nf' h' (c ++ [(j : Int)]) mv ws fst sw' o4' o8' o9'))
      (hd : Hd W K r p' rd' hs' np' nf' h' (c ++ [(j : Int)]) fst sw' k') (alt : (sw' = sw ∧ k' = k ∧ IsMin r (Fr W K c k) j) ∨ (sw' = sw + 1 ∧ k' = 1 - k ∧ (∀ x, ¬ Fr W K c k x) ∧ IsMin r (Fr W K c (1 - k)) j))
inductive LoopR (W : Nat → List Int) (K : Nat → Int) (r : Nat → Nat) (mv ws : AV) (fst : Int) (n m fuel : Nat) (c : List Int) (sw k : Int) (σ : AS) : Prop
  | mk (C : List Int) (F : Nat) (p' : Nat → Int) (rd' : List Int) (np' nf' : Int) (h' : List Int) (o4' o8' o9' : Option AV) (hR : Run W K r m c k C F) (e : aWhile false n swTest swBody (ok .next) fuel σ = some (.next, sS p' (sW W 5) rd' np' nf' h' C mv ws fst (sw + (F : Nat)) o4' o8' o9'))
theorem turn_runs (g : Gr W) (md : Md mv t r K) (v : Hd W K r p rd hs np nf h c fst sw k) (hne : hs ++ rd ≠ []) :
    TurnR W K r mv ws fst sw k c (sS p (sW W 5) rd np nf h c mv ws fst sw o4 o8 o9) := by
  obtain ⟨inv, enp, enf, hk, hhp, hpm⟩ := v
  have hK : k = 0 ∨ k = 1 := by omega
  have rng : ∀ x ∈ hs ++ rd, 0 ≤ x ∧ x < 5 := fun x hx => by
    have := (inv.av x).mp hx
    exact ⟨this.1, this.2.1⟩
  have h5 := five_of inv.nd rng
  rw [List.length_append] at h5
  have inv1 := inv.ready
  have rdr := rdy_runs (p := p) (s := sW W 5) (np := np) (nf := nf) (t := [.list (h.map T), .list (c.map .int)]) (fun x hx => rng x (List.mem_append_right _ hx)) (show rd.length < 60 by omega) rfl
  obtain ⟨o4a, o8a, h1, e1, hp1, pm1⟩ := pushes_run (p := outP p rd) (s := sW W 5) (rd0 := []) (np := np + rd.length) (nf := nf) (c := c) (ws := ws) (o4 := o4) (o8 := o8) (o9 := o9) (n := (hpS (outP p rd) (sW W 5) [] (np + rd.length) nf [.list (h.map T), .list (c.map .int)]).length) (rd := rd) (hs := hs) md hk (fun x hx => rng x (List.mem_append_right _ hx)) h5 hhp hpm
  have h1ne : h1 ≠ [] := by
    intro e
    rw [e] at pm1
    have := pm1.length_eq
    rw [List.length_map] at this
    exact hne (List.length_eq_zero_iff.mp this.symm)
  obtain ⟨m, h2, e2, hp2, pm2, mn⟩ := pop_hp (k := 13) (hp := hpS (outP p rd) (sW W 5) [] (np + rd.length) nf [.list (h1.map T), .list (c.map .int)]) h1ne hp1 rfl
  have hm : m ∈ (hs ++ rd).map (key K r sw k) := pm1.mem_iff.mp (pm2.mem_iff.mpr (.head _))
  obtain ⟨x, hx, rfl⟩ := List.mem_map.mp hm
  have hx5 := rng x hx
  obtain ⟨j, rfl⟩ : ∃ j : Nat, x = j := ⟨x.toNat, by omega⟩
  have hj : j < 5 := by omega
  have inv2 := inv1.done g hx
  have opj := inv1.ph j hx
  have dn := done_runs (p := outP p rd) (s := sW W 5) (ready := []) (np := np + rd.length) (nf := nf) (t := [.list (h2.map T), .list ((c ++ [(j : Int)]).map .int)]) hj opj (fun x hx => by have := sW_mem.mp hx; omega) sW_nodup (Nat.lt_of_le_of_lt sW_len (by omega)) (by simp) rfl
  have r4 := md.r4 j
  have hlt : lt01 K k j = 0 ∨ lt01 K k j = 1 := by unfold lt01; split <;> simp
  have hTm : pItems (T (key K r sw k j)) = ok [.int (sw + lt01 K k j), .int (r j : Int), .int (j : Nat)] := by
    unfold T key wt
    rw [show (sw + lt01 K k (j : Int)) * 32768 + ((r (j : Int).toNat : Nat) * 8 + (j : Int)) = (sw + lt01 K k (j : Int)) * 32768 + (r j : Int) * 8 + j by simp; omega]
    rw [tk_of (by omega) (by omega) (by omega) (by omega)]
    rfl
  have mn' : ∀ y ∈ hs ++ rd, key K r sw k j ≤ key K r sw k y := fun y hy => mn _ (pm1.mem_iff.mpr (List.mem_map_of_mem hy))
  have pm3 : h2.Perm (((hs ++ rd).erase (j : Int)).map (key K r sw k)) := by
    have a1 := (pm2.symm.trans pm1).trans ((List.perm_cons_erase hx).map (key K r sw k))
    rw [List.map_cons] at a1
    exact a1.cons_inv
  have wb : ∀ y ∈ hs ++ rd, 0 ≤ wt r y ∧ wt r y < 32768 := fun y hy => by
    have := rng y hy
    have := md.r4 y.toNat
    unfold wt; omega
  have avj := (inv.av j).mp hx
  refine ⟨j, _, _, (hs ++ rd).erase (j : Int), np + rd.length, nf + 1, h2, sw + lt01 K k j, (if lt01 K k j = 0 then k else 1 - k), some (.int (j : Nat)), o8a, some (.int (r j : Int)), ?_, ⟨inv2, ?_, ?_, ?_, hp2, ?_⟩, ?_⟩
  · have so : ∀ loc p rd np nf h c, isSo (.ref 0) ⟨loc, hpS p (sW W 5) rd np nf [.list h, .list c]⟩ = true := fun _ _ _ _ _ _ _ => rfl
    have hL : ∀ loc p rd np nf h c, isL (.ref 14) ⟨loc, hpS p (sW W 5) rd np nf [.list h, .list c]⟩ = true := fun _ _ _ _ _ _ _ => rfl
    have it : ∀ σ, pIter (.tup rd) σ = some (.items (rd.map .int), σ) := fun _ => rfl
    have hc5 : c.length ≤ 5 := five_of inv.cn inv.cr
    have ap : ∀ loc p rd np nf h, pAppend [.ref 14, .int (j : Nat)] ⟨loc, hpS p (sW W 5) rd np nf [.list h, .list (c.map .int)]⟩ = some (.none, ⟨loc, hpS p (sW W 5) rd np nf [.list h, .list ((c ++ [(j : Int)]).map .int)]⟩) := by
      intro loc p rd np nf h
      show (if (c.map AV.int).length < 1000 then some (AV.none, (⟨loc, hpS p (sW W 5) rd np nf [.list h, .list (c.map .int ++ [.int (j : Nat)])]⟩ : AS)) else none) = _
      rw [if_pos (by simp; omega)]
      simp
    have hset : (hpS (outP p rd) (sW W 5) [] (np + rd.length) nf [.list (h1.map T), .list (c.map .int)]).set 13 (.list (h2.map T)) = hpS (outP p rd) (sW W 5) [] (np + rd.length) nf [.list (h2.map T), .list (c.map .int)] := rfl
    rw [hset] at e2
    have hu : ∀ p rd np nf h c, (hpS p (sW W 5) rd np nf [.list h, .list c]).map AO.unl = hpS p (sW W 5) rd np nf [.list h, .list c] := fun _ _ _ _ _ _ => unlock_hpS rfl
    unfold sS at e1
    unfold swBody sS
    simp only [andThen, bnd, ok, pLoc, pStore, List.set_cons_succ, List.set_cons_zero, List.getElem?_cons_succ, List.getElem?_cons_zero, if_true, so, lift, rdr, it, AF.unlocked, e1, unlock, hu, e2, hTm, storeL, hL, ap, dn, List.nil_append]
  · rw [enp, List.length_append, List.length_erase_of_mem hx, List.length_append]
    have : 0 < (hs ++ rd).length := List.length_pos_of_mem hx
    rw [List.length_append] at this
    simp; omega
  · rw [enf]; simp
  · rcases hlt with e | e <;> rw [e]
    · rw [if_pos rfl]; omega
    · rw [if_neg (by omega)]; omega
  · rcases hlt with e | e <;> rw [e]
    · rw [if_pos rfl, Int.add_zero]; exact pm3
    · rw [if_neg (by omega)]
      have : ((hs ++ rd).erase (j : Int)).map (key K r (sw + 1) (1 - k)) = ((hs ++ rd).erase (j : Int)).map (key K r sw k) := by
        refine List.map_congr_left fun y hy => ?_
        have hy' := List.mem_of_mem_erase hy
        have a1 := mn' y hy'
        have a2 := wb y hy'
        have a3 := wb j hx
        unfold key at a1 ⊢
        rw [e] at a1
        have a4 : lt01 K k y = 1 := by
          unfold lt01 at a1 ⊢
          split
          · rfl
          · rename_i hh; rw [if_neg hh] at a1; omega
        have a5 : lt01 K (1 - k) y = 0 := by
          unfold lt01 at a4 ⊢
          split at a4
          · rename_i hh; rw [hh, if_neg (by omega)]
          · omega
        rw [a4, a5]; omega
      rw [this]; exact pm3
  · rcases hlt with e | e
    · left
      rw [e, if_pos rfl, Int.add_zero]
      refine ⟨rfl, rfl, ⟨avj, ?_⟩, ?_⟩
      · unfold lt01 at e
        split at e
        · omega
        · assumption
      · intro y hy
        have a1 := mn' y ((inv.av y).mpr hy.1)
        have a4 : lt01 K k y = 0 := if_neg hy.2
        unfold key at a1
        rw [a4, e] at a1
        omega
    · right
      have all : ∀ y ∈ hs ++ rd, K y.toNat = 1 - k := by
        intro y hy
        have a1 := mn' y hy
        have a2 := wb y hy
        have a3 := wb j hx
        unfold key at a1
        rw [e] at a1
        unfold lt01 at a1
        split at a1
        · assumption
        · omega
      rw [e, if_neg (by omega)]
      refine ⟨rfl, rfl, fun y hy => hy.2 (all y ((inv.av y).mpr hy.1)), ⟨avj, ?_⟩, ?_⟩
      · rw [all j hx]; omega
      · intro y hy
        have hy' := (inv.av y).mpr hy.1
        have a1 := mn' y hy'
        have a4 : lt01 K k y = 1 := if_pos (all y hy')
        unfold key at a1
        rw [a4, e] at a1
        omega
theorem loop_runs (g : Gr W) (md : Md mv t r K) {n : Nat} : ∀ (m fuel : Nat) (p : Nat → Int) (rd hs : List Int) (np nf : Int) (h c : List Int) (sw k : Int) (o4 o8 o9 : Option AV), c.length + m = 5 → m < fuel → Hd W K r p rd hs np nf h c fst sw k →
    LoopR W K r mv ws fst n m fuel c sw k (sS p (sW W 5) rd np nf h c mv ws fst sw o4 o8 o9) := by
  intro m
  induction m with
  | zero =>
    intro fuel p rd hs np nf h c sw k o4 o8 o9 hc hf v
    obtain ⟨fuel, rfl⟩ : ∃ f, fuel = f + 1 := ⟨fuel - 1, by omega⟩
    have he : hs ++ rd = [] := List.eq_nil_iff_forall_not_mem.mpr fun x hx => av_none v.inv.cn v.inv.cr (by omega) x ((v.inv.av x).mp hx)
    have hrd : rd = [] := (List.append_eq_nil_iff.mp he).2
    have ht := test_runs (h := h) (mv := mv) (ws := ws) (fst := fst) (sw := sw) (o4 := o4) (o8 := o8) (o9 := o9) v.inv v.enp v.enf (by rw [hrd]; simp)
    rw [decide_eq_false (by rw [he]; simp)] at ht
    refine ⟨c, 0, p, rd, np, nf, h, o4, o8, o9, .done, ?_⟩
    rw [aWhile]
    simp only [bnd, ht, ok, Bool.false_eq_true, if_false]
    simp
  | succ m ih =>
    intro fuel p rd hs np nf h c sw k o4 o8 o9 hc hf v
    obtain ⟨fuel, rfl⟩ : ∃ f, fuel = f + 1 := ⟨fuel - 1, by omega⟩
    obtain ⟨x, hx⟩ := av_ex g (c := c) (by omega)
    have hne : hs ++ rd ≠ [] := List.ne_nil_of_mem ((v.inv.av x).mpr hx)
    have rng : ∀ x ∈ hs ++ rd, 0 ≤ x ∧ x < 5 := fun x hx => by
      have := (v.inv.av x).mp hx
      exact ⟨this.1, this.2.1⟩
    have h5 := five_of v.inv.nd rng
    rw [List.length_append] at h5
    have ht := test_runs (h := h) (mv := mv) (ws := ws) (fst := fst) (sw := sw) (o4 := o4) (o8 := o8) (o9 := o9) v.inv v.enp v.enf (by omega)
    rw [decide_eq_true hne] at ht
    obtain ⟨j, p', rd', hs', np', nf', h', sw', k', o4', o8', o9', e, v', hcase⟩ := turn_runs (ws := ws) (o4 := o4) (o8 := o8) (o9 := o9) g md v hne
    obtain ⟨C, F, p2, rd2, np2, nf2, h2, o42, o82, o92, hR, e2⟩ := ih fuel p' rd' hs' np' nf' h' (c ++ [(j : Int)]) sw' k' o4' o8' o9' (by simp; omega) (by omega) v'
    have hw : aWhile false n swTest swBody (ok .next) (fuel + 1) (sS p (sW W 5) rd np nf h c mv ws fst sw o4 o8 o9) = some (.next, sS p2 (sW W 5) rd2 np2 nf2 h2 C mv ws fst (sw' + (F : Nat)) o42 o82 o92) := by
      rw [aWhile]
      simp only [bnd, ht, if_true, e, turnEnd, Bool.false_eq_true, if_false]
      exact e2
    rcases hcase with ⟨rfl, rfl, hmin⟩ | ⟨rfl, rfl, hno, hmin⟩
    · exact ⟨C, F, p2, rd2, np2, nf2, h2, o42, o82, o92, .go hmin hR, hw⟩
    · refine ⟨C, F + 1, p2, rd2, np2, nf2, h2, o42, o82, o92, .turn hno hmin hR, ?_⟩
      rw [hw]
      rw [show sw + 1 + (F : Int) = sw + ((F + 1 : Nat) : Int) by omega]
/-- the books at the start -/
theorem hd0 (g : Gr W) {fst : Int} (hf : fst = 0 ∨ fst = 1) : Hd W K r (pW W 5) (rdy0 (pW W 5)) [] 0 0 [] [] fst 0 fst := by
  refine ⟨⟨List.nodup_nil, by simp, by simp, ?_, ?_, by simp, by simp, ?_⟩, by simp, by simp, by omega, trivial, by simp⟩
  · rw [List.nil_append]
    unfold rdy0
    rw [List.Nodup, List.pairwise_map]
    refine List.Pairwise.imp ?_ (List.Pairwise.filter _ (List.nodup_range (n := 5)))
    intro a b hab h
    exact hab (by omega)
  · intro x
    rw [List.nil_append]
    unfold rdy0 Av
    rw [List.mem_map]
    constructor
    · rintro ⟨i, hi, rfl⟩
      rw [List.mem_filter, List.mem_range] at hi
      have h0 : pW W 5 i = 0 := of_decide_eq_true hi.2
      unfold pW at h0
      rw [if_pos hi.1] at h0
      have h1 : W i = [] := List.length_eq_zero_iff.mp (by omega)
      refine ⟨by omega, by omega, by simp, fun e he => ?_⟩
      rw [Int.toNat_natCast, h1] at he
      cases he
    · rintro ⟨h1, h2, h3, h4⟩
      refine ⟨x.toNat, ?_, by omega⟩
      rw [List.mem_filter, List.mem_range]
      refine ⟨by omega, decide_eq_true ?_⟩
      unfold pW
      rw [if_pos (by omega)]
      have : W x.toNat = [] := List.eq_nil_iff_forall_not_mem.mpr fun e he => by simpa using h4 e he
      rw [this]; rfl
  · intro i hi _ _
    unfold pW cnt
    rw [if_pos hi, List.filter_eq_self.mpr (by simp)]
end
end Mine

end
section
open PySem PySem.W PySem.Calls PyProof.Rows
set_option Elab.async false
namespace Mine
section
variable {W : Nat → List Int} {mv ws : AV} {t r : Nat → Nat} {K : Nat → Int} {fst : Int}
theorem rng5 (σ : AS) : pRange1 [.int 5] σ = some (.items ((List.range 5).map fun (j : Nat) => AV.int (0 + (j : Int) * 1)), σ) := rfl
inductive SweptR (W : Nat → List Int) (K : Nat → Int) (r : Nat → Nat) (fst : Int) (u : Option (AV × List AO)) : Prop
  | mk (C : List Int) (F : Nat) (p : Nat → Int) (rd : List Int) (np nf : Int) (h : List Int) (hR : Run W K r 5 [] fst C F) (e : u = some (.pr 14 (F : Nat), hpS p (sW W 5) rd np nf [.list (h.map T), .list (C.map .int)]))
theorem swept_runs (g : Gr W) (hw : Lli ws W) (md : Md mv t r K) (hf : fst = 0 ∨ fst = 1) :
    SweptR W K r fst (qSwept [mv, ws, .int fst] []) := by
  have ns := new_sorter (pW W 0) (sW W 0)
  obtain ⟨o4, e1⟩ := adds_run g (m := mv) (fst := .int fst) hw (n := (hpA 0 (pW W 0) (sW W 0)).length)
  have e2 := setup_prep g
  have so : ∀ loc p rd np nf t, isSo (.ref 0) ⟨loc, hpS p (sW W 5) rd np nf t⟩ = true := fun _ _ _ _ _ _ => rfl
  have soA : ∀ loc, isSo (.ref 0) ⟨loc, hpA 5 (pW W 5) (sW W 5)⟩ = true := fun _ => isSoA
  obtain ⟨C, F, p', rd', np', nf', h', o4', o8', o9', hR, e3⟩ := loop_runs (mv := mv) (ws := ws) (n := (hpS (pW W 5) (sW W 5) (rdy0 (pW W 5)) 0 0 [.list [], .list []]).length) g md 5 64 _ _ _ _ _ _ _ _ _ o4 none none rfl (by omega) (hd0 (K := K) (r := r) g hf)
  refine ⟨C, F, p', rd', np', nf', h', hR, ?_⟩
  have nl1 : ∀ loc, pNewList [] ⟨loc, hpS (pW W 5) (sW W 5) (rdy0 (pW W 5)) 0 0 []⟩ = some (.ref 13, ⟨loc, hpS (pW W 5) (sW W 5) (rdy0 (pW W 5)) 0 0 [.list []]⟩) := fun _ => rfl
  have nl2 : ∀ loc, pNewList [] ⟨loc, hpS (pW W 5) (sW W 5) (rdy0 (pW W 5)) 0 0 [.list []]⟩ = some (.ref 14, ⟨loc, hpS (pW W 5) (sW W 5) (rdy0 (pW W 5)) 0 0 [.list [], .list []]⟩) := fun _ => rfl
  have sm : ∀ σ, small [AV.ref 13, .ref 14, .int 0] σ = some ([AV.ref 13, .ref 14, .int 0], σ) := fun _ => rfl
  have rv : [AV.ref 13, .ref 14, .int 0].reverse = [.int 0, .ref 14, .ref 13] := rfl
  have pp : ∀ i σ, pPair [.ref 14, .int i] σ = some (.pr 14 i, σ) := fun _ _ => rfl
  have hu : (hpA 5 (pW W 5) (sW W 5)).map AO.unl = hpA 5 (pW W 5) (sW W 5) := unlA (by omega)
  show finish (fSwept ⟨[some mv, some ws, some (.int fst), none, none, none, none, none, none, none], []⟩) = _
  have key : fSwept ⟨[some mv, some ws, some (.int fst), none, none, none, none, none, none, none], []⟩ = some (.ret (.pr 14 (F : Nat)), sS p' (sW W 5) rd' np' nf' h' C mv ws fst (F : Nat) o4' o8' o9') := by
    unfold sS at e3 ⊢
    show andThen (bnd (bnd (ok []) (lift (gClass (AO.part []) qIns))) fun v =>
        bnd (pStore 3 v) fun x => ok AF.next) (andThen (bnd (bnd (bnd (ok (AV.int 5)) fun v => bnd (ok []) fun l => ok (v :: l)) pRange1) fun src => AF.unlocked fun σ => aFor src false σ.hp.length (pStore 4) addsBody 64 0 σ)
        (andThen _ (andThen _ (andThen (fun σ => aWhile false σ.hp.length swTest swBody (ok AF.next) 64 σ) _)))) _ = _
    simp only [List.map_nil, Int.zero_add] at e3
    simp only [andThen, bnd, ok, pLoc, pStore, List.set_cons_succ, List.set_cons_zero, List.getElem?_cons_succ, List.getElem?_cons_zero, if_true, lift, ns, rng5, AF.unlocked, e1, unlock, hu, soA, e2, nl1, nl2, sm, rv, storeL, e3, pp]
  rw [key]
  rfl
end
end Mine

end
section
open PySem PySem.W PySem.Calls PyProof.Rows
set_option Elab.async false
namespace Mine
/-! the least of a list of pairs -/
theorem best_least {bt : Nat → Nat → Bool} {w : Nat → Int} {n : Nat} (h : ∀ i j, i < n → j < n → bt i j = decide (w i < w j)) : ∀ k, k < n → argBest bt k ≤ k ∧ ∀ i, i ≤ k → w (argBest bt k) ≤ w i
  | 0, _ => ⟨Nat.le_refl _, fun i hi => by
    have : i = 0 := by omega
    subst this
    exact Int.le_refl _⟩
  | k + 1, hk => by
    obtain ⟨h1, h2⟩ := best_least h k (by omega)
    have hb := h (k + 1) (argBest bt k) hk (by omega)
    show (if bt (k + 1) (argBest bt k) = true then k + 1 else argBest bt k) ≤ k + 1 ∧ _
    have e : argBest bt (k + 1) = if bt (k + 1) (argBest bt k) = true then k + 1 else argBest bt k := rfl
    rw [e]
    by_cases hc : w (k + 1) < w (argBest bt k)
    · rw [hb, decide_eq_true hc, if_pos rfl]
      refine ⟨Nat.le_refl _, fun i hi => ?_⟩
      by_cases hik : i = k + 1
      · subst hik; exact Int.le_refl _
      · have := h2 i (by omega); omega
    · rw [hb, decide_eq_false hc, if_neg (by simp)]
      refine ⟨by omega, fun i hi => ?_⟩
      by_cases hik : i = k + 1
      · subst hik; omega
      · exact h2 i (by omega)
section
variable {W : Nat → List Int} {r : Nat → Nat} {K : Nat → Int}
noncomputable def pr2 (r : Nat → Nat) (j : Nat) : List Int := [(r j : Int), (j : Int)]
theorem lex_pr2 {i j : Nat} (hi : i < 5) (hj : j < 5) : lexLt (pr2 r i) (pr2 r j) = decide (wt r i < wt r j) := by
  unfold pr2 wt
  simp only [lexLt, Int.toNat_natCast]
  split
  · split
    · rw [eq_comm, decide_eq_false_iff_not]; omega
    · rw [decide_eq_decide]; omega
  · rw [decide_eq_decide]; omega
theorem least_pr2 {js : List Nat} (h5 : ∀ j ∈ js, j < 5) (hne : js ≠ []) : ∃ j ∈ js, (js.map (pr2 r)).getD (leastAt (js.map (pr2 r))) [] = pr2 r j ∧ ∀ i ∈ js, wt r j ≤ wt r i := by
  have hpos : 0 < js.length := List.length_pos_iff.mpr hne
  have gt : ∀ i, i < js.length → (js.map (pr2 r)).getD i [] = pr2 r (js.getD i 0) := fun i hi => by
    rw [List.getD_eq_getElem?_getD, List.getElem?_map, List.getD_eq_getElem?_getD, List.getElem?_eq_getElem hi]; rfl
  have m : ∀ i, i < js.length → js.getD i 0 ∈ js := fun i hi => by
    rw [List.getD_eq_getElem?_getD, List.getElem?_eq_getElem hi]; exact List.getElem_mem hi
  obtain ⟨h1, h2⟩ := best_least (bt := fun i j => lexLt ((js.map (pr2 r)).getD i []) ((js.map (pr2 r)).getD j [])) (w := fun i => wt r (js.getD i 0 : Nat)) (n := js.length) (fun i j hi hj => by
    show lexLt ((js.map (pr2 r)).getD i []) ((js.map (pr2 r)).getD j []) = _
    rw [gt i hi, gt j hj]
    exact lex_pr2 (h5 _ (m i hi)) (h5 _ (m j hj))) (js.length - 1) (by omega)
  unfold leastAt
  rw [List.length_map]
  refine ⟨_, m _ (by omega), gt _ (by omega), fun i hi => ?_⟩
  obtain ⟨q, hq, rfl⟩ := List.getElem_of_mem hi
  have := h2 q (by omega)
  rw [List.getD_eq_getElem?_getD (l := js) (i := q), List.getElem?_eq_getElem hq] at this
  exact this
theorem tupsOf_map : ∀ (l : List (List Int)), tupsOf (l.map AV.tup) = some l
  | [] => rfl
  | a :: l => by simp only [List.map_cons, tupsOf, tupsOf_map l]
end
/-! lists at the heap's end -/
section
variable {hp : List AO} {A B X : AO}
theorem at0 {t : List AO} : (hp ++ A :: t)[hp.length]? = some A := by simp
theorem at1 : (hp ++ [A, B])[hp.length + 1]? = some B := by
  rw [List.getElem?_append_right (by omega), show hp.length + 1 - hp.length = 1 by omega]; rfl
theorem set0 {t : List AO} : (hp ++ A :: t).set hp.length X = hp ++ X :: t := by
  rw [List.set_append_right _ _ (by omega), Nat.sub_self]; rfl
theorem set1 : (hp ++ [A, B]).set (hp.length + 1) X = hp ++ [A, X] := by
  rw [List.set_append_right _ _ (by omega), show hp.length + 1 - hp.length = 1 by omega]; rfl
end
/-! _law_course -/
noncomputable def cForB : AM AF :=
  (bnd
                        (bnd
                          (bnd (pLoc 7) fun a =>
                            bnd (pLoc 4) fun b => bnd (pCmpA CmpOp.NotIn a b) pBool)
                          fun b =>
                          if b = true then
                            bnd
                              (bnd
                                (bnd (pLoc 1) fun a =>
                                  bnd (pLoc 7) fun b => pItem a b)
                                fun a =>
                                bnd
                                  (bnd (ok (AV.int 1)) fun a =>
                                    bnd (pLoc 5) fun b => pInt2 (opG Operator.Sub) a b)
                                  fun b => bnd (pCmpA CmpOp.NotEq a b) pBool)
                              fun b =>
                              if b = true then
                                bnd
                                  (bnd
                                    (bnd
                                      (bnd
                                        (bnd (pLoc 2) fun a =>
                                          bnd (pLoc 7) fun b => pItem a b)
                                        pIter)
                                      (pComp [(Str.ofString "course", 4)]
                                        (bnd (pLoc 0) fun a =>
                                          bnd (pLoc 1) fun b => bnd (pCmpA CmpOp.NotIn a b) pBool)
                                        (pLoc 0) 40 pLi))
                                    fun a => bnd (bnd (ok []) pLi) fun b => bnd (pCmpA CmpOp.Eq a b) pBool)
                                  fun b => if b = true then ok true else ok false
                              else ok false
                          else ok false)
                        fun b =>
                        if b = true then
                          bnd
                            (bnd (pLoc 6) fun ov σ =>
                              if isL ov σ = true then
                                bnd
                                  (bnd
                                    (bnd
                                      (bnd
                                        (bnd (pLoc 0) fun a =>
                                          bnd (pLoc 7) fun b => pItem a b)
                                        fun v =>
                                        bnd
                                          (bnd (pLoc 7) fun v =>
                                            bnd (ok []) fun l => ok (v :: l))
                                          fun l => ok (v :: l))
                                      pTup)
                                    fun v => bnd (ok []) fun l => ok (v :: l))
                                  (fun vs => pAppend (ov :: vs)) σ
                              else none)
                            fun x => ok AF.next
                        else ok AF.next)
noncomputable def cTest : AM Bool :=
  (bnd (bnd (bnd (pLoc 4) fun v => bnd (ok []) fun l => ok (v :: l)) pLen) fun a =>
              bnd (ok (AV.int 5)) fun b => bnd (pCmpA CmpOp.Lt a b) pBool)
noncomputable def cBody : AM AF :=
  (andThen
              (bnd (bnd (ok []) pNewList) fun v => bnd (pStore 6 v) fun x => ok AF.next)
              (andThen
                (bnd (bnd (bnd (ok (AV.int 5)) fun v => bnd (ok []) fun l => ok (v :: l)) pRange1) fun src =>
                  AF.unlocked fun σ =>
                    aFor src false σ.hp.length (pStore 7) cForB 64 0 σ)
                (bnd (bnd (pLoc 6) pTruth) fun b =>
                  if b = true then
                    bnd
                      (bnd (pLoc 4) fun ov σ =>
                        if isL ov σ = true then
                          bnd
                            (bnd
                              (bnd
                                (bnd (bnd (pLoc 6) fun v => bnd (ok []) fun l => ok (v :: l))
                                  pMinT)
                                fun a => bnd (ok (AV.int 1)) fun b => pItem a b)
                              fun v => bnd (ok []) fun l => ok (v :: l))
                            (fun vs => pAppend (ov :: vs)) σ
                        else none)
                      fun x => ok AF.next
                  else
                    bnd
                      (bnd (ok (AV.int 1)) fun a =>
                        bnd (pLoc 5) fun b => pInt2 (opG Operator.Sub) a b)
                      fun v => bnd (pStore 5 v) fun x => ok AF.next)))
/-- what the course's values are -/
structure Cv (rv kv ws : AV) (W : Nat → List Int) (r : Nat → Nat) (K : Nat → Int) : Prop where
  rat : ∀ j : Nat, j < 5 → ∀ σ, pItem rv (.int (j : Nat)) σ = some (.int (r j : Nat), σ)
  kat : ∀ j : Nat, j < 5 → ∀ σ, pItem kv (.int (j : Nat)) σ = some (.int (K j), σ)
  wat : Lli ws W
  rb : ∀ n, rv.below n = true
  kb : ∀ n, kv.below n = true
  wb : ∀ n, ws.below n = true
noncomputable def FrB (W : Nat → List Int) (K : Nat → Int) (c : List Int) (k : Int) (j : Nat) : Bool := decide ((j : Int) ∉ c) && (decide (K j ≠ 1 - k) && decide ((W j).filter (fun e => decide (e ∉ c)) = []))
section
variable {W : Nat → List Int} {r : Nat → Nat} {K : Nat → Int} {rv kv ws : AV} {fst k : Int} {hp : List AO} {c : List Int} {o7 : Option AV} {fl : List Nat}
theorem FrB_iff {j : Nat} (hj : j < 5) : FrB W K c k j = true ↔ Fr W K c k j := by
  unfold FrB Fr Av
  simp only [Bool.and_eq_true, decide_eq_true_eq, List.filter_eq_nil_iff, Classical.not_not, Int.toNat_natCast]
  constructor
  · rintro ⟨h1, h2, h3⟩; exact ⟨⟨by omega, by omega, h1, h3⟩, h2⟩
  · rintro ⟨⟨_, _, h1, h3⟩, h2⟩; exact ⟨h1, h2, h3⟩
noncomputable def cF (rv kv ws : AV) (r : Nat → Nat) (fst : Int) (hp : List AO) (c : List Int) (k : Int) (fl : List Nat) (o7 : Option AV) : AS :=
  ⟨[some rv, some kv, some ws, some (.int fst), some (.ref hp.length), some (.int k), some (.ref (hp.length + 1)), o7], hp ++ [.list (c.map .int), .list ((fl.map (pr2 r)).map .tup)]⟩
theorem cForB_runs (g : Gr W) (cv : Cv rv kv ws W r K) (hu : hp.map AO.unl = hp) {j : Nat} (hj : j < 5) (hl : fl.length < 100) : cForB (cF rv kv ws r fst hp c k fl (some (.int (j : Nat)))) = some (.next, cF rv kv ws r fst hp c k (if FrB W K c k j then fl ++ [j] else fl) (some (.int (j : Nat)))) := by
  have hw := cv.wat j hj
  have hk := cv.kat j hj
  have hr := cv.rat j hj
  have ni : ∀ e loc t, pCmpA CmpOp.NotIn (.int e) (.ref hp.length) ⟨loc, hp ++ .list (c.map .int) :: t⟩ = some (.bool (decide (e ∉ c)), ⟨loc, hp ++ .list (c.map .int) :: t⟩) := fun e loc t => by
    simp only [pCmpA, pNotIn, listInts, at0, intsOf_map]
  have itw : ∀ σ, pIter (.li (W j)) σ = some (.items ((W j).map .int), σ) := fun _ => rfl
  have hW := g.le j hj
  have hu2 : (hp ++ [AO.list (c.map .int), .list ((fl.map (pr2 r)).map .tup)]).map AO.unl = hp ++ [.list (c.map .int), .list ((fl.map (pr2 r)).map .tup)] := by
    rw [List.map_append, hu]; rfl
  have cmp : ∀ o6, pComp [(Str.ofString "course", 4)] (bnd (pLoc 0) fun a => bnd (pLoc 1) fun b => bnd (pCmpA CmpOp.NotIn a b) pBool) (pLoc 0) 40 pLi (.items ((W j).map .int)) ⟨[some rv, some kv, some ws, some (.int fst), some (.ref hp.length), some (.int k), o6, some (.int (j : Nat))], hp ++ [.list (c.map .int), .list ((fl.map (pr2 r)).map .tup)]⟩ =
      some (.li ((W j).filter fun e => decide (e ∉ c)), ⟨[some rv, some kv, some ws, some (.int fst), some (.ref hp.length), some (.int k), o6, some (.int (j : Nat))], hp ++ [.list (c.map .int), .list ((fl.map (pr2 r)).map .tup)]⟩) := by
    intro o6
    rw [comp_runs (l := (W j).map .int) (loc' := [some (.ref hp.length)]) (fun v => match v with | .int e => decide (e ∉ c) | _ => false) (fun v => v) rfl (fun o i => rfl)
      (by
        intro v hv
        obtain ⟨e, he, rfl⟩ := List.mem_map.mp hv
        simp only [bnd, ok, pLoc, List.getElem?_cons_succ, List.getElem?_cons_zero, pBool, ni])
      (by
        intro v hv _
        rfl) (by rw [List.length_map]; omega) (by rw [List.length_map]; omega)]
    have e1 : (((W j).map AV.int).filter (fun v => match v with | .int e => decide (e ∉ c) | _ => false)).map (fun v => v) = ((W j).filter fun e => decide (e ∉ c)).map .int := by
      rw [List.filter_map, List.map_id']
      rfl
    rw [e1, hu2]
    unfold pLi
    rw [intsOf_map]
    dsimp only
    rw [if_pos]
    exact Nat.lt_of_le_of_lt (List.length_filter_le _ _) (by omega)
  have li0 : ∀ σ, pLi [] σ = some (.li [], σ) := fun _ => rfl
  have eq0 : ∀ l σ, pCmpA CmpOp.Eq (.li l) (.li []) σ = some (.bool (decide (l = [])), σ) := fun _ _ => rfl
  have hL : ∀ loc, isL (.ref (hp.length + 1)) ⟨loc, hp ++ [.list (c.map .int), .list ((fl.map (pr2 r)).map .tup)]⟩ = true := fun loc => by
    simp only [isL, at1]
  have pt : ∀ σ, pTup [.int (r j : Nat), .int (j : Nat)] σ = some (.tup (pr2 r j), σ) := fun _ => rfl
  have ap : ∀ loc, pAppend [.ref (hp.length + 1), .tup (pr2 r j)] ⟨loc, hp ++ [.list (c.map .int), .list ((fl.map (pr2 r)).map .tup)]⟩ = some (.none, ⟨loc, hp ++ [.list (c.map .int), .list (((fl ++ [j]).map (pr2 r)).map .tup)]⟩) := fun loc => by
    simp only [pAppend, at1, set1]
    rw [if_pos (by simp; omega)]
    simp
  unfold cForB cF FrB
  by_cases h1 : (j : Int) ∉ c
  · by_cases h2 : K j ≠ 1 - k
    · by_cases h3 : (W j).filter (fun e => decide (e ∉ c)) = []
      · simp only [bnd, ok, pLoc, List.getElem?_cons_succ, List.getElem?_cons_zero, int_sub, cmp_ne, pBool, decide_true, if_true, ni, h1, h2, h3, hk, hw, itw, cmp, li0, eq0, hL, hr, pt, ap, Bool.and_true, not_false_eq_true, ne_eq]
      · simp only [bnd, ok, pLoc, List.getElem?_cons_succ, List.getElem?_cons_zero, int_sub, cmp_ne, pBool, decide_true, decide_false, if_true, if_false, Bool.false_eq_true, ni, h1, h2, h3, hk, hw, itw, cmp, li0, eq0, Bool.and_false, not_false_eq_true, ne_eq]
    · simp only [bnd, ok, pLoc, List.getElem?_cons_succ, List.getElem?_cons_zero, int_sub, cmp_ne, pBool, decide_true, decide_false, if_true, if_false, Bool.false_eq_true, ni, h1, h2, hk, Bool.and_false, Bool.false_and, not_false_eq_true]
  · simp only [bnd, ok, pLoc, List.getElem?_cons_succ, List.getElem?_cons_zero, pBool, decide_false, if_false, Bool.false_eq_true, ni, h1, Bool.false_and]
end
end Mine

end
section
open PySem PySem.W PySem.Calls PyProof.Rows
set_option Elab.async false
namespace Mine
section
variable {W : Nat → List Int} {r : Nat → Nat} {K : Nat → Int} {rv kv ws : AV} {fst k : Int} {hp : List AO} {c : List Int} {o7 : Option AV} {fl : List Nat}
noncomputable def cS (rv kv ws : AV) (fst : Int) (hp : List AO) (c : List Int) (k : Int) (o7 : Option AV) : AS :=
  ⟨[some rv, some kv, some ws, some (.int fst), some (.ref hp.length), some (.int k), none, o7], hp ++ [.list (c.map .int)]⟩
noncomputable def frL (W : Nat → List Int) (K : Nat → Int) (c : List Int) (k : Int) (n : Nat) : List Nat := (List.range n).filter (FrB W K c k)
theorem frL_len {n : Nat} : (frL W K c k n).length ≤ n := by
  unfold frL
  exact Nat.le_trans (List.length_filter_le _ _) (by simp)
theorem cFor_runs (g : Gr W) (cv : Cv rv kv ws W r K) (hu : hp.map AO.unl = hp) {n : Nat} : ∃ o7', aFor (.items ((List.range 5).map fun (j : Nat) => AV.int (0 + (j : Int) * 1))) false n (pStore 7) cForB 64 0 (cF rv kv ws r fst hp c k [] o7) = some (.next, cF rv kv ws r fst hp c k (frL W K c k 5) o7') := by
  obtain ⟨σ', e1, o7', rfl⟩ := for_ind (src := .items ((List.range 5).map fun (j : Nat) => AV.int (0 + (j : Int) * 1))) (l := (List.range 5).map fun (j : Nat) => AV.int (0 + (j : Int) * 1)) (st := pStore 7) (n := n) (f := cForB)
    (P := fun i σ => ∃ o7, σ = cF rv kv ws r fst hp c k (frL W K c k i) o7) (fun i σ _ => rfl) (by
      rintro i v σ hv ⟨o7, rfl⟩
      obtain ⟨hi, rfl⟩ := rng_at hv
      have hl : (frL W K c k i).length < 100 := Nat.lt_of_le_of_lt frL_len (by omega)
      refine ⟨_, _, rfl, cForB_runs g cv hu hi hl, some (.int (i : Nat)), ?_⟩
      have : frL W K c k (i + 1) = if FrB W K c k i then frL W K c k i ++ [i] else frL W K c k i := by
        unfold frL
        rw [List.range_succ, List.filter_append]
        by_cases h : FrB W K c k i = true
        · simp [h]
        · simp [h]
      rw [this]) 64 0 _ (by simp) (by simp) ⟨o7, rfl⟩
  rw [List.length_map, List.length_range] at e1
  exact ⟨o7', e1⟩
theorem cut_c (cv : Cv rv kv ws W r K) (hb : ∀ m, hp.length ≤ m → hp.all (AO.below m) = true) {X : AO} {o7 : Option AV} : ∃ o7', turnEnd true (hp.length + 1) ⟨[some rv, some kv, some ws, some (.int fst), some (.ref hp.length), some (.int k), some (.ref (hp.length + 1)), o7], hp ++ [.list (c.map .int), X]⟩ = some (cS rv kv ws fst hp c k o7') := by
  have ht : (hp ++ [AO.list (c.map .int), X]).take (hp.length + 1) = hp ++ [.list (c.map .int)] := by
    rw [List.take_append, List.take_of_length_le (by omega), show hp.length + 1 - hp.length = 1 by omega]; rfl
  have hc : (c.map AV.int).all (AV.below (hp.length + 1)) = true := by
    rw [List.all_eq_true]
    intro x hx
    obtain ⟨y, _, rfl⟩ := List.mem_map.mp hx
    rfl
  have ha : (hp ++ [AO.list (c.map .int)]).all (AO.below (hp.length + 1)) = true := by
    rw [List.all_append, hb _ (by omega)]
    simp only [List.all_cons, List.all_nil, AO.below, hc, Bool.and_true]
  have b1 : (AV.ref hp.length).below (hp.length + 1) = true := decide_eq_true (by omega)
  have b2 : (AV.ref (hp.length + 1)).below (hp.length + 1) = false := decide_eq_false (by omega)
  have b3 : ∀ i, (AV.int i).below (hp.length + 1) = true := fun _ => rfl
  refine ⟨match o7 with | some v => if v.below (hp.length + 1) then some v else none | none => none, ?_⟩
  unfold turnEnd cut
  rw [if_pos rfl, ht, if_pos ha]
  simp only [List.map_cons, List.map_nil, cv.rb, cv.kb, cv.wb, b1, b2, b3, if_true, Bool.false_eq_true, if_false]
  rfl
theorem cTest_runs (hc : c.length ≤ 5) : cTest (cS rv kv ws fst hp c k o7) = some (decide (c.length < 5), cS rv kv ws fst hp c k o7) := by
  have pl : ∀ loc, pLen [.ref hp.length] ⟨loc, hp ++ [.list (c.map .int)]⟩ = some (.int c.length, ⟨loc, hp ++ [.list (c.map .int)]⟩) := fun loc => by
    simp only [pLen, at0, List.length_map]
    rw [if_pos (by omega)]
  have e : decide ((c.length : Int) < 5) = decide (c.length < 5) := by rw [decide_eq_decide]; omega
  unfold cTest cS
  simp only [bnd, ok, pLoc, List.getElem?_cons_succ, List.getElem?_cons_zero, cmp_lt, pBool, pl, e]
theorem cBody_go (g : Gr W) (cv : Cv rv kv ws W r K) (hu : hp.map AO.unl = hp) (hb : ∀ m, hp.length ≤ m → hp.all (AO.below m) = true) (hc : c.length ≤ 5) {j : Int} (hj : IsMin r (Fr W K c k) j) :
    ∃ σ' o7', cBody (cS rv kv ws fst hp c k o7) = some (.next, σ') ∧ turnEnd true (hp.length + 1) σ' = some (cS rv kv ws fst hp (c ++ [j]) k o7') := by
  obtain ⟨o7a, e1⟩ := cFor_runs (fst := fst) (c := c) (k := k) (o7 := o7) g cv hu (n := (hp ++ [AO.list (c.map .int), AO.list []]).length)
  have mem : ∀ i : Nat, i ∈ frL W K c k 5 ↔ i < 5 ∧ Fr W K c k i := fun i => by
    unfold frL
    rw [List.mem_filter, List.mem_range]
    constructor
    · rintro ⟨h1, h2⟩; exact ⟨h1, (FrB_iff h1).mp h2⟩
    · rintro ⟨h1, h2⟩; exact ⟨h1, (FrB_iff h1).mpr h2⟩
  have hjr := hj.1.rng
  have hjm : j.toNat ∈ frL W K c k 5 := (mem _).mpr ⟨by omega, by rw [show ((j.toNat : Nat) : Int) = j by omega]; exact hj.1⟩
  have hne : frL W K c k 5 ≠ [] := List.ne_nil_of_mem hjm
  obtain ⟨i, hi, ei, hmin⟩ := least_pr2 (r := r) (fun i hi => ((mem i).mp hi).1) hne
  have hij : (i : Int) = j := by
    refine IsMin.uniq (r := r) (P := Fr W K c k) (fun z hz => hz.rng) ⟨((mem i).mp hi).2, fun y hy => ?_⟩ hj
    have hy5 := hy.rng
    have := hmin y.toNat ((mem _).mpr ⟨by omega, by rw [show ((y.toNat : Nat) : Int) = y by omega]; exact hy⟩)
    rw [show ((y.toNat : Nat) : Int) = y by omega] at this
    exact this
  subst hij
  have hlen := frL_len (W := W) (K := K) (c := c) (k := k) (n := 5)
  have hll : ((frL W K c k 5).map (pr2 r)).map AV.tup ≠ [] := by simpa using hne
  have nl : ∀ loc, pNewList [] ⟨loc, hp ++ [.list (c.map .int)]⟩ = some (.ref (hp.length + 1), ⟨loc, hp ++ [.list (c.map .int), .list []]⟩) := fun loc => by
    simp [pNewList]
  have hu2 : ∀ l, (hp ++ [AO.list (c.map .int), .list l]).map AO.unl = hp ++ [.list (c.map .int), .list l] := fun l => by
    rw [List.map_append, hu]; rfl
  have tr : ∀ loc, pTruth (.ref (hp.length + 1)) ⟨loc, hp ++ [.list (c.map .int), .list (((frL W K c k 5).map (pr2 r)).map .tup)]⟩ = some (true, ⟨loc, hp ++ [.list (c.map .int), .list (((frL W K c k 5).map (pr2 r)).map .tup)]⟩) := fun loc => by
    simp only [pTruth, at1]
    rw [if_pos (by simp; omega), decide_eq_true hll]
  have hL : ∀ loc l, isL (.ref hp.length) ⟨loc, hp ++ [.list (c.map .int), .list l]⟩ = true := fun loc l => by simp only [isL, at0]
  have mt : ∀ loc, pMinT [.ref (hp.length + 1)] ⟨loc, hp ++ [.list (c.map .int), .list (((frL W K c k 5).map (pr2 r)).map .tup)]⟩ = some (.tup (pr2 r i), ⟨loc, hp ++ [.list (c.map .int), .list (((frL W K c k 5).map (pr2 r)).map .tup)]⟩) := fun loc => by
    simp only [pMinT, at1, tupsOf_map]
    rw [if_pos (by simp only [List.length_map]; exact ⟨List.length_pos_iff.mpr hne, trivial⟩), ei]
  have it : ∀ σ, pItem (.tup (pr2 r i)) (.int 1) σ = some (.int (i : Nat), σ) := fun _ => rfl
  have ap : ∀ loc l, pAppend [.ref hp.length, .int (i : Nat)] ⟨loc, hp ++ [.list (c.map .int), .list l]⟩ = some (.none, ⟨loc, hp ++ [.list ((c ++ [(i : Int)]).map .int), .list l]⟩) := fun loc l => by
    simp only [pAppend, at0, set0]
    rw [if_pos (by simp; omega)]
    simp
  obtain ⟨o7b, e2⟩ := cut_c (fst := fst) (c := c ++ [(i : Int)]) (k := k) cv hb (X := .list (((frL W K c k 5).map (pr2 r)).map .tup)) (o7 := o7a)
  refine ⟨_, o7b, ?_, e2⟩
  unfold cF at e1
  unfold cBody cS
  simp only [List.map_nil] at e1
  simp only [andThen, bnd, ok, pLoc, pStore, List.set_cons_succ, List.set_cons_zero, List.getElem?_cons_succ, List.getElem?_cons_zero, if_true, nl, rng5, AF.unlocked, e1, unlock, hu2, tr, hL, mt, it, ap]
theorem cBody_flip (g : Gr W) (cv : Cv rv kv ws W r K) (hu : hp.map AO.unl = hp) (hb : ∀ m, hp.length ≤ m → hp.all (AO.below m) = true) (hno : ∀ x, ¬ Fr W K c k x) :
    ∃ σ' o7', cBody (cS rv kv ws fst hp c k o7) = some (.next, σ') ∧ turnEnd true (hp.length + 1) σ' = some (cS rv kv ws fst hp c (1 - k) o7') := by
  obtain ⟨o7a, e1⟩ := cFor_runs (fst := fst) (c := c) (k := k) (o7 := o7) g cv hu (n := (hp ++ [AO.list (c.map .int), AO.list []]).length)
  have hnil : frL W K c k 5 = [] := by
    unfold frL
    rw [List.filter_eq_nil_iff]
    intro i hi h
    exact hno i ((FrB_iff (List.mem_range.mp hi)).mp h)
  rw [hnil] at e1
  have nl : ∀ loc, pNewList [] ⟨loc, hp ++ [.list (c.map .int)]⟩ = some (.ref (hp.length + 1), ⟨loc, hp ++ [.list (c.map .int), .list []]⟩) := fun loc => by
    simp [pNewList]
  have hu2 : ∀ l, (hp ++ [AO.list (c.map .int), .list l]).map AO.unl = hp ++ [.list (c.map .int), .list l] := fun l => by
    rw [List.map_append, hu]; rfl
  have tr : ∀ loc, pTruth (.ref (hp.length + 1)) ⟨loc, hp ++ [.list (c.map .int), .list []]⟩ = some (false, ⟨loc, hp ++ [.list (c.map .int), .list []]⟩) := fun loc => by
    simp [pTruth]
  obtain ⟨o7b, e2⟩ := cut_c (fst := fst) (c := c) (k := 1 - k) cv hb (X := .list []) (o7 := o7a)
  refine ⟨_, o7b, ?_, e2⟩
  unfold cF at e1
  unfold cBody cS
  simp only [List.map_nil] at e1
  simp only [andThen, bnd, ok, pLoc, pStore, List.set_cons_succ, List.set_cons_zero, List.getElem?_cons_succ, List.getElem?_cons_zero, int_sub, if_false, Bool.false_eq_true, nl, rng5, AF.unlocked, e1, unlock, hu2, tr]
theorem while_step {b : Bool} {n fuel : Nat} {t : AM Bool} {f g : AM AF} {σ σ₁ σ₂ σ₃ : AS} (ht : t σ = some (true, σ₁)) (hf : f σ₁ = some (.next, σ₂)) (he : turnEnd b n σ₂ = some σ₃) : aWhile b n t f g (fuel + 1) σ = aWhile b n t f g fuel σ₃ := by
  rw [aWhile]
  simp only [bnd, ht, if_true, hf, he]
theorem cLoop_runs (g : Gr W) (cv : Cv rv kv ws W r K) (hu : hp.map AO.unl = hp) (hb : ∀ m, hp.length ≤ m → hp.all (AO.below m) = true) {m : Nat} {C : List Int} {F : Nat} (hR : Run W K r m c k C F) : ∀ (fuel : Nat) (o7 : Option AV), c.length + m = 5 → 2 * m < fuel →
    ∃ k' o7', aWhile true (hp.length + 1) cTest cBody (ok .next) fuel (cS rv kv ws fst hp c k o7) = some (.next, cS rv kv ws fst hp C k' o7') := by
  induction hR with
  | @done c k =>
    intro fuel o7 hc hf
    obtain ⟨fuel, rfl⟩ : ∃ f, fuel = f + 1 := ⟨fuel - 1, by omega⟩
    have ht := cTest_runs (rv := rv) (kv := kv) (ws := ws) (fst := fst) (hp := hp) (k := k) (o7 := o7) (c := c) (by omega)
    rw [decide_eq_false (by omega)] at ht
    refine ⟨k, o7, ?_⟩
    rw [aWhile]
    simp only [bnd, ht, ok, Bool.false_eq_true, if_false]
  | @go m c k j C F hj _ ih =>
    intro fuel o7 hc hf
    obtain ⟨fuel, rfl⟩ : ∃ f, fuel = f + 1 := ⟨fuel - 1, by omega⟩
    have ht := cTest_runs (rv := rv) (kv := kv) (ws := ws) (fst := fst) (hp := hp) (k := k) (o7 := o7) (c := c) (by omega)
    rw [decide_eq_true (by omega)] at ht
    obtain ⟨σ', o7', e1, e2⟩ := cBody_go (fst := fst) (o7 := o7) g cv hu hb (by omega) hj
    rw [while_step ht e1 e2]
    exact ih fuel o7' (by simp; omega) (by omega)
  | @turn m c k j C F hno hj _ ih =>
    intro fuel o7 hc hf
    obtain ⟨fuel, rfl⟩ : ∃ f, fuel = f + 2 := ⟨fuel - 2, by omega⟩
    have ht := cTest_runs (rv := rv) (kv := kv) (ws := ws) (fst := fst) (hp := hp) (k := k) (o7 := o7) (c := c) (by omega)
    rw [decide_eq_true (by omega)] at ht
    obtain ⟨σ', o7', e1, e2⟩ := cBody_flip (fst := fst) (o7 := o7) g cv hu hb hno
    rw [while_step ht e1 e2]
    have ht := cTest_runs (rv := rv) (kv := kv) (ws := ws) (fst := fst) (hp := hp) (k := 1 - k) (o7 := o7') (c := c) (by omega)
    rw [decide_eq_true (by omega)] at ht
    obtain ⟨σ', o7', e1, e2⟩ := cBody_go (fst := fst) (o7 := o7') g cv hu hb (by omega) hj
    rw [while_step ht e1 e2]
    exact ih fuel o7' (by simp; omega) (by omega)
theorem course_runs (g : Gr W) (cv : Cv rv kv ws W r K) (hu : hp.map AO.unl = hp) (hb : ∀ m, hp.length ≤ m → hp.all (AO.below m) = true) {C : List Int} {F : Nat} (hR : Run W K r 5 [] fst C F) : settle qCourse [rv, kv, ws, .int fst] hp = some (.li C, hp) := by
  obtain ⟨k', o7', e⟩ := cLoop_runs (fst := fst) g cv hu hb hR 64 none rfl (by omega)
  have nl : ∀ loc, pNewList [] ⟨loc, hp⟩ = some (.ref hp.length, ⟨loc, hp ++ [.list []]⟩) := fun loc => by
    simp [pNewList]
  have sm : ∀ σ, small [AV.ref hp.length, .int fst] σ = some ([AV.ref hp.length, .int fst], σ) := fun _ => rfl
  have hl : (hp ++ [AO.list []]).length = hp.length + 1 := by simp
  have h1 : qCourse [rv, kv, ws, .int fst] hp = some (.ref hp.length, hp ++ [.list (C.map .int)]) := by
    show finish (fCourse ⟨[some rv, some kv, some ws, some (.int fst), none, none, none, none], hp⟩) = _
    have : fCourse ⟨[some rv, some kv, some ws, some (.int fst), none, none, none, none], hp⟩ = some (.ret (.ref hp.length), cS rv kv ws fst hp C k' o7') := by
      unfold cS at e ⊢
      show andThen _ (andThen (fun σ => aWhile true σ.hp.length cTest cBody (ok AF.next) 64 σ) _) _ = _
      simp only [List.map_nil] at e
      simp only [andThen, bnd, ok, pLoc, pStore, List.set_cons_succ, List.set_cons_zero, List.getElem?_cons_succ, List.getElem?_cons_zero, nl, sm, storeL, hl, e]
    rw [this]
    rfl
  unfold settle
  rw [h1]
  dsimp only
  have ht : (hp ++ [AO.list (C.map .int)]).take hp.length = hp := by simp
  rw [ht, if_pos (hb _ (Nat.le_refl _))]
  have b1 : ((AV.ref hp.length).below hp.length) = false := decide_eq_false (by omega)
  rw [b1, if_neg (by simp)]
  rw [at0]
  dsimp only
  rw [intsOf_map]
end
end Mine

end
section
open PySem PySem.W PySem.Calls PyProof.Rows
set_option Elab.async false
namespace Mine
/-! the table of the least numbers of changes -/
section
variable (W : Nat → List Int) (K : Nat → Int)
/-- j may be done next when the files in the mask g are done -/
noncomputable def AvT (g j : Nat) : Prop := g.testBit j = false ∧ ∀ e ∈ W j, g.testBit e.toNat = true
open Classical in
/-- the best of the first n files for the kind k -/
noncomputable def best (T : Nat → Int → Int) (g : Nat) (k : Int) : Nat → Int
  | 0 => 9
  | n + 1 => if AvT W g n ∧ K n ≠ 1 - k then min (best T g k n) (T (g + 2 ^ n) k) else best T g k n
/-- what the table keeps from the row lo on -/
structure Tab (T : Nat → Int → Int) (lo : Nat) : Prop where
  last : T 31 0 = 0 ∧ T 31 1 = 0
  row : ∀ g, lo ≤ g → g ≤ 30 → T g 0 = min (best W K T g 0 5) (best W K T g 1 5 + 1) ∧ T g 1 = min (best W K T g 1 5) (best W K T g 0 5 + 1)
end
section
variable {W : Nat → List Int} {K : Nat → Int} {T T' : Nat → Int → Int} {g lo : Nat} {k : Int}
theorem bit_and : ∀ g, g < 32 → ∀ j, j < 5 → ((g &&& 2 ^ j = 0) ↔ g.testBit j = false) := by decide +kernel
theorem bit_add : ∀ g, g < 32 → ∀ j, j < 5 → g.testBit j = false → g + 2 ^ j < 32 ∧ ∀ i, i < 5 → (g + 2 ^ j).testBit i = (g.testBit i || decide (i = j)) := by decide +kernel
theorem bit_all : ∀ g, g < 32 → (∀ j, j < 5 → g.testBit j = true) → g = 31 := by decide +kernel
theorem bit_31 : ∀ j, j < 5 → (31 : Nat).testBit j = true := by decide +kernel
theorem best_le (n : Nat) : best W K T g k n ≤ 9 := by
  induction n with
  | zero => exact Int.le_refl _
  | succ n ih =>
    rw [best]
    split
    · omega
    · exact ih
theorem best_at {j : Nat} (h : AvT W g j) (hk : K j ≠ 1 - k) : ∀ n, j < n → best W K T g k n ≤ T (g + 2 ^ j) k := by
  intro n
  induction n with
  | zero => intro h; omega
  | succ n ih =>
    intro hj
    rw [best]
    by_cases e : j = n
    · subst e
      rw [if_pos ⟨h, hk⟩]
      omega
    · have := ih (by omega)
      split
      · omega
      · exact this
theorem best_ex (n : Nat) : best W K T g k n = 9 ∨ ∃ j, j < n ∧ AvT W g j ∧ K j ≠ 1 - k ∧ best W K T g k n = T (g + 2 ^ j) k := by
  induction n with
  | zero => exact .inl rfl
  | succ n ih =>
    have ih' : best W K T g k n = 9 ∨ ∃ j, j < n + 1 ∧ AvT W g j ∧ K j ≠ 1 - k ∧ best W K T g k n = T (g + 2 ^ j) k := by
      rcases ih with h | ⟨j, h1, h2⟩
      · exact .inl h
      · exact .inr ⟨j, by omega, h2⟩
    rw [best]
    split
    · rename_i h
      by_cases hm : best W K T g k n ≤ T (g + 2 ^ n) k
      · rw [Int.min_eq_left hm]; exact ih'
      · rw [Int.min_eq_right (by omega)]
        exact .inr ⟨n, by omega, h.1, h.2, rfl⟩
    · exact ih'
/-- the table's rows read later rows alone -/
theorem best_congr (h : ∀ g', g < g' → T' g' k = T g' k) : ∀ n, best W K T' g k n = best W K T g k n
  | 0 => rfl
  | n + 1 => by
    have := Nat.two_pow_pos n
    rw [best, best, best_congr h n, h (g + 2 ^ n) (by omega)]
noncomputable def updT (T : Nat → Int → Int) (g : Nat) (x y : Int) : Nat → Int → Int := fun g' k => if g' = g then (if k = 0 then x else y) else T g' k
theorem Tab.step (t : Tab W K T (lo + 1)) (hl : lo ≤ 30) {x y : Int} (hx : x = min (best W K T lo 0 5) (best W K T lo 1 5 + 1)) (hy : y = min (best W K T lo 1 5) (best W K T lo 0 5 + 1)) : Tab W K (updT T lo x y) lo := by
  have hc : ∀ g, lo ≤ g → ∀ k, best W K (updT T lo x y) g k 5 = best W K T g k 5 := fun g hg k => best_congr (fun g' hg' => by unfold updT; rw [if_neg (by omega)]) 5
  refine ⟨?_, fun g h1 h2 => ?_⟩
  · unfold updT
    rw [if_neg (by omega), if_neg (by omega)]
    exact t.last
  · rw [hc g h1, hc g h1]
    by_cases e : g = lo
    · subst e
      simp only [updT, if_true]
      exact ⟨hx, by rw [if_neg (by decide)]; exact hy⟩
    · simp only [updT, if_neg e]
      exact t.row g (by omega) h2
theorem flip_k {k : Int} (h : k = 0 ∨ k = 1) : 1 - k = 0 ∨ 1 - k = 1 := by
  rcases h with rfl | rfl
  · exact .inr rfl
  · exact .inl rfl
section
variable (t : Tab W K T 0)
include t
/-- both kinds at once -/
theorem Tab.row2 (hk : k = 0 ∨ k = 1) (hg : g ≤ 30) : T g k = min (best W K T g k 5) (best W K T g (1 - k) 5 + 1) := by
  rcases hk with rfl | rfl
  · exact (t.row g (by omega) hg).1
  · exact (t.row g (by omega) hg).2
theorem Tab.le9 (hk : k = 0 ∨ k = 1) (hg : g ≤ 31) : T g k ≤ 9 := by
  by_cases h : g = 31
  · subst h
    have := t.last
    rcases hk with rfl | rfl <;> omega
  · rw [t.row2 hk (by omega)]
    have := best_le (W := W) (K := K) (T := T) (g := g) (k := k) 5
    omega
theorem Tab.near (hk : k = 0 ∨ k = 1) (hg : g ≤ 31) : T g k ≤ T g (1 - k) + 1 := by
  by_cases h : g = 31
  · subst h
    have := t.last
    rcases hk with rfl | rfl
    · show T 31 0 ≤ T 31 1 + 1; omega
    · show T 31 1 ≤ T 31 0 + 1; omega
  · rw [t.row2 hk (by omega), t.row2 (k := 1 - k) (by omega) (by omega), show 1 - (1 - k) = k by omega]
    omega
theorem Tab.up (gr : Gr W) : ∀ (n g : Nat), 31 ≤ n + g → g ≤ 31 → ∀ (j : Nat), j < 5 → g.testBit j = false → ∀ k : Int, k = 0 ∨ k = 1 → T (g + 2 ^ j) k ≤ T g k := by
  intro n
  induction n with
  | zero =>
    intro g h1 h2 j hj hb
    have : g = 31 := by omega
    subst this
    rw [bit_31 j hj] at hb
    cases hb
  | succ n ih =>
    intro g h1 h2 j hj hb k hk
    obtain ⟨a1, a2⟩ := bit_add g (by omega) j hj hb
    have hp := Nat.two_pow_pos j
    have hn := t.near (g := g + 2 ^ j) hk (by omega)
    have h9 := t.le9 (g := g + 2 ^ j) hk (by omega)
    -- one file done more: what it needs is done
    have key : ∀ k : Int, k = 0 ∨ k = 1 → ∀ i, i < 5 → i ≠ j → AvT W g i → K i ≠ 1 - k → T (g + 2 ^ j + 2 ^ i) k ≤ T (g + 2 ^ i) k ∧ AvT W (g + 2 ^ j) i := by
      intro k hk i hi hij hav hki
      obtain ⟨b1, b2⟩ := bit_add g (by omega) i hi hav.1
      have hpi := Nat.two_pow_pos i
      have := ih (g + 2 ^ i) (by omega) (by omega) j hj (by rw [b2 j hj, hb]; simp; omega) k hk
      rw [show g + 2 ^ i + 2 ^ j = g + 2 ^ j + 2 ^ i by omega] at this
      refine ⟨this, by rw [a2 i hi, hav.1]; simp [hij], fun e he => ?_⟩
      have hl := gr.lt _ _ he
      rw [a2 _ (by omega), hav.2 e he]
      rfl
    rw [t.row2 (g := g) hk (by omega)]
    by_cases h31 : g + 2 ^ j = 31
    · have h0 : T (g + 2 ^ j) k = 0 ∧ T (g + 2 ^ j) (1 - k) = 0 := by
        rw [h31]
        have := t.last
        rcases hk with rfl | rfl
        · exact this
        · exact ⟨this.2, this.1⟩
      rw [h0.1]
      have nn : ∀ k : Int, k = 0 ∨ k = 1 → 0 ≤ best W K T g k 5 := by
        intro k hk
        rcases best_ex (W := W) (K := K) (T := T) (g := g) (k := k) 5 with e | ⟨i, hi, hav, hki, e⟩
        · omega
        · by_cases hij : i = j
          · rw [e, hij, h31]
            have := t.last
            rcases hk with rfl | rfl <;> omega
          · have := (key k hk i hi hij hav hki).2.1
            rw [h31, bit_31 i hi] at this
            cases this
      have := nn k hk
      have := nn (1 - k) (by omega)
      omega
    · have r2 : T (g + 2 ^ j) k ≤ best W K T (g + 2 ^ j) k 5 ∧ T (g + 2 ^ j) k ≤ best W K T (g + 2 ^ j) (1 - k) 5 + 1 := Int.le_min.mp (Int.le_of_eq (t.row2 (g := g + 2 ^ j) hk (by omega)))
      refine Int.le_min.mpr ⟨?_, ?_⟩
      · rcases best_ex (W := W) (K := K) (T := T) (g := g) (k := k) 5 with e | ⟨i, hi, hav, hki, e⟩
        · rw [e]; exact h9
        · by_cases hij : i = j
          · rw [e, hij]; exact Int.le_refl _
          · obtain ⟨d1, d2⟩ := key k hk i hi hij hav hki
            rw [e]
            exact Int.le_trans (Int.le_trans r2.1 (best_at (T := T) (k := k) d2 hki 5 hi)) d1
      · rcases best_ex (W := W) (K := K) (T := T) (g := g) (k := 1 - k) 5 with e | ⟨i, hi, hav, hki, e⟩
        · rw [e]; exact Int.le_trans h9 (by decide)
        · by_cases hij : i = j
          · rw [e, hij]; exact hn
          · obtain ⟨d1, d2⟩ := key (1 - k) (flip_k hk) i hi hij hav hki
            rw [e]
            exact Int.le_trans r2.2 (Int.add_le_add_right (Int.le_trans (best_at (T := T) (k := 1 - k) d2 hki 5 hi) d1) 1)
end
end
/-! the greedy course against the table -/
section
variable {W : Nat → List Int} {K : Nat → Int} {T : Nat → Int → Int} {r : Nat → Nat}
/-- g is the mask of c -/
structure Mk (g : Nat) (c : List Int) : Prop where
  lt : g < 32
  rng : ∀ x ∈ c, 0 ≤ x ∧ x < 5
  bit : ∀ j, j < 5 → (g.testBit j = true ↔ (j : Int) ∈ c)
theorem Mk.av {g : Nat} {c : List Int} (m : Mk g c) (gr : Gr W) {j : Nat} (hj : j < 5) : AvT W g j ↔ Av W c j := by
  unfold AvT Av
  have hb := m.bit j hj
  rw [Int.toNat_natCast]
  constructor
  · rintro ⟨h1, h2⟩
    refine ⟨by omega, by omega, fun h => ?_, fun e he => ?_⟩
    · rw [hb.mpr h] at h1; cases h1
    · have hl := gr.lt _ _ he
      have := (m.bit e.toNat (by omega)).mp (h2 e he)
      rwa [show ((e.toNat : Nat) : Int) = e by omega] at this
  · rintro ⟨_, _, h1, h2⟩
    refine ⟨?_, fun e he => ?_⟩
    · cases h : g.testBit j with
      | false => rfl
      | true => exact absurd (hb.mp h) h1
    · have hl := gr.lt _ _ he
      refine (m.bit e.toNat (by omega)).mpr ?_
      rw [show ((e.toNat : Nat) : Int) = e by omega]
      exact h2 e he
theorem Mk.add {g : Nat} {c : List Int} (m : Mk g c) {j : Nat} (hj : j < 5) (hb : g.testBit j = false) : Mk (g + 2 ^ j) (c ++ [(j : Int)]) := by
  obtain ⟨a1, a2⟩ := bit_add g m.lt j hj hb
  refine ⟨a1, fun x hx => ?_, fun i hi => ?_⟩
  · rcases List.mem_append.mp hx with h | h
    · exact m.rng x h
    · have := List.mem_singleton.mp h
      omega
  rw [a2 i hi, Bool.or_eq_true, decide_eq_true_eq, List.mem_append, List.mem_singleton, m.bit i hi]
  constructor
  · rintro (h | h)
    · exact .inl h
    · exact .inr (by omega)
  · rintro (h | h)
    · exact .inl h
    · exact .inr (by omega)
theorem Run.F_le {m : Nat} {c : List Int} {k : Int} {C : List Int} {F : Nat} (h : Run W K r m c k C F) : F ≤ m := by
  induction h with
  | done => omega
  | go _ _ ih => omega
  | turn _ _ _ ih => omega
theorem Run.least (t : Tab W K T 0) (gr : Gr W) {m : Nat} {c : List Int} {k : Int} {C : List Int} {F : Nat} (h : Run W K r m c k C F) : ∀ g, Mk g c → c.length + m = 5 → c.Nodup → (k = 0 ∨ k = 1) → T g k = (F : Int) := by
  induction h with
  | @done c k =>
    intro g mk hl hd hk
    have : g = 31 := by
      refine bit_all g mk.lt fun j hj => (mk.bit j hj).mpr ?_
      refine Classical.byContradiction fun hj' => ?_
      have := pigeon (l := (j : Int) :: c) (k := [0, 1, 2, 3, 4]) (List.nodup_cons.mpr ⟨hj', hd⟩) (fun y hy => by
        have : 0 ≤ y ∧ y < 5 := by
          rcases List.mem_cons.mp hy with rfl | hy
          · omega
          · exact mk.rng y hy
        have := five_cases this
        simpa using this)
      simp at this
      omega
    subst this
    have := t.last
    rcases hk with rfl | rfl
    · exact this.1
    · exact this.2
  | @go m c k j C F hj hR ih =>
    intro g mk hl hd hk
    have hr := hj.1.rng
    obtain ⟨j, rfl⟩ : ∃ i : Nat, j = i := ⟨j.toNat, by omega⟩
    have j5 : j < 5 := by omega
    have hav := (mk.av gr j5).mpr hj.1.1
    have hkj := hj.1.2
    rw [Int.toNat_natCast] at hkj
    have mk' := mk.add j5 hav.1
    have e := ih (g + 2 ^ j) mk' (by simp; omega) (by
      rw [List.nodup_append]
      exact ⟨hd, by simp, fun a ha b hb => by
        have := List.mem_singleton.mp hb
        subst this
        intro e
        subst e
        exact hj.1.1.2.2.1 ha⟩) hk
    have hp := Nat.two_pow_pos j
    have := mk'.lt
    have h1 := t.up gr 31 g (Nat.le_add_right _ _) (Nat.le_of_lt_succ mk.lt) j j5 hav.1 k hk
    have h2 := best_at (T := T) (k := k) hav hkj 5 j5
    have h3 := t.row2 (g := g) hk (by omega)
    exact (Int.le_antisymm (Int.le_trans (Int.le_trans (Int.le_of_eq h3) (Int.min_le_left _ _)) h2) h1).trans e
  | @turn m c k j C F hno hj hR ih =>
    intro g mk hl hd hk
    have hr := hj.1.rng
    obtain ⟨j, rfl⟩ : ∃ i : Nat, j = i := ⟨j.toNat, by omega⟩
    have j5 : j < 5 := by omega
    have hav := (mk.av gr j5).mpr hj.1.1
    have hkj := hj.1.2
    rw [Int.toNat_natCast] at hkj
    have mk' := mk.add j5 hav.1
    have e := ih (g + 2 ^ j) mk' (by simp; omega) (by
      rw [List.nodup_append]
      exact ⟨hd, by simp, fun a ha b hb => by
        have := List.mem_singleton.mp hb
        subst this
        intro e
        subst e
        exact hj.1.1.2.2.1 ha⟩) (by omega)
    have hp := Nat.two_pow_pos j
    have := mk'.lt
    have hF := hR.F_le
    have h1 := t.up gr 31 g (Nat.le_add_right _ _) (Nat.le_of_lt_succ mk.lt) j j5 hav.1 (1 - k) (flip_k hk)
    have h2 := best_at (T := T) (k := 1 - k) hav hkj 5 j5
    have h4 := t.row2 (g := g) (k := 1 - k) (flip_k hk) (by omega)
    have h5 : best W K T g k 5 = 9 := by
      rcases best_ex (W := W) (K := K) (T := T) (g := g) (k := k) 5 with e | ⟨i, hi, hav, hki, _⟩
      · exact e
      · exact absurd ⟨(mk.av gr hi).mp hav, by rw [Int.toNat_natCast]; exact hki⟩ (hno i)
    have h6 : best W K T g (1 - k) 5 = F := Int.le_antisymm (Int.le_trans h2 (Int.le_of_eq e)) (Int.le_trans (Int.le_of_eq e.symm) (Int.le_trans h1 (Int.le_trans (Int.le_of_eq h4) (Int.min_le_left _ _))))
    rw [t.row2 (g := g) hk (by omega), h5, h6]
    clear h6 h5 h4 h2 h1 e hR ih hj hno
    rw [Int.min_eq_right (by omega)]
    rfl
end
end Mine

end
section
open PySem PySem.W PySem.Calls PyProof.Rows
set_option Elab.async false
namespace Mine
/-! the masks -/
noncomputable def b2 (b : Bool) (n : Nat) : Nat := if b then n else 0
/-- the mask of what j waits for -/
noncomputable def mkW (W : Nat → List Int) (j : Nat) : Nat := b2 (decide ((0 : Int) ∈ W j)) 1 + (b2 (decide ((1 : Int) ∈ W j)) 2 + (b2 (decide ((2 : Int) ∈ W j)) 4 + (b2 (decide ((3 : Int) ∈ W j)) 8 + b2 (decide ((4 : Int) ∈ W j)) 16)))
theorem mask_and (a b c d e : Bool) : ∀ g, g < 32 → ((g &&& (b2 a 1 + (b2 b 2 + (b2 c 4 + (b2 d 8 + b2 e 16)))) = b2 a 1 + (b2 b 2 + (b2 c 4 + (b2 d 8 + b2 e 16)))) ↔
    ((a = true → g.testBit 0 = true) ∧ (b = true → g.testBit 1 = true) ∧ (c = true → g.testBit 2 = true) ∧ (d = true → g.testBit 3 = true) ∧ (e = true → g.testBit 4 = true))) := by
  cases a <;> cases b <;> cases c <;> cases d <;> cases e <;> decide +kernel
theorem b2_cons {x i : Int} {l : List Int} (hx : x ∉ l) (n : Nat) : b2 (decide (i ∈ x :: l)) n = b2 (decide (i = x)) n + b2 (decide (i ∈ l)) n := by
  by_cases h : i = x
  · subst h
    simp [b2, hx]
  · simp [b2, h]
theorem b2_pow {x : Int} (hx : 0 ≤ x ∧ x < 5) : ((b2 (decide (0 = x)) 1 + (b2 (decide (1 = x)) 2 + (b2 (decide (2 = x)) 4 + (b2 (decide (3 = x)) 8 + b2 (decide (4 = x)) 16))) : Nat) : Int) = 2 ^ x.toNat := by
  rcases five_cases hx with rfl | rfl | rfl | rfl | rfl <;> rfl
theorem add5 {a0 a1 a2 a3 a4 e0 e1 e2 e3 e4 : Nat} {z : Int} (h : ((e0 + (e1 + (e2 + (e3 + e4))) : Nat) : Int) = z) : z + ((a0 + (a1 + (a2 + (a3 + a4))) : Nat) : Int) = ((e0 + a0 + (e1 + a1 + (e2 + a2 + (e3 + a3 + (e4 + a4)))) : Nat) : Int) := by omega
theorem sum2 : ∀ (l : List Int), l.Nodup → (∀ x ∈ l, 0 ≤ x ∧ x < 5) → (l.map fun e => (2 : Int) ^ e.toNat).sum = ((b2 (decide ((0 : Int) ∈ l)) 1 + (b2 (decide ((1 : Int) ∈ l)) 2 + (b2 (decide ((2 : Int) ∈ l)) 4 + (b2 (decide ((3 : Int) ∈ l)) 8 + b2 (decide ((4 : Int) ∈ l)) 16))) : Nat) : Int)
  | [], _, _ => rfl
  | x :: l, hd, hr => by
    rw [List.nodup_cons] at hd
    rw [List.map_cons, List.sum_cons, sum2 l hd.2 (fun y hy => hr y (.tail _ hy)), b2_cons hd.1, b2_cons hd.1, b2_cons hd.1, b2_cons hd.1, b2_cons hd.1]
    exact add5 (b2_pow (hr x (.head _)))
theorem mk_sum {W : Nat → List Int} (g : Gr W) {j : Nat} (hj : j < 5) : ((W j).map fun e => (2 : Int) ^ e.toNat).sum = (mkW W j : Nat) := sum2 _ (g.nd j) (fun x hx => by have := g.lt j x hx; omega)
theorem mk_av {W : Nat → List Int} (gr : Gr W) {g j : Nat} (hg : g < 32) (hj : j < 5) : (g &&& mkW W j = mkW W j) ↔ ∀ e ∈ W j, g.testBit e.toNat = true := by
  unfold mkW
  refine (mask_and _ _ _ _ _ g hg).trans ?_
  simp only [decide_eq_true_eq]
  constructor
  · rintro ⟨h0, h1, h2, h3, h4⟩ e he
    have hl := gr.lt j e he
    have h5 := five_cases ⟨hl.1, by omega⟩
    rcases h5 with rfl | rfl | rfl | rfl | rfl
    · exact h0 he
    · exact h1 he
    · exact h2 he
    · exact h3 he
    · exact h4 he
  · intro h
    exact ⟨fun he => h _ he, fun he => h _ he, fun he => h _ he, fun he => h _ he, fun he => h _ he⟩
theorem int_pow {e : Int} (h : 0 ≤ e ∧ e < 5) : pInt2 (opG Operator.Pow) (.int 2) (.int e) = ok (.int (2 ^ e.toNat)) := by
  funext σ
  show (match gPow 2 e with | some r => some (AV.int r, σ) | none => none) = _
  unfold gPow
  rw [if_pos ⟨h.1, by omega, by decide⟩]
  rfl
theorem pow_lt {e : Int} (h : 0 ≤ e ∧ e < 5) : 0 ≤ (2 : Int) ^ e.toNat ∧ (2 : Int) ^ e.toNat < 1000000 := by
  have h5 := five_cases h
  rcases h5 with rfl | rfl | rfl | rfl | rfl <;> decide
section
variable {W : Nat → List Int} {K : Nat → Int} {T : Nat → Int → Int} {kv ws ms : AV} {hp H : List AO} {n : Nat}
noncomputable def mComp : AM AV :=
  (bnd
              (bnd
                (bnd (bnd (bnd (pLoc 1) fun a => bnd (pLoc 0) fun b => pItem a b) pIter)
                  (pComp [] (ok true) (bnd (ok (AV.int 2)) fun a => bnd (pLoc 0) fun b => pInt2 (opG Operator.Pow) a b)
                    40 pLi))
                fun v => bnd (ok []) fun l => ok (v :: l))
              pSum)
theorem mComp_runs (gr : Gr W) (hw : Lli ws W) (hu : hp.map AO.unl = hp) {j : Nat} (hj : j < 5) : mComp ⟨[some (.int (j : Nat)), some ws], hp⟩ = some (.int (mkW W j : Nat), ⟨[some (.int (j : Nat)), some ws], hp⟩) := by
  have hwj := hw j hj
  have it : ∀ σ, pIter (.li (W j)) σ = some (.items ((W j).map .int), σ) := fun _ => rfl
  have hle := gr.le j hj
  have hlt : ∀ x ∈ W j, 0 ≤ x ∧ x < 5 := fun x hx => by have := gr.lt j x hx; omega
  have cmp : pComp [] (ok true) (bnd (ok (AV.int 2)) fun a => bnd (pLoc 0) fun b => pInt2 (opG Operator.Pow) a b) 40 pLi (.items ((W j).map .int)) ⟨[some (.int (j : Nat)), some ws], hp⟩ =
      some (.li ((W j).map fun e => (2 : Int) ^ e.toNat), ⟨[some (.int (j : Nat)), some ws], hp⟩) := by
    rw [comp_runs (l := (W j).map .int) (loc' := []) (fun _ => true) (fun v => match v with | .int e => .int (2 ^ e.toNat) | _ => .none) rfl (fun o i => rfl) (fun _ _ => rfl)
      (by
        intro v hv _
        obtain ⟨e, he, rfl⟩ := List.mem_map.mp hv
        simp only [bnd, ok, pLoc, List.getElem?_cons_zero, int_pow (hlt e he)]) (by rw [List.length_map]; omega) (by rw [List.length_map]; omega)]
    have e1 : (((W j).map AV.int).filter fun _ => true).map (fun v => match v with | .int e => AV.int (2 ^ e.toNat) | _ => .none) = ((W j).map fun e => (2 : Int) ^ e.toNat).map .int := by
      rw [List.filter_eq_self.mpr (fun _ _ => rfl), List.map_map, List.map_map]
      rfl
    rw [e1, hu]
    unfold pLi
    rw [intsOf_map]
    dsimp only
    rw [if_pos (by rw [List.length_map]; omega)]
  have sm : ∀ σ, pSum [.li ((W j).map fun e => (2 : Int) ^ e.toNat)] σ = some (.int (mkW W j : Nat), σ) := fun σ => by
    show (if _ then _ else _) = _
    rw [if_pos, mk_sum gr hj]
    refine ⟨by rw [List.length_map]; omega, ?_⟩
    rw [List.all_eq_true]
    intro x hx
    obtain ⟨e, he, rfl⟩ := List.mem_map.mp hx
    have := pow_lt (hlt e he)
    simp only [Bool.and_eq_true, decide_eq_true_eq]
    exact this
  unfold mComp
  simp only [bnd, ok, pLoc, List.getElem?_cons_succ, List.getElem?_cons_zero, hwj, it, cmp, sm]
theorem masks_run (gr : Gr W) (hw : Lli ws W) (hu : hp.map AO.unl = hp) {l2 l3 : List (Option AV)} : pComp [(Str.ofString "waits", 1)] (ok true) mComp 40 pLi (.items ((List.range 5).map fun (j : Nat) => AV.int (0 + (j : Int) * 1))) ⟨some kv :: some ws :: l2, hp⟩ =
    some (.li ((List.range 5).map fun j => ((mkW W j : Nat) : Int)), ⟨some kv :: some ws :: l2, hp⟩) := by
  have m : ∀ v ∈ (List.range 5).map (fun (j : Nat) => AV.int (0 + (j : Int) * 1)), ∃ j : Nat, j < 5 ∧ v = .int (j : Nat) := fun v hv => by
    obtain ⟨j, hj, rfl⟩ := List.mem_map.mp hv
    exact ⟨j, List.mem_range.mp hj, by simp⟩
  rw [comp_runs (l := (List.range 5).map fun (j : Nat) => AV.int (0 + (j : Int) * 1)) (loc' := [some ws]) (fun _ => true) (fun v => match v with | .int e => .int (mkW W e.toNat : Nat) | _ => .none) rfl (fun o i => rfl) (fun _ _ => rfl)
    (by
      intro v hv _
      obtain ⟨j, hj, rfl⟩ := m v hv
      rw [mComp_runs gr hw hu hj]
      rfl) (by simp) (by simp), hu]
  rfl
/-! the table's objects -/
noncomputable def zz : AO := .list [.int 0, .int 0]
noncomputable def rowF : AM AV := bnd (bnd (ok (AV.int 0)) fun v => bnd (bnd (ok (AV.int 0)) fun v => bnd (ok []) fun l => ok (v :: l)) fun l => ok (v :: l)) pNewList
theorem rows_go (hl : hp.length = n) : ∀ (m i : Nat) (o : Option AV) (fuel : Nat), i + m = 32 → m < fuel → ∃ o', aComp (ok true) rowF (.items ((List.range 32).map fun (j : Nat) => AV.int (0 + (j : Int) * 1))) fuel i
      ((List.range i).map fun j => .ref (n + j)) ⟨[o], hp ++ List.replicate i zz⟩ = some ((List.range 32).map fun j => .ref (n + j), ⟨[o'], hp ++ List.replicate 32 zz⟩) := by
  intro m
  induction m with
  | zero =>
    intro i o fuel h1 h2
    obtain ⟨fuel, rfl⟩ : ∃ f, fuel = f + 1 := ⟨fuel - 1, by omega⟩
    obtain rfl : i = 32 := by omega
    exact ⟨o, rfl⟩
  | succ m ih =>
    intro i o fuel h1 h2
    obtain ⟨fuel, rfl⟩ : ∃ f, fuel = f + 1 := ⟨fuel - 1, by omega⟩
    obtain ⟨o', e⟩ := ih (i + 1) (some (.int (0 + (i : Int) * 1))) fuel (by omega) (by omega)
    refine ⟨o', ?_⟩
    have hn : ((List.range 32).map fun (j : Nat) => AV.int (0 + (j : Int) * 1))[i]? = some (.int (0 + (i : Int) * 1)) := by
      rw [List.getElem?_map, List.getElem?_range (by omega)]; rfl
    have hf : ∀ o, rowF ⟨[o], hp ++ List.replicate i zz⟩ = some (.ref (n + i), ⟨[o], hp ++ List.replicate (i + 1) zz⟩) := fun o => by
      show (if 2 < 1000 then some (AV.ref (hp ++ List.replicate i zz).length, (⟨[o], (hp ++ List.replicate i zz) ++ [zz]⟩ : AS)) else none) = _
      rw [if_pos (by decide), List.replicate_succ', List.append_assoc, List.length_append, List.length_replicate, hl]
    rw [aComp]
    dsimp only [nxt]
    rw [hn]
    simp only [bnd, pStore, ok, List.set_cons_zero, if_true, hf]
    rw [if_pos (by simp; omega)]
    have er : ((List.range i).map fun j => AV.ref (n + j)) ++ [.ref (n + i)] = (List.range (i + 1)).map fun j => AV.ref (n + j) := by
      rw [List.range_succ, List.map_append]; rfl
    rw [er]
    exact e
end
end Mine

end
section
open PySem PySem.W PySem.Calls PyProof.Rows
set_option Elab.async false
namespace Mine
/-- the table in the heap: its rows from lo on -/
structure Tb (hp : List AO) (T : Nat → Int → Int) (lo : Nat) (H : List AO) (refs : List AV) : Prop where
  len : hp.length + 33 ≤ H.length
  pre : ∀ i, i < hp.length → H[i]? = hp[i]?
  unl : H.map AO.unl = H
  out : H[hp.length + 32]? = some (.list refs)
  rl : refs.length = 32
  row : ∀ g, lo ≤ g → g < 32 → ∃ q, hp.length ≤ q ∧ refs[g]? = some (.ref q) ∧ H[q]? = some (.list [.int (T g 0), .int (T g 1)])
section
variable {W : Nat → List Int} {K : Nat → Int} {T : Nat → Int → Int} {kv ws ms : AV} {hp H : List AO} {refs : List AV} {lo g n : Nat} {a b x y : Int} {o4 o5 o6 o7 : Option AV}
theorem Tb.step (t : Tb hp T (lo + 1) H refs) (hl : lo ≤ 30) : Tb hp (updT T lo x y) lo ((H ++ [AO.list [.int a, .int b]] ++ [AO.list [.int x, .int y]]).set (hp.length + 32) (.list (refs.set lo (.ref (H.length + 1))))) (refs.set lo (.ref (H.length + 1))) := by
  have hlen := t.len
  have hget : ∀ q, q < H.length → q ≠ hp.length + 32 → ((H ++ [AO.list [.int a, .int b]] ++ [AO.list [.int x, .int y]]).set (hp.length + 32) (.list (refs.set lo (.ref (H.length + 1)))))[q]? = H[q]? := fun q h1 h2 => by
    rw [List.getElem?_set_ne (by omega), List.append_assoc, List.getElem?_append_left h1]
  refine ⟨?_, fun i hi => ?_, ?_, ?_, ?_, fun g h1 h2 => ?_⟩
  · simp; omega
  · rw [hget i (by omega) (by omega)]; exact t.pre i hi
  · rw [List.map_set, List.map_append, List.map_append, t.unl]; rfl
  · rw [List.getElem?_set_self (by simp; omega)]
  · rw [List.length_set]; exact t.rl
  · by_cases e : g = lo
    · subst e
      refine ⟨H.length + 1, by omega, ?_, ?_⟩
      · rw [List.getElem?_set_self (by rw [t.rl]; omega)]
      · rw [List.getElem?_set_ne (by omega), List.getElem?_append_right (by simp)]
        simp [updT]
    · obtain ⟨q, q1, q2, q3⟩ := t.row g (by omega) h2
      refine ⟨q, q1, ?_, ?_⟩
      · rw [List.getElem?_set_ne (by omega)]; exact q2
      · have hq : q < H.length := (List.getElem?_eq_some_iff.mp q3).1
        rw [hget q hq, q3]
        · simp [updT, e]
        · intro e'
          have := t.out
          rw [← e', q3] at this
          have hr := t.rl
          injection this with this
          injection this with this
          rw [← this] at hr
          simp at hr
/-! the loop over the kinds -/
noncomputable def lInB : AM AF :=
  (bnd
                                      (bnd
                                        (bnd (pLoc 0) fun a =>
                                          bnd (pLoc 6) fun b => pItem a b)
                                        fun a =>
                                        bnd
                                          (bnd (ok (AV.int 1)) fun a =>
                                            bnd (pLoc 7) fun b =>
                                              pInt2 (opG Operator.Sub) a b)
                                          fun b => bnd (pCmpA CmpOp.NotEq a b) pBool)
                                      fun b =>
                                      if b = true then
                                        bnd
                                          (bnd
                                            (bnd
                                              (bnd (pLoc 5) fun a =>
                                                bnd (pLoc 7) fun b => pItem a b)
                                              fun v =>
                                              bnd
                                                (bnd
                                                  (bnd
                                                    (bnd (pLoc 3) fun a =>
                                                      bnd
                                                        (bnd (pLoc 4) fun a =>
                                                          bnd
                                                            (bnd (ok (AV.int 2)) fun a =>
                                                              bnd (pLoc 6) fun b =>
                                                                pInt2 (opG Operator.Pow) a b)
                                                            fun b => pInt2 (opG Operator.Add) a b)
                                                        fun b => pItem a b)
                                                    fun a =>
                                                    bnd (pLoc 7) fun b => pItem a b)
                                                  fun v => bnd (ok []) fun l => ok (v :: l))
                                                fun l => ok (v :: l))
                                            pMin2)
                                          fun v =>
                                          bnd (pLoc 5) fun a =>
                                            bnd (pLoc 7) fun b =>
                                              bnd (pSetItem v a b) fun x => ok AF.next
                                      else ok AF.next)
noncomputable def lS (kv ws ms : AV) (n g : Nat) (H : List AO) (a b : Int) (o6 o7 : Option AV) : AS :=
  ⟨[some kv, some ws, some ms, some (.ref (n + 32)), some (.int (g : Nat)), some (.ref H.length), o6, o7], H ++ [AO.list [.int a, .int b]]⟩
theorem pow_nat {j : Nat} (hj : j < 5) : pInt2 (opG Operator.Pow) (.int 2) (.int (j : Nat)) = ok (.int ((2 ^ j : Nat) : Int)) := by
  rw [int_pow ⟨by omega, by omega⟩, Int.toNat_natCast]
  simp
theorem min_py (a b : Int) : (if b < a then b else a) = min a b := by
  by_cases h : b < a
  · rw [if_pos h, Int.min_eq_right (by omega)]
  · rw [if_neg h, Int.min_eq_left (by omega)]
theorem min2_runs (a b : Int) (σ : AS) : pMin2 [.int a, .int b] σ = some (.int (min a b), σ) := by
  show some (AV.int (if b < a then b else a), σ) = _
  rw [min_py]
/-- a row of the table is read -/
theorem Tb.item (t : Tb hp T lo H refs) (hg : lo ≤ g) (h32 : g < 32) : ∃ q, (∀ loc X, pItem (.ref (hp.length + 32)) (.int (g : Nat)) ⟨loc, H ++ X⟩ = some (.ref q, ⟨loc, H ++ X⟩)) ∧ hp.length ≤ q ∧ H[q]? = some (.list [.int (T g 0), .int (T g 1)]) ∧
    (∀ loc X, pItem (.ref q) (.int 0) ⟨loc, H ++ X⟩ = some (.int (T g 0), ⟨loc, H ++ X⟩)) ∧ (∀ loc X, pItem (.ref q) (.int 1) ⟨loc, H ++ X⟩ = some (.int (T g 1), ⟨loc, H ++ X⟩)) := by
  obtain ⟨q, q1, q2, q3⟩ := t.row g hg h32
  have hlen := t.len
  have hq : q < H.length := (List.getElem?_eq_some_iff.mp q3).1
  refine ⟨q, fun loc X => ?_, q1, q3, fun loc X => ?_, fun loc X => ?_⟩
  · simp only [pItem]
    rw [List.getElem?_append_left (by omega), t.out]
    dsimp only
    rw [if_pos ⟨by omega, by omega⟩, Int.toNat_natCast, q2]
  · simp only [pItem]
    rw [List.getElem?_append_left hq, q3]
    rfl
  · simp only [pItem]
    rw [List.getElem?_append_left hq, q3]
    rfl
noncomputable def okK (K : Nat → Int) (j : Nat) (k : Int) : Bool := decide (K j ≠ 1 - k)
theorem lInB_0 (hk : ∀ j : Nat, j < 5 → ∀ σ, pItem kv (.int (j : Nat)) σ = some (.int (K j), σ)) (t : Tb hp T lo H refs) {j : Nat} (hj : j < 5) (hg : lo ≤ g + 2 ^ j) (h32 : g + 2 ^ j < 32) :
    lInB (lS kv ws ms hp.length g H a b (some (.int (j : Nat))) (some (.int 0))) = some (.next, lS kv ws ms hp.length g H (if K j ≠ 1 - 0 then min a (T (g + 2 ^ j) 0) else a) b (some (.int (j : Nat))) (some (.int 0))) := by
  obtain ⟨q, i1, _, _, i2, i3⟩ := t.item hg h32
  have hkj := hk j hj
  have ad : ∀ σ, pInt2 (opG Operator.Add) (.int (g : Nat)) (.int ((2 ^ j : Nat) : Int)) σ = some (.int ((g + 2 ^ j : Nat) : Int), σ) := fun σ => by rw [int_add, ← Int.natCast_add]; rfl
  have st : ∀ loc, pItem (.ref H.length) (.int 0) ⟨loc, H ++ [AO.list [.int a, .int b]]⟩ = some (.int a, ⟨loc, H ++ [AO.list [.int a, .int b]]⟩) := fun loc => by
    simp only [pItem, at0]; rfl
  have se : ∀ loc v, pSetItem (.int v) (.ref H.length) (.int 0) ⟨loc, H ++ [AO.list [.int a, .int b]]⟩ = some ((), ⟨loc, H ++ [AO.list [.int v, .int b]]⟩) := fun loc v => by
    simp only [pSetItem, at0, set0]; rfl
  have pw := pow_nat hj
  unfold lInB lS
  by_cases h : K j ≠ 1 - 0
  · rw [if_pos h]
    simp only [bnd, ok, pLoc, List.getElem?_cons_succ, List.getElem?_cons_zero, int_sub, cmp_ne, pBool, decide_true, if_true, hkj, h, ne_eq, not_false_eq_true, st, pw, ok, ad, i1, i2, min2_runs, se]
  · rw [if_neg h]
    simp only [bnd, ok, pLoc, List.getElem?_cons_succ, List.getElem?_cons_zero, int_sub, cmp_ne, pBool, decide_false, if_false, Bool.false_eq_true, hkj, h]
theorem lInB_1 (hk : ∀ j : Nat, j < 5 → ∀ σ, pItem kv (.int (j : Nat)) σ = some (.int (K j), σ)) (t : Tb hp T lo H refs) {j : Nat} (hj : j < 5) (hg : lo ≤ g + 2 ^ j) (h32 : g + 2 ^ j < 32) :
    lInB (lS kv ws ms hp.length g H a b (some (.int (j : Nat))) (some (.int 1))) = some (.next, lS kv ws ms hp.length g H a (if K j ≠ 1 - 1 then min b (T (g + 2 ^ j) 1) else b) (some (.int (j : Nat))) (some (.int 1))) := by
  obtain ⟨q, i1, _, _, i2, i3⟩ := t.item hg h32
  have hkj := hk j hj
  have ad : ∀ σ, pInt2 (opG Operator.Add) (.int (g : Nat)) (.int ((2 ^ j : Nat) : Int)) σ = some (.int ((g + 2 ^ j : Nat) : Int), σ) := fun σ => by rw [int_add, ← Int.natCast_add]; rfl
  have st : ∀ loc, pItem (.ref H.length) (.int 1) ⟨loc, H ++ [AO.list [.int a, .int b]]⟩ = some (.int b, ⟨loc, H ++ [AO.list [.int a, .int b]]⟩) := fun loc => by
    simp only [pItem, at0]; rfl
  have se : ∀ loc v, pSetItem (.int v) (.ref H.length) (.int 1) ⟨loc, H ++ [AO.list [.int a, .int b]]⟩ = some ((), ⟨loc, H ++ [AO.list [.int a, .int v]]⟩) := fun loc v => by
    simp only [pSetItem, at0, set0]; rfl
  have pw := pow_nat hj
  unfold lInB lS
  by_cases h : K j ≠ 1 - 1
  · rw [if_pos h]
    simp only [bnd, ok, pLoc, List.getElem?_cons_succ, List.getElem?_cons_zero, int_sub, cmp_ne, pBool, decide_true, if_true, hkj, h, ne_eq, not_false_eq_true, st, pw, ok, ad, i1, i3, min2_runs, se]
  · rw [if_neg h]
    simp only [bnd, ok, pLoc, List.getElem?_cons_succ, List.getElem?_cons_zero, int_sub, cmp_ne, pBool, decide_false, if_false, Bool.false_eq_true, hkj, h]
theorem lIn_runs (hk : ∀ j : Nat, j < 5 → ∀ σ, pItem kv (.int (j : Nat)) σ = some (.int (K j), σ)) (t : Tb hp T lo H refs) {j : Nat} (hj : j < 5) (hg : lo ≤ g + 2 ^ j) (h32 : g + 2 ^ j < 32) :
    ∃ o7', aFor (.items ((List.range 2).map fun (j : Nat) => AV.int (0 + (j : Int) * 1))) false n (pStore 7) lInB 64 0 (lS kv ws ms hp.length g H a b (some (.int (j : Nat))) o7) =
      some (.next, lS kv ws ms hp.length g H (if K j ≠ 1 - 0 then min a (T (g + 2 ^ j) 0) else a) (if K j ≠ 1 - 1 then min b (T (g + 2 ^ j) 1) else b) (some (.int (j : Nat))) o7') := by
  obtain ⟨σ', e1, o7', rfl⟩ := for_ind (src := .items ((List.range 2).map fun (j : Nat) => AV.int (0 + (j : Int) * 1))) (l := (List.range 2).map fun (j : Nat) => AV.int (0 + (j : Int) * 1)) (st := pStore 7) (n := n) (f := lInB)
    (P := fun i σ => ∃ o7, σ = lS kv ws ms hp.length g H (if 0 < i then (if K j ≠ 1 - 0 then min a (T (g + 2 ^ j) 0) else a) else a) (if 1 < i then (if K j ≠ 1 - 1 then min b (T (g + 2 ^ j) 1) else b) else b) (some (.int (j : Nat))) o7) (fun i σ _ => rfl) (by
      rintro i v σ hv ⟨o7, rfl⟩
      obtain ⟨hi, rfl⟩ := rng_at hv
      match i, hi with
      | 0, _ => exact ⟨_, _, rfl, lInB_0 hk t hj hg h32, some (.int 0), rfl⟩
      | 1, _ => exact ⟨_, _, rfl, lInB_1 hk t hj hg h32, some (.int 1), rfl⟩) 64 0 _ (by simp) (by simp) ⟨o7, rfl⟩
  exact ⟨o7', e1⟩
end
end Mine

end
section
open PySem PySem.W PySem.Calls PyProof.Rows
set_option Elab.async false
namespace Mine
section
variable {W : Nat → List Int} {K : Nat → Int} {T : Nat → Int → Int} {kv ws ms : AV} {hp H : List AO} {refs : List AV} {lo g n : Nat} {a b x y : Int} {o4 o5 o6 o7 : Option AV}
noncomputable def lMidB : AM AF :=
  (bnd
                            (bnd
                              (bnd
                                (bnd (pLoc 4) fun a =>
                                  bnd
                                    (bnd (ok (AV.int 2)) fun a =>
                                      bnd (pLoc 6) fun b => pInt2 (opG Operator.Pow) a b)
                                    fun b => pInt2 (opG Operator.BitAnd) a b)
                                fun a => bnd (ok (AV.int 0)) fun b => bnd (pCmpA CmpOp.Eq a b) pBool)
                              fun b =>
                              if b = true then
                                bnd
                                  (bnd
                                    (bnd (pLoc 4) fun a =>
                                      bnd
                                        (bnd (pLoc 2) fun a =>
                                          bnd (pLoc 6) fun b => pItem a b)
                                        fun b => pInt2 (opG Operator.BitAnd) a b)
                                    fun a =>
                                    bnd
                                      (bnd (pLoc 2) fun a =>
                                        bnd (pLoc 6) fun b => pItem a b)
                                      fun b => bnd (pCmpA CmpOp.Eq a b) pBool)
                                  fun b => if b = true then ok true else ok false
                              else ok false)
                            fun b =>
                            if b = true then
                              bnd (bnd (bnd (ok (AV.int 2)) fun v => bnd (ok []) fun l => ok (v :: l)) pRange1)
                                fun src =>
                                AF.unlocked fun σ =>
                                  aFor src false σ.hp.length (pStore 7) lInB 64 0 σ
                            else ok AF.next)
theorem rng2 (σ : AS) : pRange1 [.int 2] σ = some (.items ((List.range 2).map fun (j : Nat) => AV.int (0 + (j : Int) * 1)), σ) := rfl
/-- what least's values are -/
structure Lv (kv ws ms : AV) (W : Nat → List Int) (K : Nat → Int) : Prop where
  kat : ∀ j : Nat, j < 5 → ∀ σ, pItem kv (.int (j : Nat)) σ = some (.int (K j), σ)
  mat : ∀ j : Nat, j < 5 → ∀ σ, pItem ms (.int (j : Nat)) σ = some (.int (mkW W j : Nat), σ)
theorem and_nat (a b : Nat) : pInt2 (opG Operator.BitAnd) (.int (a : Nat)) (.int (b : Nat)) = ok (.int ((a &&& b : Nat) : Int)) := by
  rw [int_and, bitAnd_pp (by omega) (by omega), Int.toNat_natCast, Int.toNat_natCast]
theorem lMidB_runs (gr : Gr W) (lv : Lv kv ws ms W K) (t : Tb hp T (g + 1) H refs) (hg : g ≤ 30) {j : Nat} (hj : j < 5) :
    ∃ o7', lMidB (lS kv ws ms hp.length g H (best W K T g 0 j) (best W K T g 1 j) (some (.int (j : Nat))) o7) = some (.next, lS kv ws ms hp.length g H (best W K T g 0 (j + 1)) (best W K T g 1 (j + 1)) (some (.int (j : Nat))) o7') := by
  have pw := pow_nat hj
  have hm := lv.mat j hj
  have hb := bit_and g (by omega) j hj
  have hmk := mk_av gr (g := g) (by omega) hj
  have hu : ∀ a b, (H ++ [AO.list [.int a, .int b]]).map AO.unl = H ++ [AO.list [.int a, .int b]] := fun a b => by rw [List.map_append, t.unl]; rfl
  have c1 : ∀ (p q : Nat) σ, pCmpA CmpOp.Eq (.int (p : Nat)) (.int (q : Nat)) σ = some (.bool (decide (p = q)), σ) := fun p q σ => by
    rw [cmp_eq, show decide ((p : Int) = (q : Int)) = decide (p = q) by rw [decide_eq_decide]; omega]; rfl
  have c0 : ∀ (p : Nat) σ, pCmpA CmpOp.Eq (.int (p : Nat)) (.int 0) σ = some (.bool (decide (p = 0)), σ) := fun p σ => c1 p 0 σ
  by_cases h1 : g.testBit j = false
  · have e1 := hb.mpr h1
    by_cases h2 : g &&& mkW W j = mkW W j
    · have hav : AvT W g j := ⟨h1, hmk.mp h2⟩
      obtain ⟨a1, a2⟩ := bit_add g (by omega) j hj h1
      have := Nat.two_pow_pos j
      obtain ⟨o7', e⟩ := lIn_runs (ws := ws) (ms := ms) (a := best W K T g 0 j) (b := best W K T g 1 j) (o7 := o7) (n := (H ++ [AO.list [.int (best W K T g 0 j), .int (best W K T g 1 j)]]).length) lv.kat t hj (g := g) (by omega) a1
      refine ⟨o7', ?_⟩
      have b0 : best W K T g 0 (j + 1) = if K j ≠ 1 - 0 then min (best W K T g 0 j) (T (g + 2 ^ j) 0) else best W K T g 0 j := by
        rw [best]
        by_cases h : K j ≠ 1 - 0
        · rw [if_pos ⟨hav, h⟩, if_pos h]
        · rw [if_neg (fun h' => h h'.2), if_neg h]
      have b1 : best W K T g 1 (j + 1) = if K j ≠ 1 - 1 then min (best W K T g 1 j) (T (g + 2 ^ j) 1) else best W K T g 1 j := by
        rw [best]
        by_cases h : K j ≠ 1 - 1
        · rw [if_pos ⟨hav, h⟩, if_pos h]
        · rw [if_neg (fun h' => h h'.2), if_neg h]
      rw [b0, b1]
      unfold lS at e ⊢
      unfold lMidB
      simp only [bnd, ok, pLoc, List.getElem?_cons_succ, List.getElem?_cons_zero, pBool, decide_true, if_true, pw, and_nat, c0, e1, hm, h2, c1, rng2, AF.unlocked, e, unlock, hu]
    · refine ⟨o7, ?_⟩
      have hav : ¬ AvT W g j := fun h => h2 (hmk.mpr h.2)
      rw [best, best, if_neg (fun h => hav h.1), if_neg (fun h => hav h.1)]
      unfold lMidB lS
      simp only [bnd, ok, pLoc, List.getElem?_cons_succ, List.getElem?_cons_zero, pBool, decide_true, decide_false, if_true, if_false, Bool.false_eq_true, pw, and_nat, c0, e1, hm, h2, c1]
  · refine ⟨o7, ?_⟩
    have hav : ¬ AvT W g j := fun h => h1 h.1
    have e1 : ¬ (g &&& 2 ^ j = 0) := fun h => h1 (hb.mp h)
    rw [best, best, if_neg (fun h => hav h.1), if_neg (fun h => hav h.1)]
    unfold lMidB lS
    simp only [bnd, ok, pLoc, List.getElem?_cons_succ, List.getElem?_cons_zero, pBool, decide_false, if_false, Bool.false_eq_true, pw, and_nat, c0, e1]
theorem lMid_runs (gr : Gr W) (lv : Lv kv ws ms W K) (t : Tb hp T (g + 1) H refs) (hg : g ≤ 30) :
    ∃ o6' o7', aFor (.items ((List.range 5).map fun (j : Nat) => AV.int (0 + (j : Int) * 1))) false n (pStore 6) lMidB 64 0 (lS kv ws ms hp.length g H 9 9 o6 o7) =
      some (.next, lS kv ws ms hp.length g H (best W K T g 0 5) (best W K T g 1 5) o6' o7') := by
  obtain ⟨σ', e1, o6', o7', rfl⟩ := for_ind (src := .items ((List.range 5).map fun (j : Nat) => AV.int (0 + (j : Int) * 1))) (l := (List.range 5).map fun (j : Nat) => AV.int (0 + (j : Int) * 1)) (st := pStore 6) (n := n) (f := lMidB)
    (P := fun i σ => ∃ o6 o7, σ = lS kv ws ms hp.length g H (best W K T g 0 i) (best W K T g 1 i) o6 o7) (fun i σ _ => rfl) (by
      rintro i v σ hv ⟨o6, o7, rfl⟩
      obtain ⟨hi, rfl⟩ := rng_at hv
      obtain ⟨o7', e⟩ := lMidB_runs gr lv t hg hi (o7 := o7)
      exact ⟨_, _, rfl, e, _, o7', rfl⟩) 64 0 _ (by simp) (by simp) ⟨o6, o7, rfl⟩
  rw [List.length_map, List.length_range] at e1
  exact ⟨o6', o7', e1⟩
noncomputable def lOutB : AM AF :=
  (andThen
                  (bnd
                    (bnd
                      (bnd (ok (AV.int 9)) fun v =>
                        bnd (bnd (ok (AV.int 9)) fun v => bnd (ok []) fun l => ok (v :: l)) fun l => ok (v :: l))
                      pNewList)
                    fun v => bnd (pStore 5 v) fun x => ok AF.next)
                  (andThen
                    (bnd (bnd (bnd (ok (AV.int 5)) fun v => bnd (ok []) fun l => ok (v :: l)) pRange1) fun src =>
                      AF.unlocked fun σ =>
                        aFor src false σ.hp.length (pStore 6) lMidB 64 0 σ)
                    (bnd
                      (bnd
                        (bnd
                          (bnd
                            (bnd (bnd (pLoc 5) fun a => bnd (ok (AV.int 0)) fun b => pItem a b)
                              fun v =>
                              bnd
                                (bnd
                                  (bnd
                                    (bnd (pLoc 5) fun a => bnd (ok (AV.int 1)) fun b => pItem a b)
                                    fun a => bnd (ok (AV.int 1)) fun b => pInt2 (opG Operator.Add) a b)
                                  fun v => bnd (ok []) fun l => ok (v :: l))
                                fun l => ok (v :: l))
                            pMin2)
                          fun v =>
                          bnd
                            (bnd
                              (bnd
                                (bnd
                                  (bnd (pLoc 5) fun a => bnd (ok (AV.int 1)) fun b => pItem a b)
                                  fun v =>
                                  bnd
                                    (bnd
                                      (bnd
                                        (bnd (pLoc 5) fun a =>
                                          bnd (ok (AV.int 0)) fun b => pItem a b)
                                        fun a => bnd (ok (AV.int 1)) fun b => pInt2 (opG Operator.Add) a b)
                                      fun v => bnd (ok []) fun l => ok (v :: l))
                                    fun l => ok (v :: l))
                                pMin2)
                              fun v => bnd (ok []) fun l => ok (v :: l))
                            fun l => ok (v :: l))
                        pNewList)
                      fun v =>
                      bnd (pLoc 3) fun a =>
                        bnd (pLoc 4) fun b => bnd (pSetItem v a b) fun x => ok AF.next)))
noncomputable def lO (kv ws ms : AV) (n : Nat) (H : List AO) (o4 o5 o6 o7 : Option AV) : AS :=
  ⟨[some kv, some ws, some ms, some (.ref (n + 32)), o4, o5, o6, o7], H⟩
inductive LOutI (W : Nat → List Int) (K : Nat → Int) (kv ws ms : AV) (hp : List AO) (lo : Nat) (σ : AS) : Prop
  | mk (T : Nat → Int → Int) (H : List AO) (refs : List AV) (o4 o5 o6 o7 : Option AV) (e : σ = lO kv ws ms hp.length H o4 o5 o6 o7) (t : Tb hp T lo H refs) (tt : Tab W K T lo)
theorem lOutB_runs (gr : Gr W) (lv : Lv kv ws ms W K) (t : Tb hp T (g + 1) H refs) (tt : Tab W K T (g + 1)) (hg : g ≤ 30) :
    ∃ σ', lOutB (lO kv ws ms hp.length H (some (.int (g : Nat))) o5 o6 o7) = some (.next, σ') ∧ LOutI W K kv ws ms hp g σ' := by
  obtain ⟨o6', o7', e⟩ := lMid_runs (o6 := o6) (o7 := o7) (n := (H ++ [AO.list [.int 9, .int 9]]).length) gr lv t hg
  have hlen := t.len
  refine ⟨_, ?_, ⟨_, _, _, some (.int (g : Nat)), some (.ref H.length), o6', o7', rfl, t.step hg (a := best W K T g 0 5) (b := best W K T g 1 5) (x := min (best W K T g 0 5) (best W K T g 1 5 + 1)) (y := min (best W K T g 1 5) (best W K T g 0 5 + 1)), tt.step hg rfl rfl⟩⟩
  have nl : ∀ loc, pNewList [.int 9, .int 9] ⟨loc, H⟩ = some (.ref H.length, ⟨loc, H ++ [AO.list [.int 9, .int 9]]⟩) := fun _ => rfl
  have hu : ∀ a b, (H ++ [AO.list [.int a, .int b]]).map AO.unl = H ++ [AO.list [.int a, .int b]] := fun a b => by rw [List.map_append, t.unl]; rfl
  have i0 : ∀ loc a b, pItem (.ref H.length) (.int 0) ⟨loc, H ++ [AO.list [.int a, .int b]]⟩ = some (.int a, ⟨loc, H ++ [AO.list [.int a, .int b]]⟩) := fun loc a b => by
    simp only [pItem, at0]; rfl
  have i1 : ∀ loc a b, pItem (.ref H.length) (.int 1) ⟨loc, H ++ [AO.list [.int a, .int b]]⟩ = some (.int b, ⟨loc, H ++ [AO.list [.int a, .int b]]⟩) := fun loc a b => by
    simp only [pItem, at0]; rfl
  have nl2 : ∀ loc a b x y, pNewList [.int x, .int y] ⟨loc, H ++ [AO.list [.int a, .int b]]⟩ = some (.ref (H.length + 1), ⟨loc, H ++ [AO.list [.int a, .int b]] ++ [AO.list [.int x, .int y]]⟩) := fun loc a b x y => by
    simp [pNewList]
  have se : ∀ loc a b x y, pSetItem (.ref (H.length + 1)) (.ref (hp.length + 32)) (.int (g : Nat)) ⟨loc, H ++ [AO.list [.int a, .int b]] ++ [AO.list [.int x, .int y]]⟩ =
      some ((), ⟨loc, (H ++ [AO.list [.int a, .int b]] ++ [AO.list [.int x, .int y]]).set (hp.length + 32) (.list (refs.set g (.ref (H.length + 1))))⟩) := fun loc a b x y => by
    simp only [pSetItem]
    rw [List.append_assoc, List.getElem?_append_left (by omega), t.out]
    dsimp only
    rw [if_pos ⟨by omega, by omega, by rw [t.rl]; omega⟩, Int.toNat_natCast]
  unfold lS at e
  unfold lOutB lO
  simp only [andThen, bnd, ok, pLoc, pStore, List.set_cons_succ, List.set_cons_zero, List.getElem?_cons_succ, List.getElem?_cons_zero, int_add, nl, rng5, AF.unlocked, e, unlock, hu, i0, i1, min2_runs, nl2, se]
end
end Mine

end
section
open PySem PySem.W PySem.Calls PyProof.Rows
set_option Elab.async false
namespace Mine
section
variable {W : Nat → List Int} {K : Nat → Int} {T : Nat → Int → Int} {kv ws ms : AV} {hp H : List AO} {refs : List AV} {lo g n : Nat} {a b x y : Int} {o4 o5 o6 o7 : Option AV}
theorem tb0 (hu : hp.map AO.unl = hp) : Tb hp (fun _ _ => 0) 31 (hp ++ List.replicate 32 zz ++ [.list ((List.range 32).map fun j => .ref (hp.length + j))]) ((List.range 32).map fun j => .ref (hp.length + j)) := by
  refine ⟨?_, fun i hi => ?_, ?_, ?_, ?_, fun g h1 h2 => ⟨hp.length + g, by omega, ?_, ?_⟩⟩
  · simp
  · rw [List.append_assoc, List.getElem?_append_left hi]
  · rw [List.map_append, List.map_append, hu, List.map_replicate]; rfl
  · rw [List.getElem?_append_right (by simp)]; simp
  · simp
  · rw [List.getElem?_map, List.getElem?_range h2]; rfl
  · rw [List.append_assoc, List.getElem?_append_right (by omega), List.getElem?_append_left (by simp; omega), List.getElem?_replicate, if_pos (by omega)]
    rfl
theorem tab0 : Tab W K (fun _ _ => 0) 31 := ⟨⟨rfl, rfl⟩, fun g h1 h2 => by omega⟩
theorem down_at {n i : Nat} {v : AV} (h : ((List.range n).map fun (j : Nat) => AV.int (30 + (j : Int) * (-1)))[i]? = some v) : i < n ∧ v = .int (30 + (i : Int) * (-1)) := by
  rw [List.getElem?_map] at h
  by_cases hi : i < n
  · rw [List.getElem?_range hi] at h
    exact ⟨hi, (Option.some.inj h).symm⟩
  · rw [List.getElem?_eq_none (by simp; omega)] at h
    cases h
theorem lOut_runs (gr : Gr W) (lv : Lv kv ws ms W K) (t : Tb hp T 31 H refs) (tt : Tab W K T 31) :
    ∃ σ', aFor (.items ((List.range 31).map fun (j : Nat) => AV.int (30 + (j : Int) * (-1)))) false n (pStore 4) lOutB 64 0 (lO kv ws ms hp.length H o4 o5 o6 o7) = some (.next, σ') ∧ LOutI W K kv ws ms hp 0 σ' := by
  obtain ⟨σ', e1, h⟩ := for_ind (src := .items ((List.range 31).map fun (j : Nat) => AV.int (30 + (j : Int) * (-1)))) (l := (List.range 31).map fun (j : Nat) => AV.int (30 + (j : Int) * (-1))) (st := pStore 4) (n := n) (f := lOutB)
    (P := fun i σ => LOutI W K kv ws ms hp (31 - i) σ) (fun i σ _ => rfl) (by
      rintro i v σ hv ⟨T, H, refs, o4, o5, o6, o7, rfl, t, tt⟩
      obtain ⟨hi, rfl⟩ := down_at hv
      obtain ⟨g, rfl, hg⟩ : ∃ g, i = 30 - g ∧ g ≤ 30 := ⟨30 - i, by omega, by omega⟩
      rw [show 31 - (30 - g) = g + 1 by omega] at t tt
      obtain ⟨σ', e, h'⟩ := lOutB_runs gr lv t tt hg (o5 := o5) (o6 := o6) (o7 := o7)
      refine ⟨_, σ', rfl, ?_, ?_⟩
      · rw [show (30 : Int) + ((30 - g : Nat) : Int) * (-1) = (g : Nat) by omega]
        exact e
      · rw [show 31 - (30 - g + 1) = g by omega]
        exact h') 64 0 _ (by simp) (by simp) ⟨T, H, refs, o4, o5, o6, o7, rfl, t, tt⟩
  rw [List.length_map, List.length_range] at h
  exact ⟨σ', e1, h⟩
theorem rng32 (σ : AS) : pRange1 [.int 32] σ = some (.items ((List.range 32).map fun (j : Nat) => AV.int (0 + (j : Int) * 1)), σ) := rfl
theorem rng30 (σ : AS) : pRange3 [.int 30, .int (-1), .int (-1)] σ = some (.items ((List.range 31).map fun (j : Nat) => AV.int (30 + (j : Int) * (-1))), σ) := rfl
theorem rows_run (hu : hp.map AO.unl = hp) (loc : List (Option AV)) : pComp [] (ok true) rowF 40 pNewList (.items ((List.range 32).map fun (j : Nat) => AV.int (0 + (j : Int) * 1))) ⟨loc, hp⟩ =
    some (.ref (hp.length + 32), ⟨loc, hp ++ List.replicate 32 zz ++ [.list ((List.range 32).map fun j => .ref (hp.length + j))]⟩) := by
  obtain ⟨o', e⟩ := rows_go (hp := hp) (n := hp.length) rfl 32 0 none 40 rfl (by decide)
  rw [List.replicate_zero, List.append_nil] at e
  have hu2 : (hp ++ List.replicate 32 zz).map AO.unl = hp ++ List.replicate 32 zz := by rw [List.map_append, hu, List.map_replicate]; rfl
  unfold pComp
  rw [show compLoc [] ⟨loc, hp⟩ = [none] from rfl]
  dsimp only
  rw [show ([] : List AV) = (List.range 0).map fun j => AV.ref (hp.length + j) from rfl, e]
  dsimp only [unlock]
  rw [hu2]
  unfold pNewList
  rw [if_pos (by simp)]
  simp
/-- the values that _law_least is given -/
structure Lw (kv ws : AV) (W : Nat → List Int) (K : Nat → Int) : Prop where
  kat : ∀ j : Nat, j < 5 → ∀ σ, pItem kv (.int (j : Nat)) σ = some (.int (K j), σ)
  wat : Lli ws W
theorem mat5 {j : Nat} (hj : j < 5) (σ : AS) : pItem (.li ((List.range 5).map fun j => ((mkW W j : Nat) : Int))) (.int (j : Nat)) σ = some (.int (mkW W j : Nat), σ) := by
  match j, hj with
  | 0, _ => rfl
  | 1, _ => rfl
  | 2, _ => rfl
  | 3, _ => rfl
  | 4, _ => rfl
theorem least_runs (gr : Gr W) (lw : Lw kv ws W K) (hu : hp.map AO.unl = hp) (hb : ∀ m, hp.length ≤ m → hp.all (AO.below m) = true) :
    ∃ T, Tab W K T 0 ∧ settle qLeast [kv, ws] hp = some (.li [T 0 0, T 0 1], hp) := by
  have lv : Lv kv ws (.li ((List.range 5).map fun j => ((mkW W j : Nat) : Int))) W K := ⟨lw.kat, fun j hj σ => mat5 hj σ⟩
  have hu2 : (hp ++ List.replicate 32 zz ++ [AO.list ((List.range 32).map fun j => .ref (hp.length + j))]).map AO.unl = hp ++ List.replicate 32 zz ++ [AO.list ((List.range 32).map fun j => .ref (hp.length + j))] := (tb0 hu).unl
  obtain ⟨_, e, T, H, refs, o4, o5, o6, o7, rfl, t, tt⟩ := lOut_runs (n := (hp ++ List.replicate 32 zz ++ [AO.list ((List.range 32).map fun j => .ref (hp.length + j))]).length) (o4 := none) (o5 := none) (o6 := none) (o7 := none) gr lv (tb0 hu) tab0
  refine ⟨T, tt, ?_⟩
  have mr := masks_run (kv := kv) (l2 := [none, none, none, none, none, none]) gr lw.wat hu (l3 := [])
  have rr := rows_run hu
  obtain ⟨q, i1, q1, q3, _, _⟩ := t.item (g := 0) (Nat.le_refl _) (by omega)
  have i2 : ∀ loc, pItem (.ref (hp.length + 32)) (.int 0) ⟨loc, H⟩ = some (.ref q, ⟨loc, H⟩) := fun loc => by
    have := i1 loc []
    rw [List.append_nil] at this
    exact this
  have hu3 := t.unl
  have h1 : qLeast [kv, ws] hp = some (.ref q, H) := by
    show finish (fLeast ⟨[some kv, some ws, none, none, none, none, none, none], hp⟩) = _
    have : fLeast ⟨[some kv, some ws, none, none, none, none, none, none], hp⟩ = some (.ret (.ref q), lO kv ws (.li ((List.range 5).map fun j => ((mkW W j : Nat) : Int))) hp.length H o4 o5 o6 o7) := by
      unfold lO at e ⊢
      show andThen (bnd (bnd (bnd (bnd (ok (AV.int 5)) fun v => bnd (ok []) fun l => ok (v :: l)) pRange1) (pComp [(Str.ofString "waits", 1)] (ok true) mComp 40 pLi)) fun v => bnd (pStore 2 v) fun x => ok AF.next)
        (andThen (bnd (bnd (bnd (bnd (ok (AV.int 32)) fun v => bnd (ok []) fun l => ok (v :: l)) pRange1) (pComp [] (ok true) rowF 40 pNewList)) fun v => bnd (pStore 3 v) fun x => ok AF.next)
          (andThen (bnd (bnd (bnd (ok (AV.int 30)) fun v => bnd (bnd (ok (AV.int (-1))) fun v => bnd (bnd (ok (AV.int (-1))) fun v => bnd (ok []) fun l => ok (v :: l)) fun l => ok (v :: l)) fun l => ok (v :: l)) pRange3) fun src =>
            AF.unlocked fun σ => aFor src false σ.hp.length (pStore 4) lOutB 64 0 σ) _)) _ = _
      simp only [andThen, bnd, ok, pLoc, pStore, List.set_cons_succ, List.set_cons_zero, List.getElem?_cons_succ, List.getElem?_cons_zero, rng5, mr, rng32, rr, rng30, AF.unlocked, e, unlock, hu3, i2]
    rw [this]
    rfl
  unfold settle
  rw [h1]
  dsimp only
  have ht : H.take hp.length = hp := by
    apply List.ext_getElem?
    intro i
    rw [List.getElem?_take]
    by_cases hi : i < hp.length
    · rw [if_pos hi, t.pre i hi]
    · rw [if_neg hi, List.getElem?_eq_none (by omega)]
  rw [ht, if_pos (hb _ (Nat.le_refl _))]
  have b1 : ((AV.ref q).below hp.length) = false := decide_eq_false (by omega)
  rw [b1, if_neg (by simp), q3]
  rfl
end
end Mine

end
section
open PySem PySem.W PySem.Calls PyProof.Rows
set_option Elab.async false
namespace Mine
/-! the law's values -/
noncomputable def tOf (x : Nat) : Nat := match x % 8 with | 0 => 4 | 1 => 8 | 2 => 4 | 3 => 8 | 4 => 4 | 5 => 8 | 6 => 6 | _ => 12
noncomputable def kOf (x : Nat) : Int := match x % 8 with | 0 => 0 | 1 => 1 | 2 => 0 | 3 => 1 | 4 => 0 | 5 => 1 | _ => 2
noncomputable def rOf (x : Nat) : Nat := x / 8 % 4096
noncomputable def bitOf (x : Nat) (e : Nat) : Nat := x / 32768 / 2 ^ e % 2
noncomputable def wB (x e : Nat) : Bool := decide (bitOf x e ≠ 0)
noncomputable def wOf (v : Nat → Nat) (j : Nat) : List Int := ((List.range j).filter fun e => wB (v j) e).map fun (e : Nat) => (e : Int)
theorem wOf_gr (v : Nat → Nat) : Gr (wOf v) := by
  refine ⟨fun j x hx => ?_, fun j => ?_, fun j hj => ?_⟩
  · obtain ⟨e, he, rfl⟩ := List.mem_map.mp hx
    have := List.mem_range.mp (List.mem_filter.mp he).1
    omega
  · unfold wOf
    rw [List.Nodup, List.pairwise_map]
    refine List.Pairwise.imp ?_ (List.Pairwise.filter _ (List.nodup_range (n := j)))
    intro a b hab h
    exact hab (by omega)
  · unfold wOf
    rw [List.length_map]
    refine Nat.le_trans (List.length_filter_le _ _) ?_
    simp; omega
theorem of8 (P : Nat → Prop) (h : ∀ i, i < 8 → P i) (x : Nat) : P (x % 8) := h _ (Nat.mod_lt _ (by decide))
noncomputable def tO8 (i : Nat) : Nat := match i with | 0 => 4 | 1 => 8 | 2 => 4 | 3 => 8 | 4 => 4 | 5 => 8 | 6 => 6 | _ => 12
noncomputable def kO8 (i : Nat) : Int := match i with | 0 => 0 | 1 => 1 | 2 => 0 | 3 => 1 | 4 => 0 | 5 => 1 | _ => 2
theorem tOf_lt (x : Nat) : tOf x < 16 := of8 (fun i => tO8 i < 16) (by decide) x
theorem tk1 (x : Nat) : tOf x = 8 ↔ kOf x = 1 := of8 (fun i => tO8 i = 8 ↔ kO8 i = 1) (by decide) x
theorem tk0 (x : Nat) : tOf x = 4 ↔ kOf x = 0 := of8 (fun i => tO8 i = 4 ↔ kO8 i = 0) (by decide) x
theorem li5 {f : Nat → Int} {j : Nat} (hj : j < 5) (σ : AS) : pItem (.li ((List.range 5).map f)) (.int (j : Nat)) σ = some (.int (f j), σ) := by
  match j, hj with
  | 0, _ => rfl
  | 1, _ => rfl
  | 2, _ => rfl
  | 3, _ => rfl
  | 4, _ => rfl
/-- a comprehension over a frozen list, of ints, with no test -/
theorem comp_li {l : List Int} {f : AM AV} {F : Int → Int} {loc : List (Option AV)} {hp : List AO} (hf : ∀ x ∈ l, f ⟨[some (.int x)], hp⟩ = some (.int (F x), ⟨[some (.int x)], hp⟩)) (hl : l.length < 40) (hu : hp.map AO.unl = hp) :
    pComp [] (ok true) f 40 pLi (.items (l.map .int)) ⟨loc, hp⟩ = some (.li (l.map F), ⟨loc, hp⟩) := by
  rw [comp_runs (l := l.map .int) (loc' := []) (fun _ => true) (fun v => match v with | .int e => .int (F e) | _ => .none) rfl (fun o i => rfl) (fun _ _ => rfl)
    (by
      intro v hv _
      obtain ⟨e, he, rfl⟩ := List.mem_map.mp hv
      exact hf e he) (by rw [List.length_map]; omega) (by rw [List.length_map]; omega), hu]
  have e1 : ((l.map AV.int).filter fun _ => true).map (fun v => match v with | .int e => AV.int (F e) | _ => .none) = (l.map F).map .int := by
    rw [List.filter_eq_self.mpr (fun _ _ => rfl), List.map_map, List.map_map]
    rfl
  rw [e1]
  unfold pLi
  rw [intsOf_map]
  dsimp only
  rw [if_pos (by rw [List.length_map]; omega)]
theorem ten6 (σ : AS) : pInt2 (opG Operator.Pow) (.int 10) (.int 6) σ = some (.int 1000000, σ) := rfl
noncomputable def drawF : AM AV :=
  (bnd (bnd (bnd (pLoc 0) fun v => bnd (ok []) fun l => ok (v :: l)) pInt) fun a =>
              bnd (bnd (ok (AV.int 10)) fun a => bnd (ok (AV.int 6)) fun b => pInt2 (opG Operator.Pow) a b) fun b =>
                pInt2 (opG Operator.Mod) a b)
theorem drawF_runs (x : Int) (hp : List AO) : drawF ⟨[some (.int x)], hp⟩ = some (.int (x % 1000000), ⟨[some (.int x)], hp⟩) := by
  have pi : ∀ σ, pInt [.int x] σ = some (.int x, σ) := fun _ => rfl
  unfold drawF
  simp only [bnd, ok, pLoc, List.getElem?_cons_zero, pi, ten6, int_mod (a := x) (b := 1000000) (by decide)]
noncomputable def modeF : AM AV :=
  (bnd
                  (bnd (ok (AV.int 4096)) fun a =>
                    bnd
                      (bnd
                        (bnd
                          (bnd (ok (AV.int 4)) fun v =>
                            bnd
                              (bnd (ok (AV.int 8)) fun v =>
                                bnd
                                  (bnd (ok (AV.int 4)) fun v =>
                                    bnd
                                      (bnd (ok (AV.int 8)) fun v =>
                                        bnd
                                          (bnd (ok (AV.int 4)) fun v =>
                                            bnd
                                              (bnd (ok (AV.int 8)) fun v =>
                                                bnd
                                                  (bnd (ok (AV.int 6)) fun v =>
                                                    bnd (bnd (ok (AV.int 12)) fun v => bnd (ok []) fun l => ok (v :: l))
                                                      fun l => ok (v :: l))
                                                  fun l => ok (v :: l))
                                              fun l => ok (v :: l))
                                          fun l => ok (v :: l))
                                      fun l => ok (v :: l))
                                  fun l => ok (v :: l))
                              fun l => ok (v :: l))
                          pTup)
                        fun a =>
                        bnd (bnd (pLoc 0) fun a => bnd (ok (AV.int 8)) fun b => pInt2 (opG Operator.Mod) a b) fun b =>
                          pItem a b)
                      fun b => pInt2 (opG Operator.Mult) a b)
                  fun a =>
                  bnd
                    (bnd (bnd (pLoc 0) fun a => bnd (ok (AV.int 8)) fun b => pInt2 (opG Operator.FloorDiv) a b) fun a =>
                      bnd (ok (AV.int 4096)) fun b => pInt2 (opG Operator.Mod) a b)
                    fun b => pInt2 (opG Operator.Add) a b)
noncomputable def kindF : AM AV :=
  (bnd
                      (bnd
                        (bnd (ok (AV.int 0)) fun v =>
                          bnd
                            (bnd (ok (AV.int 1)) fun v =>
                              bnd
                                (bnd (ok (AV.int 0)) fun v =>
                                  bnd
                                    (bnd (ok (AV.int 1)) fun v =>
                                      bnd
                                        (bnd (ok (AV.int 0)) fun v =>
                                          bnd
                                            (bnd (ok (AV.int 1)) fun v =>
                                              bnd
                                                (bnd (ok (AV.int 2)) fun v =>
                                                  bnd (bnd (ok (AV.int 2)) fun v => bnd (ok []) fun l => ok (v :: l))
                                                    fun l => ok (v :: l))
                                                fun l => ok (v :: l))
                                            fun l => ok (v :: l))
                                        fun l => ok (v :: l))
                                    fun l => ok (v :: l))
                                fun l => ok (v :: l))
                            fun l => ok (v :: l))
                        pTup)
                      fun a =>
                      bnd (bnd (pLoc 0) fun a => bnd (ok (AV.int 8)) fun b => pInt2 (opG Operator.Mod) a b) fun b =>
                        pItem a b)
noncomputable def rankF : AM AV :=
  (bnd (bnd (pLoc 0) fun a => bnd (ok (AV.int 8)) fun b => pInt2 (opG Operator.FloorDiv) a b) fun a =>
                      bnd (ok (AV.int 4096)) fun b => pInt2 (opG Operator.Mod) a b)
theorem tup8 {i : Nat} (hi : i < 8) (σ : AS) : pItem (.tup [4, 8, 4, 8, 4, 8, 6, 12]) (.int (i : Nat)) σ = some (.int (tO8 i : Nat), σ) ∧ pItem (.tup [0, 1, 0, 1, 0, 1, 2, 2]) (.int (i : Nat)) σ = some (.int (kO8 i), σ) := by
  match i, hi with
  | 0, _ => exact ⟨rfl, rfl⟩
  | 1, _ => exact ⟨rfl, rfl⟩
  | 2, _ => exact ⟨rfl, rfl⟩
  | 3, _ => exact ⟨rfl, rfl⟩
  | 4, _ => exact ⟨rfl, rfl⟩
  | 5, _ => exact ⟨rfl, rfl⟩
  | 6, _ => exact ⟨rfl, rfl⟩
  | 7, _ => exact ⟨rfl, rfl⟩
theorem mod8 (x : Nat) : pInt2 (opG Operator.Mod) (.int (x : Nat)) (.int 8) = ok (.int ((x % 8 : Nat) : Int)) := by
  rw [int_mod (by decide)]; rfl
theorem div8 (x : Nat) : pInt2 (opG Operator.FloorDiv) (.int (x : Nat)) (.int 8) = ok (.int ((x / 8 : Nat) : Int)) := by
  rw [int_div (by decide) (by decide)]; rfl
theorem mod4096 (x : Nat) : pInt2 (opG Operator.Mod) (.int (x : Nat)) (.int 4096) = ok (.int ((x % 4096 : Nat) : Int)) := by
  rw [int_mod (by decide)]; rfl
theorem mul4096 (x : Nat) : pInt2 (opG Operator.Mult) (.int 4096) (.int (x : Nat)) = ok (.int (4096 * (x : Int))) := rfl
theorem modeF_runs (x : Nat) (hp : List AO) : modeF ⟨[some (.int (x : Nat))], hp⟩ = some (.int (4096 * (tOf x : Int) + rOf x), ⟨[some (.int (x : Nat))], hp⟩) := by
  have pt : ∀ σ, pTup [.int 4, .int 8, .int 4, .int 8, .int 4, .int 8, .int 6, .int 12] σ = some (.tup [4, 8, 4, 8, 4, 8, 6, 12], σ) := fun _ => rfl
  have it := fun σ => (tup8 (i := x % 8) (Nat.mod_lt _ (by decide)) σ).1
  unfold modeF
  simp only [bnd, ok, pLoc, List.getElem?_cons_zero, int_add, pt, mod8, it, mul4096, div8, mod4096]
  rfl
theorem kindF_runs (x : Nat) (hp : List AO) : kindF ⟨[some (.int (x : Nat))], hp⟩ = some (.int (kOf x), ⟨[some (.int (x : Nat))], hp⟩) := by
  have pt : ∀ σ, pTup [.int 0, .int 1, .int 0, .int 1, .int 0, .int 1, .int 2, .int 2] σ = some (.tup [0, 1, 0, 1, 0, 1, 2, 2], σ) := fun _ => rfl
  have it := fun σ => (tup8 (i := x % 8) (Nat.mod_lt _ (by decide)) σ).2
  unfold kindF
  simp only [bnd, ok, pLoc, List.getElem?_cons_zero, pt, mod8, it]
  rfl
theorem rankF_runs (x : Nat) (hp : List AO) : rankF ⟨[some (.int (x : Nat))], hp⟩ = some (.int (rOf x : Nat), ⟨[some (.int (x : Nat))], hp⟩) := by
  unfold rankF
  simp only [bnd, ok, pLoc, List.getElem?_cons_zero, div8, mod4096]
  rfl
/-! the waits -/
noncomputable def waitT : AM Bool :=
  (bnd
                            (bnd
                              (bnd
                                (bnd (bnd (pLoc 2) fun a => bnd (pLoc 1) fun b => pItem a b) fun a =>
                                  bnd (ok (AV.int 32768)) fun b => pInt2 (opG Operator.FloorDiv) a b)
                                fun a =>
                                bnd (bnd (ok (AV.int 2)) fun a => bnd (pLoc 0) fun b => pInt2 (opG Operator.Pow) a b)
                                  fun b => pInt2 (opG Operator.FloorDiv) a b)
                              fun a => bnd (ok (AV.int 2)) fun b => pInt2 (opG Operator.Mod) a b)
                            pTruth)
noncomputable def waitF : AM AV :=
  (bnd (bnd (bnd (pLoc 0) fun v => bnd (ok []) fun l => ok (v :: l)) pRange1)
                        (pComp [(Str.ofString "j", 0), (Str.ofString "numbers", 1)] waitT
                          (pLoc 0) 40 pLi))
section
variable {v : Nat → Nat} {hp : List AO}
noncomputable def nums (v : Nat → Nat) : List Int := (List.range 5).map fun j => ((v j : Nat) : Int)
section
variable {a b x : AV} {f g : AM AV} {G : AV → AV → AM AV} {σ : AS}
theorem bnd2 (hf : f σ = some (a, σ)) (hg : g σ = some (b, σ)) (hG : G a b σ = some (x, σ)) : (bnd f fun a => bnd g fun b => G a b) σ = some (x, σ) := by
  simp only [bnd, hf, hg, hG]
theorem bnd1 {α β : Type} {f : AM α} {a : α} {G : α → AM β} {y : β} (hf : f σ = some (a, σ)) (hG : G a σ = some (y, σ)) : (bnd f G) σ = some (y, σ) := by
  simp only [bnd, hf, hG]
end
theorem nums_at {j : Nat} (hj : j < 5) (σ : AS) : pItem (.li (nums v)) (.int (j : Nat)) σ = some (.int (v j : Nat), σ) := by unfold nums; rw [li5 hj σ]
theorem wait1 (x : Nat) (σ : AS) : pInt2 (opG Operator.FloorDiv) (.int (x : Nat)) (.int 32768) σ = some (.int ((x / 32768 : Nat) : Int), σ) := by
  rw [int_div (by decide) (by decide)]; exact congrArg (fun z => ok (AV.int z) σ) (Int.natCast_ediv _ _).symm
theorem wait2 (x e : Nat) (p2 : 0 < 2 ^ e ∧ 2 ^ e < 1000000) (σ : AS) : pInt2 (opG Operator.FloorDiv) (.int ((x / 32768 : Nat) : Int)) (.int ((2 ^ e : Nat) : Int)) σ = some (.int ((x / 32768 / 2 ^ e : Nat) : Int), σ) := by
  rw [int_div (by omega) (by omega)]; exact congrArg (fun z => ok (AV.int z) σ) (Int.natCast_ediv _ _).symm
theorem wait3 (x e : Nat) (σ : AS) : pInt2 (opG Operator.Mod) (.int ((x / 32768 / 2 ^ e : Nat) : Int)) (.int 2) σ = some (.int (bitOf x e : Nat), σ) := by
  rw [int_mod (by decide)]; exact congrArg (fun z => ok (AV.int z) σ) (Int.natCast_emod _ _).symm
theorem wait4 (x e : Nat) (σ : AS) : pTruth (.int (bitOf x e : Nat)) σ = some (wB x e, σ) := by
  show some (decide (((bitOf x e : Nat) : Int) ≠ 0), σ) = _
  unfold wB
  rw [show decide (((bitOf x e : Nat) : Int) ≠ 0) = decide (bitOf x e ≠ 0) by rw [decide_eq_decide]; omega]
theorem two_pow5 : ∀ {e : Nat}, e < 5 → 0 < 2 ^ e ∧ 2 ^ e < 1000000 := by decide
theorem waitT_runs {j e : Nat} (hj : j < 5) (he : e < 5) : waitT ⟨[some (.int (e : Nat)), some (.int (j : Nat)), some (.li (nums v))], hp⟩ = some (wB (v j) e, ⟨[some (.int (e : Nat)), some (.int (j : Nat)), some (.li (nums v))], hp⟩) :=
  bnd1 (bnd2 (bnd2 (bnd2 (bnd2 rfl rfl (nums_at hj _)) rfl (wait1 _ _)) (bnd2 rfl rfl (congrFun (pow_nat he) _)) (wait2 _ _ (two_pow5 he) _)) rfl (wait3 _ _ _)) (wait4 _ _ _)
theorem rgj {j : Nat} (hj : j < 5) (σ : AS) : pRange1 [.int (j : Nat)] σ = some (.items ((List.range j).map fun (i : Nat) => AV.int (0 + (i : Int) * 1)), σ) := by
  simp only [pRange1]
  rw [if_pos ⟨by omega, by omega⟩, Int.toNat_natCast]
theorem waits_list {j : Nat} : (((List.range j).map fun (i : Nat) => AV.int (0 + (i : Int) * 1)).filter (fun x => match x with | .int e => wB (v j) e.toNat | _ => false)).map (fun x => x) = (wOf v j).map .int := by
  rw [List.filter_map, List.map_id']
  unfold wOf
  rw [List.map_map]
  have a1 : ∀ i : Nat, 0 + (i : Int) * 1 = i := fun i => by omega
  have f1 : ((fun x => match x with | .int e => wB (v j) e.toNat | _ => false) ∘ fun (i : Nat) => AV.int (0 + (i : Int) * 1)) = fun e => wB (v j) e := by
    funext i; simp only [Function.comp, a1, Int.toNat_natCast]
  have f2 : (fun (i : Nat) => AV.int (0 + (i : Int) * 1)) = (AV.int ∘ fun (e : Nat) => (e : Int)) := by
    funext i; simp only [Function.comp, a1]
  rw [f1, f2]
theorem li_end {l : List Int} (h : l.length < 1000) (σ : AS) : pLi (l.map .int) σ = some (.li l, σ) := by
  unfold pLi
  rw [intsOf_map]
  dsimp only
  rw [if_pos h]
theorem waitF_comp (hu : hp.map AO.unl = hp) {j : Nat} (hj : j < 5) : pComp [(Str.ofString "j", 0), (Str.ofString "numbers", 1)] waitT (pLoc 0) 40 pLi (.items ((List.range j).map fun (i : Nat) => AV.int (0 + (i : Int) * 1))) ⟨[some (.int (j : Nat)), some (.li (nums v))], hp⟩ =
    some (.li (wOf v j), ⟨[some (.int (j : Nat)), some (.li (nums v))], hp⟩) := by
  have m : ∀ x ∈ (List.range j).map (fun (i : Nat) => AV.int (0 + (i : Int) * 1)), ∃ e : Nat, e < j ∧ x = .int (e : Nat) := fun x hx => by
    obtain ⟨e, he, rfl⟩ := List.mem_map.mp hx
    exact ⟨e, List.mem_range.mp he, by simp⟩
  rw [comp_runs (l := (List.range j).map fun (i : Nat) => AV.int (0 + (i : Int) * 1)) (loc' := [some (.int (j : Nat)), some (.li (nums v))]) (fun x => match x with | .int e => wB (v j) e.toNat | _ => false) (fun x => x) rfl (fun o i => rfl)
    (by
      intro x hx
      obtain ⟨e, he, rfl⟩ := m x hx
      rw [waitT_runs hj (by omega)]
      dsimp only
      rw [Int.toNat_natCast])
    (by
      intro x hx _
      rfl) (by simp; omega) (by simp; omega), hu]
  rw [waits_list]
  exact li_end (Nat.lt_of_le_of_lt ((wOf_gr v).le j hj) (by omega)) _
theorem waitF_src {j : Nat} (hj : j < 5) (σ : AS) (e : (bnd (pLoc 0) fun v => bnd (ok []) fun l => ok (v :: l)) σ = some ([.int (j : Nat)], σ)) : (bnd (bnd (pLoc 0) fun v => bnd (ok []) fun l => ok (v :: l)) pRange1) σ = some (.items ((List.range j).map fun (i : Nat) => AV.int (0 + (i : Int) * 1)), σ) := by
  have r := rgj hj σ
  simp only [bnd] at e ⊢
  rw [e]
  exact r
theorem waitF_runs (hu : hp.map AO.unl = hp) {j : Nat} (hj : j < 5) : waitF ⟨[some (.int (j : Nat)), some (.li (nums v))], hp⟩ = some (.li (wOf v j), ⟨[some (.int (j : Nat)), some (.li (nums v))], hp⟩) := by
  have h2 := waitF_comp (v := v) hu hj
  have h1 := waitF_src hj ⟨[some (.int (j : Nat)), some (.li (nums v))], hp⟩ rfl
  unfold waitF
  rw [bnd, h1]
  exact h2
theorem waits_run (hu : hp.map AO.unl = hp) {o0 o1 : Option AV} {l3 : List (Option AV)} : pComp [(Str.ofString "numbers", 2)] (ok true) waitF 40 pLli (.items ((List.range 5).map fun (j : Nat) => AV.int (0 + (j : Int) * 1))) ⟨o0 :: o1 :: some (.li (nums v)) :: l3, hp⟩ =
    some (.lli [wOf v 0, wOf v 1, wOf v 2, wOf v 3, wOf v 4], ⟨o0 :: o1 :: some (.li (nums v)) :: l3, hp⟩) := by
  have m : ∀ x ∈ (List.range 5).map (fun (j : Nat) => AV.int (0 + (j : Int) * 1)), ∃ j : Nat, j < 5 ∧ x = .int (j : Nat) := fun x hx => by
    obtain ⟨j, hj, rfl⟩ := List.mem_map.mp hx
    exact ⟨j, List.mem_range.mp hj, by simp⟩
  rw [comp_runs (l := (List.range 5).map fun (j : Nat) => AV.int (0 + (j : Int) * 1)) (loc' := [some (.li (nums v))]) (fun _ => true) (fun x => match x with | .int e => .li (wOf v e.toNat) | _ => .none) rfl (fun o i => rfl) (fun _ _ => rfl)
    (by
      intro x hx _
      obtain ⟨j, hj, rfl⟩ := m x hx
      rw [waitF_runs hu hj]
      dsimp only
      rw [Int.toNat_natCast]) (by simp) (by simp), hu]
  rfl
end
end Mine

end
section
open PySem PySem.W PySem.Calls PyProof.Rows
set_option Elab.async false
namespace Mine
theorem all_int (l : List Int) (m : Nat) : (l.map AV.int).all (AV.below m) = true := by
  rw [List.all_eq_true]
  intro x hx
  obtain ⟨y, _, rfl⟩ := List.mem_map.mp hx
  rfl
theorem all_T (l : List Int) (m : Nat) : (l.map T).all (AV.below m) = true := by
  rw [List.all_eq_true]
  intro x hx
  obtain ⟨y, _, rfl⟩ := List.mem_map.mp hx
  rfl
theorem below_S {p : Nat → Int} {s : Nat → List Int} {rd h C : List Int} {np nf : Int} {m : Nat} (hm : 15 ≤ m) : (hpS p s rd np nf [.list (h.map T), .list (C.map .int)]).all (AO.below m) = true := by
  have b : ∀ i, i < 15 → (AV.ref i).below m = true := fun i hi => decide_eq_true (by omega)
  have bi : ∀ i, (AV.int i).below m = true := fun _ => rfl
  unfold hpS
  simp only [List.all_cons, List.all_nil, AO.below, all_int, all_T, bi, b 1 (by decide), b 12 (by decide), b 2 (by decide), b 4 (by decide), b 6 (by decide), b 8 (by decide), b 10 (by decide), b 3 (by decide), b 5 (by decide), b 7 (by decide), b 9 (by decide), b 11 (by decide), Bool.and_true]
noncomputable def lawB : AM AF :=
  (andThen
                            (bnd
                              (bnd
                                (bnd
                                  (bnd (pLoc 3) fun v =>
                                    bnd
                                      (bnd (pLoc 6) fun v =>
                                        bnd
                                          (bnd (pLoc 8) fun v =>
                                            bnd (ok []) fun l => ok (v :: l))
                                          fun l => ok (v :: l))
                                      fun l => ok (v :: l))
                                  (lift qSwept))
                                pItems)
                              fun l =>
                              bnd
                                (storeL
                                  [9, 10] l)
                                fun x => ok AF.next)
                            (bnd
                              (bnd
                                (bnd (pLoc 9) fun a =>
                                  bnd
                                    (bnd
                                      (bnd (pLoc 5) fun v =>
                                        bnd
                                          (bnd (pLoc 4) fun v =>
                                            bnd
                                              (bnd (pLoc 6) fun v =>
                                                bnd
                                                  (bnd (pLoc 8) fun v =>
                                                    bnd (ok []) fun l => ok (v :: l))
                                                  fun l => ok (v :: l))
                                              fun l => ok (v :: l))
                                          fun l => ok (v :: l))
                                      (lift (settle qCourse)))
                                    fun b => bnd (pCmpA CmpOp.NotEq a b) pBool)
                                fun b =>
                                if b = true then ok true
                                else
                                  bnd
                                    (bnd (pLoc 10) fun a =>
                                      bnd
                                        (bnd (pLoc 7) fun a =>
                                          bnd (pLoc 8) fun b => pItem a b)
                                        fun b => bnd (pCmpA CmpOp.NotEq a b) pBool)
                                    fun b => if b = true then ok true else ok false)
                              fun b =>
                              if b = true then bnd (ok (AV.bool false)) fun v => ok (AF.ret v) else ok AF.next))
section
variable {W : Nat → List Int} {t r : Nat → Nat} {K : Nat → Int} {TT : Nat → Int → Int} {sv dv nv mv kv rv ws lv : AV} {fst : Int} {o8 o9 o10 : Option AV}
/-- what the law keeps -/
structure Lz (sv dv nv mv kv rv ws lv : AV) (W : Nat → List Int) (t r : Nat → Nat) (K : Nat → Int) (TT : Nat → Int → Int) : Prop where
  gr : Gr W
  md : Md mv t r K
  cv : Cv rv kv ws W r K
  tb : Tab W K TT 0
  lat : ∀ k : Int, k = 0 ∨ k = 1 → ∀ σ, pItem lv (.int k) σ = some (.int (TT 0 k), σ)
  sb : ∀ n, sv.below n = true
  db : ∀ n, dv.below n = true
  nb : ∀ n, nv.below n = true
  mb : ∀ n, mv.below n = true
  lb : ∀ n, lv.below n = true
noncomputable def zS (sv dv nv mv kv rv ws lv : AV) (o8 o9 o10 : Option AV) (hp : List AO) : AS :=
  ⟨[some sv, some dv, some nv, some mv, some kv, some rv, some ws, some lv, o8, o9, o10], hp⟩
theorem mk0 : Mk 0 [] := ⟨by omega, fun x hx => absurd hx (by simp), fun j hj => by simp⟩
theorem lawB_runs (z : Lz sv dv nv mv kv rv ws lv W t r K TT) (hf : fst = 0 ∨ fst = 1) : ∃ σ' o9' o10', lawB (zS sv dv nv mv kv rv ws lv (some (.int fst)) o9 o10 []) = some (.next, σ') ∧ turnEnd true 0 σ' = some (zS sv dv nv mv kv rv ws lv (some (.int fst)) o9' o10' []) := by
  obtain ⟨C, F, p, rd, np, nf, h, hR, e1⟩ := swept_runs z.gr z.cv.wat z.md hf
  have hF := Run.least z.tb z.gr hR 0 mk0 rfl (by simp) hf
  have e2 := course_runs (fst := fst) z.gr z.cv (hp := hpS p (sW W 5) rd np nf [.list (h.map T), .list (C.map .int)]) (unlock_hpS rfl) (fun m hm => below_S (by exact hm)) hR
  have hl := z.lat fst hf
  have pit : ∀ i σ, pItems (.pr 14 i) σ = some ([.ref 14, .int i], σ) := fun _ _ => rfl
  have ne : ∀ loc, pCmpA CmpOp.NotEq (.ref 14) (.li C) ⟨loc, hpS p (sW W 5) rd np nf [.list (h.map T), .list (C.map .int)]⟩ = some (.bool false, ⟨loc, hpS p (sW W 5) rd np nf [.list (h.map T), .list (C.map .int)]⟩) := fun loc => by
    have s14 : (hpS p (sW W 5) rd np nf [.list (h.map T), .list (C.map .int)])[14]? = some (.list (C.map .int)) := rfl
    simp only [pCmpA, pEqL, listInts, s14, intsOf_map]
    simp
  refine ⟨zS sv dv nv mv kv rv ws lv (some (.int fst)) (some (.ref 14)) (some (.int F)) (hpS p (sW W 5) rd np nf [.list (h.map T), .list (C.map .int)]), none, some (.int F), ?_, ?_⟩
  · unfold lawB zS
    simp only [andThen, bnd, ok, pLoc, pStore, List.set_cons_succ, List.set_cons_zero, List.getElem?_cons_succ, List.getElem?_cons_zero, cmp_ne, pBool, decide_false, if_false, Bool.false_eq_true, lift, e1, pit, storeL, e2, ne, hl, hF, ne_eq, not_true_eq_false]
  · unfold turnEnd cut zS
    have b2 : (AV.ref 14).below 0 = false := rfl
    have b3 : ∀ i, (AV.int i).below 0 = true := fun _ => rfl
    simp only [if_true, List.take_zero, List.all_nil, List.map_cons, List.map_nil, z.sb, z.db, z.nb, z.mb, z.cv.kb, z.cv.rb, z.cv.wb, z.lb, b2, b3, Bool.false_eq_true, if_false]
theorem loop2 (z : Lz sv dv nv mv kv rv ws lv W t r K TT) : ∃ o8' o9' o10', aFor (.items ((List.range 2).map fun (j : Nat) => AV.int (0 + (j : Int) * 1))) true 0 (pStore 8) lawB 64 0 (zS sv dv nv mv kv rv ws lv o8 o9 o10 []) = some (.next, zS sv dv nv mv kv rv ws lv o8' o9' o10' []) := by
  obtain ⟨s0, a9, a10, e0, c0⟩ := lawB_runs z (fst := 0) (.inl rfl) (o9 := o9) (o10 := o10)
  obtain ⟨s1, b9, b10, e1, c1⟩ := lawB_runs z (fst := 1) (.inr rfl) (o9 := a9) (o10 := a10)
  refine ⟨some (.int 1), b9, b10, ?_⟩
  have p0 : pStore 8 (.int 0) (zS sv dv nv mv kv rv ws lv o8 o9 o10 []) = some ((), zS sv dv nv mv kv rv ws lv (some (.int 0)) o9 o10 []) := rfl
  have p1 : pStore 8 (.int 1) (zS sv dv nv mv kv rv ws lv (some (.int 0)) a9 a10 []) = some ((), zS sv dv nv mv kv rv ws lv (some (.int 1)) a9 a10 []) := rfl
  have n0 : ((List.range 2).map fun (j : Nat) => AV.int (0 + (j : Int) * 1))[0]? = some (.int 0) := rfl
  have n1 : ((List.range 2).map fun (j : Nat) => AV.int (0 + (j : Int) * 1))[1]? = some (.int 1) := rfl
  have n2 : ((List.range 2).map fun (j : Nat) => AV.int (0 + (j : Int) * 1))[2]? = none := rfl
  rw [aFor]
  dsimp only [nxt]
  rw [n0]
  simp only [bnd, p0, e0, c0]
  rw [aFor]
  dsimp only [nxt]
  rw [n1]
  simp only [bnd, p1, e1, c1]
  rw [aFor]
  dsimp only [nxt]
  rw [n2]
end
end Mine

end
section
open PySem PySem.W PySem.Calls PyProof.Rows
set_option Elab.async false
namespace Mine
theorem nums_ex {l : List Int} (h : l.length = 5) (h0 : ∀ x ∈ l, 0 ≤ x) : ∃ v, l = nums v := by
  match l, h with
  | [a, b, c, d, e], _ =>
    have ha := h0 a (by simp)
    have hb := h0 b (by simp)
    have hc := h0 c (by simp)
    have hd := h0 d (by simp)
    have he := h0 e (by simp)
    refine ⟨fun j => match j with | 0 => a.toNat | 1 => b.toNat | 2 => c.toNat | 3 => d.toNat | _ => e.toNat, ?_⟩
    show [a, b, c, d, e] = [((a.toNat : Nat) : Int), ((b.toNat : Nat) : Int), ((c.toNat : Nat) : Int), ((d.toNat : Nat) : Int), ((e.toNat : Nat) : Int)]
    rw [Int.toNat_of_nonneg ha, Int.toNat_of_nonneg hb, Int.toNat_of_nonneg hc, Int.toNat_of_nonneg hd, Int.toNat_of_nonneg he]
noncomputable def drawn (ns : List Int) : List Int := (ns.take 5).map fun x => x % 1000000
noncomputable def dflt : List Int := [3361, 3944, 69122, 36863, 396291]
theorem drawn_len (ns : List Int) : (drawn ns).length ≤ 5 := by
  unfold drawn
  rw [List.length_map, List.length_take]
  omega
theorem numbers_ex (ns : List Int) : ∃ v, drawn ns ++ dflt.drop (drawn ns).length = nums v := by
  have hl := drawn_len ns
  refine nums_ex ?_ fun x hx => ?_
  · rw [List.length_append, List.length_drop]
    show (drawn ns).length + (5 - (drawn ns).length) = 5
    omega
  · rcases List.mem_append.mp hx with h | h
    · obtain ⟨y, _, rfl⟩ := List.mem_map.mp h
      exact Int.emod_nonneg _ (by decide)
    · have := List.mem_of_mem_drop h
      simp only [dflt, List.mem_cons, List.not_mem_nil, or_false] at this
      omega
section
variable {v : Nat → Nat} {f : AM AV} {F : Nat → Int} {loc : List (Option AV)}
/-- a comprehension over the five numbers -/
theorem comp5 (hf : ∀ x : Nat, f ⟨[some (.int (x : Nat))], []⟩ = some (.int (F x), ⟨[some (.int (x : Nat))], []⟩)) : pComp [] (ok true) f 40 pLi (.items ((nums v).map .int)) ⟨loc, []⟩ = some (.li ((List.range 5).map fun j => F (v j)), ⟨loc, []⟩) := by
  rw [comp_li (l := nums v) (F := fun x => F x.toNat) (fun x hx => by
    obtain ⟨j, _, rfl⟩ := List.mem_map.mp hx
    rw [hf, Int.toNat_natCast]) (by unfold nums; simp) rfl]
  have : (nums v).map (fun x => F x.toNat) = (List.range 5).map fun j => F (v j) := by
    unfold nums
    rw [List.map_map]
    rfl
  rw [this]
end
theorem lat2 {x y : Int} (k : Int) (hk : k = 0 ∨ k = 1) (TT : Nat → Int → Int) (σ : AS) : pItem (.li [TT 0 0, TT 0 1]) (.int k) σ = some (.int (TT 0 k), σ) := by
  rcases hk with rfl | rfl <;> rfl
theorem law_true (a : Nat) (ns : List Int) (h : ns.length ≤ 63) : ∃ hp', qLaw (some (a, ns)) [.scr a ns] [] = some (.bool true, hp') := by
  obtain ⟨v, hv⟩ := numbers_ex ns
  have gr := wOf_gr v
  obtain ⟨TT, tab, el⟩ := least_runs (kv := .li ((List.range 5).map fun j => kOf (v j))) (ws := .lli [wOf v 0, wOf v 1, wOf v 2, wOf v 3, wOf v 4]) (K := fun j => kOf (v j)) (hp := []) gr ⟨fun j hj σ => li5 hj σ, fun i hi σ => lli_at hi σ⟩ rfl (fun _ _ => rfl)
  have z : Lz (.scr a ns) (.li (drawn ns)) (.li (nums v)) (.li ((List.range 5).map fun j => 4096 * (tOf (v j) : Int) + rOf (v j))) (.li ((List.range 5).map fun j => kOf (v j))) (.li ((List.range 5).map fun j => ((rOf (v j) : Nat) : Int))) (.lli [wOf v 0, wOf v 1, wOf v 2, wOf v 3, wOf v 4]) (.li [TT 0 0, TT 0 1])
      (wOf v) (fun j => tOf (v j)) (fun j => rOf (v j)) (fun j => kOf (v j)) TT :=
    ⟨gr, ⟨fun j hj σ => li5 hj σ, fun j => tOf_lt _, fun j => Nat.mod_lt _ (by decide), fun j => tk1 _, fun j => tk0 _⟩,
      ⟨fun j hj σ => li5 hj σ, fun j hj σ => li5 hj σ, fun i hi σ => lli_at hi σ, fun _ => rfl, fun _ => rfl, fun _ => rfl⟩, tab, fun k hk σ => lat2 (x := 0) (y := 0) k hk TT σ, fun _ => rfl, fun _ => rfl, fun _ => rfl, fun _ => rfl, fun _ => rfl⟩
  obtain ⟨o8, o9, o10, e2⟩ := loop2 (o8 := none) (o9 := none) (o10 := none) z
  have up : ∀ σ, pUpTo (some (a, ns)) (.scr a ns) (.int 5) σ = some (.li (ns.take 5), σ) := fun σ => by
    simp only [pUpTo]
    rw [if_pos ⟨by decide, by omega, trivial⟩]
    rfl
  have itl : ∀ l σ, pIter (.li l) σ = some (.items (l.map .int), σ) := fun _ _ => rfl
  have c1 : ∀ loc, pComp [] (ok true) drawF 40 pLi (.items ((ns.take 5).map .int)) ⟨loc, []⟩ = some (.li (drawn ns), ⟨loc, []⟩) := fun loc =>
    comp_li (fun x _ => drawF_runs x []) (by rw [List.length_take]; omega) rfl
  have pd : ∀ σ, pLi [.int 3361, .int 3944, .int 69122, .int 36863, .int 396291] σ = some (.li dflt, σ) := fun _ => rfl
  have le : ∀ σ, pLen [.li (drawn ns)] σ = some (.int (drawn ns).length, σ) := fun σ => by
    have := drawn_len ns
    show (if (drawn ns).length < 100000 then some (AV.int (drawn ns).length, σ) else none) = _
    rw [if_pos (by omega)]
  have fr : ∀ σ, pFrom (.li dflt) (.int (drawn ns).length) σ = some (.li (dflt.drop (drawn ns).length), σ) := fun σ => by
    simp only [pFrom]
    rw [if_pos ⟨by omega, by decide⟩, Int.toNat_natCast]
  have ca : ∀ σ, pCat (.li (drawn ns)) (.li (dflt.drop (drawn ns).length)) σ = some (.li (nums v), σ) := fun σ => by
    have := drawn_len ns
    have h5 : dflt.length = 5 := rfl
    simp only [pCat]
    rw [if_pos (by rw [List.length_drop]; omega), hv]
  have c2 : ∀ loc, pComp [] (ok true) modeF 40 pLi (.items ((nums v).map .int)) ⟨loc, []⟩ = some (.li ((List.range 5).map fun j => 4096 * (tOf (v j) : Int) + rOf (v j)), ⟨loc, []⟩) := fun loc => comp5 (F := fun x => 4096 * (tOf x : Int) + rOf x) (fun x => modeF_runs x [])
  have c3 : ∀ loc, pComp [] (ok true) kindF 40 pLi (.items ((nums v).map .int)) ⟨loc, []⟩ = some (.li ((List.range 5).map fun j => kOf (v j)), ⟨loc, []⟩) := fun loc => comp5 (F := kOf) (fun x => kindF_runs x [])
  have c4 : ∀ loc, pComp [] (ok true) rankF 40 pLi (.items ((nums v).map .int)) ⟨loc, []⟩ = some (.li ((List.range 5).map fun j => ((rOf (v j) : Nat) : Int)), ⟨loc, []⟩) := fun loc => comp5 (F := fun x => ((rOf x : Nat) : Int)) (fun x => rankF_runs x [])
  have c5 : ∀ o0 o1 l3, pComp [(Str.ofString "numbers", 2)] (ok true) waitF 40 pLli (.items ((List.range 5).map fun (j : Nat) => AV.int (0 + (j : Int) * 1))) ⟨o0 :: o1 :: some (.li (nums v)) :: l3, []⟩ = some (.lli [wOf v 0, wOf v 1, wOf v 2, wOf v 3, wOf v 4], ⟨o0 :: o1 :: some (.li (nums v)) :: l3, []⟩) :=
    fun o0 o1 l3 => waits_run rfl
  have l0 : ([] : List AO).length = 0 := rfl
  refine ⟨[], ?_⟩
  show finish (fLaw (some (a, ns)) ⟨[some (.scr a ns), none, none, none, none, none, none, none, none, none, none], []⟩) = _
  have : fLaw (some (a, ns)) ⟨[some (.scr a ns), none, none, none, none, none, none, none, none, none, none], []⟩ = some (.ret (.bool true), zS (.scr a ns) (.li (drawn ns)) (.li (nums v)) (.li ((List.range 5).map fun j => 4096 * (tOf (v j) : Int) + rOf (v j))) (.li ((List.range 5).map fun j => kOf (v j))) (.li ((List.range 5).map fun j => ((rOf (v j) : Nat) : Int))) (.lli [wOf v 0, wOf v 1, wOf v 2, wOf v 3, wOf v 4]) (.li [TT 0 0, TT 0 1]) o8 o9 o10 []) := by
    unfold zS at e2 ⊢
    generalize nums v = nv at *
    generalize AV.lli [wOf v 0, wOf v 1, wOf v 2, wOf v 3, wOf v 4] = ws at *
    show andThen (bnd (bnd (bnd (bnd (pLoc 0) fun a_1 => bnd (ok (AV.int 5)) fun b => pUpTo (some (a, ns)) a_1 b) pIter) (pComp [] (ok true) drawF 40 pLi)) fun v => bnd (pStore 1 v) fun x => ok AF.next)
      (andThen _ (andThen (bnd (bnd (bnd (pLoc 2) pIter) (pComp [] (ok true) modeF 40 pLi)) fun v => bnd (pStore 3 v) fun x => ok AF.next)
        (andThen (bnd (bnd (bnd (pLoc 2) pIter) (pComp [] (ok true) kindF 40 pLi)) fun v => bnd (pStore 4 v) fun x => ok AF.next)
          (andThen (bnd (bnd (bnd (pLoc 2) pIter) (pComp [] (ok true) rankF 40 pLi)) fun v => bnd (pStore 5 v) fun x => ok AF.next)
            (andThen (bnd (bnd (bnd (bnd (ok (AV.int 5)) fun v => bnd (ok []) fun l => ok (v :: l)) pRange1) (pComp [(Str.ofString "numbers", 2)] (ok true) waitF 40 pLli)) fun v => bnd (pStore 6 v) fun x => ok AF.next)
              (andThen _ (andThen (bnd (bnd (bnd (ok (AV.int 2)) fun v => bnd (ok []) fun l => ok (v :: l)) pRange1) fun src => AF.unlocked fun σ => aFor src true σ.hp.length (pStore 8) lawB 64 0 σ) _))))))) _ = _
    simp only [andThen, bnd, ok, pLoc, pStore, List.set_cons_succ, List.set_cons_zero, List.getElem?_cons_succ, List.getElem?_cons_zero, up, itl, c1, pd, le, fr, ca, c2, c3, c4, rng5, c5, lift, el, rng2, AF.unlocked, l0, e2, unlock, List.map_nil]
  rw [this]
  rfl
end Mine

end
section
open PySem PySem.W PyProof.Rows PySem.W.X
set_option Elab.async false
set_option maxRecDepth 100000
namespace Mine
theorem law_true' {h : Heap} {a : Addr} {vs : List Value} {ns : List Int} (hL : h.IsList a vs.toArray) (hI : IntsAre vs ns) (hn : ¬ (63 : Int) < (ns.length : Int)) : ∃ hp', qLaw (some (a, ns)) [.scr a ns] [] = some (.bool true, hp') := law_true a ns (by omega)
set_option maxHeartbeats 4000000 in
theorem joined : PySem.Challenge.rw_nq0183_01.Holds := hd (by w_strict (
  k_fill
  intro w s₀ s₁ mg mb G Y fa o pm cd doc dV kV ho hd hcd hD hmg hg args vals as hpre hlay hrd hwl hlo
  have KX := kIn_of Y
  refine Ground.open G ?_
  intro T B D TE TW
  wrow_args hpre hlay hrd hwl hlo
  x_fa T KX hmg
  all_lens
  rename IntsAre _ _ => hI
  rename Heap.IsList _ _ _ => hL
  rename ¬ (_ < _) => hlen
  obtain ⟨hp', e⟩ := law_true' hL hI hlen
  refine wpAny_call (topLaw (w := w) (mean := ExcName.means s₀.heap) (mg := mg) (mb := mb) KX T rfl rfl (by decide) (by decide) hL hI e ?_)
  intro h' tk' cv Z L m fps hv F
  cases hv
  refine GoodW.toG ?_
  wrow_close))
end Mine

end
theorem PySem.Challenge.cw_nq0183_01_holds : PySem.Challenge.rw_nq0183_01.Holds :=
  Mine.joined
